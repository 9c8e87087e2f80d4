import JvmDerived
import JvmDerived.Pilot.@@N@@Statement
import JvmDerived.Pilot.@@N@@Code
set_option linter.unusedVariables false
set_option linter.unusedSimpArgs false
namespace Jvm.RoadKit
open Sem ClassFile Op Lib Jvm.Stand Jvm.Free Jvm.LawKit
section New
variable {p : Program} {l : Launch} {e : Env} {R : Room} {s : State} {m : MethodId} {args : Array Value} {below : List Frame} {meth : Method} {c : Code} {T : State} {locs : List Loc} {cells slots : Nat}
theorem retI (X : Stand p l e R s m args below meth c T locs cells slots) (hx : p.tables.exec = Jvm.exec) {pc : Nat} {Ls : Array Slot} {z : Int32} {rest : List Value} (hret : meth.sig.returnType = some .int) (hd : decode c.code pc = .ok (.ireturn, 1)) {fs : List Frame}
    (hl : ∀ (f : JFrame) (acts : List Action), f.method = m → f.locked = none → f.entered = [] → (doReturn e (T.setTop f) acts (some (.int z))).1 = T.setFrames fs) : Steps p.tables e below (T.setTop (mkF m pc Ls (.int z :: rest))) (T.setFrames fs) := by
  have hm' : T.vm.method? m = some meth := X.method'
  have hn : narrow .int (.int z) = .int z := rfl
  show Steps p.tables e below (T.setTop { method := m, pc := pc, locals := Ls, stack := _ :: rest, locked := none }) _
  jvm_step X.here [X.here.top, hx, hd, hm', hret, hn]
  first | (intro acts; rw [hl _ acts rfl rfl rfl]) | rw [hl _ _ rfl rfl rfl]
  exact Steps.refl _
end New
end Jvm.RoadKit
namespace Jvm.Pilot.@@N@@
open Jvm Jvm.ClassFile Sem Op Lib Jvm.Free Jvm.Stand Jvm.LawKit Jvm.RoadKit Bundle Jvm.Pilot.@@N@@.Jvm.D
section Own
variable {p : Program} {l : Launch} {e : Env} {R : Room} {s : State} {m : MethodId} {args : Array Value} {below : List Frame} {meth : Method} {c : Code} {T : State} {locs : List Loc} {cells slots : Nat} {Z : State} {a0 : Array Value} {h h' h0 : Heap} {a b : Addr} {C nm dd : String} {v w : Value} {sl n0 : Nat} {ws ws' : List (Addr × Nat)} {ty : FieldType} {k : ClassId} {z j : Int32} {vs : List Value} {dv : Value}
/-- the cells of h stand in h' as they stood, but for the places in ws -/
def KL (h h' : Heap) (ws : List (Addr × Nat)) : Prop := h.size ≤ h'.size ∧ ∀ (x : Addr) (c : Cell), h[x]? = some c → ∃ c' : Cell, h'[x]? = some c' ∧ c'.cls = c.cls ∧ c'.vm = c.vm ∧ c'.slots.size = c.slots.size ∧ (∀ i, (x, i) ∉ ws → c'.slots[i]? = c.slots[i]?) ∧ ((∀ w ∈ ws, w.1 ≠ x) → c' = c)
theorem KL.refl (h : Heap) (ws : List (Addr × Nat)) : KL h h ws := ⟨Nat.le_refl _, fun x c q => ⟨c, q, rfl, rfl, rfl, fun _ _ => rfl, fun _ => rfl⟩⟩
theorem KL.trans (K : KL h0 h ws) (K' : KL h h' ws') (q : ∀ w ∈ ws', w ∈ ws ∨ h0.size ≤ w.1) : KL h0 h' ws := by
  refine ⟨Nat.le_trans K.1 K'.1, fun x c hx => ?_⟩
  obtain ⟨c1, a1, a2, a3, a4, a5, a6⟩ := K.2 x c hx
  obtain ⟨c2, b1, b2, b3, b4, b5, b6⟩ := K'.2 x c1 a1
  have hlt : x < h0.size := (Array.getElem?_eq_some_iff.mp hx).1
  refine ⟨c2, b1, b2.trans a2, b3.trans a3, b4.trans a4, fun i hi => ?_, fun hn => ?_⟩
  · rw [b5 i fun hm => ?_]
    · exact a5 i hi
    · rcases q _ hm with u | u
      · exact hi u
      · exact absurd hlt (Nat.not_lt.mpr u)
  · rw [b6 fun w hw e => ?_]
    · exact a6 hn
    · rcases q w hw with u | u
      · exact hn w u e
      · subst e; exact absurd hlt (Nat.not_lt.mpr u)
theorem KL.ofE (E : Ext h h') : KL h h' [] := ⟨E.1, fun x c q => ⟨c, E.2 x c q, rfl, rfl, rfl, fun _ _ => rfl, fun _ => rfl⟩⟩
theorem KL.ofW (W : Wr h h' a sl v) : KL h h' [(a, sl)] := by
  refine ⟨Nat.le_of_eq W.size.symm, fun x c q => ?_⟩
  obtain ⟨c', e1, e2, e3, e4, e5, e6, -⟩ := wr_at W q
  refine ⟨c', e1, e2, e3, e4, fun i hi => ?_, fun hn => e5 fun e => hn _ (List.mem_singleton.mpr rfl) e.symm⟩
  by_cases ex : x = a
  · subst ex; exact e6 i fun ei => hi (by rw [ei]; exact List.mem_singleton.mpr rfl)
  · rw [e5 ex]
theorem KL.ofEq (q : h' = h) : KL h h' [] := q ▸ KL.refl h []
theorem nw0 {x : Addr × Nat} : x ∉ ([] : List (Addr × Nat)) := fun q => nomatch q
theorem nwS {i i' : Nat} {L : List (Addr × Nat)} (q : a ≠ b ∨ i ≠ i') (r : (a, i) ∉ L) : (a, i) ∉ (b, i') :: L := fun y => by
  rcases List.mem_cons.mp y with u | u
  · obtain ⟨u1, u2⟩ := Prod.mk.inj u; exact q.elim (fun f => f u1) (fun f => f u2)
  · exact r u
theorem na0 {P : Addr × Nat → Prop} : ∀ w ∈ ([] : List (Addr × Nat)), P w := fun _ q => nomatch q
theorem naS {P : Addr × Nat → Prop} {x : Addr × Nat} {L : List (Addr × Nat)} (q : P x) (r : ∀ w ∈ L, P w) : ∀ w ∈ x :: L, P w := fun w y => by
  rcases List.mem_cons.mp y with u | u
  · exact u ▸ q
  · exact r w u
theorem kFld (K : KL h h' ws) (F : Fld Z h a C nm dd v) (q : (a, Jvm.RoadKit.slotOf Z C nm dd) ∉ ws) : Fld Z h' a C nm dd v := by
  obtain ⟨cell, cf, k, i, f, h1, h2, h3, h4, h5, h6, h7⟩ := F
  obtain ⟨c', e1, e2, e3, -, e5, -⟩ := K.2 a cell h1
  refine ⟨c', cf, k, i, f, e1, h2, h3, by rw [e3]; exact h4, by rw [e3]; exact h5, by rw [e2]; exact h6, ?_⟩
  rw [e5 f.slot (by simpa [Jvm.RoadKit.slotOf, h2] using q)]; exact h7
theorem kExa (K : KL h h' ws) (F : Exa Z h a C) : Exa Z h' a C := by
  obtain ⟨cell, k, h1, h2, h3, h4, h5⟩ := F
  obtain ⟨c', e1, e2, e3, e4, -⟩ := K.2 a cell h1
  exact ⟨c', k, e1, by rw [e2]; exact h2, by rw [e2]; exact h3, by rw [e3]; exact h4, by rw [e4]; exact h5⟩
theorem kArv (K : KL h h' ws) (F : Arv Z h a k ty z vs dv) (q : ∀ w ∈ ws, w.1 ≠ a) : Arv Z h' a k ty z vs dv := by
  obtain ⟨c, A, r⟩ := F
  obtain ⟨c', e1, -, -, -, -, e6⟩ := K.2 a c A.1
  exact ⟨c, ⟨(e6 q) ▸ e1, A.2⟩, r⟩
theorem kOld (K : KL h h' ws) (O : Old Z n0 h) (q : ∀ w ∈ ws, n0 ≤ w.1) : Old Z n0 h' := by
  refine ⟨O.1, Nat.le_trans O.2.1 K.1, fun x c hx => ?_⟩
  obtain ⟨c', e1, -, -, -, -, e6⟩ := K.2 x c (O.2.2 x c hx)
  have hlt : x < n0 := O.1 ▸ (Array.getElem?_eq_some_iff.mp hx).1
  rw [← e6 fun w hw e => absurd hlt (Nat.not_lt.mpr (e ▸ q w hw))]; exact e1
theorem lt_ne (q : a < h.size) (r : h.size ≤ b) : a ≠ b := Nat.ne_of_lt (Nat.lt_of_lt_of_le q r)
theorem own_wr {g : JFrame} {rest : List Value} {W : Nat} (q : g.monitorRoom = 0) (r : (rest.map fun v => v.category).sum = W) : 2 * g.monitorRoom + (rest.map fun v => v.category).sum ≤ W := by rw [q, r]; omega
theorem naO {x : Addr × Nat} {L : List (Addr × Nat)} (q : x ∈ ws ∨ sl ≤ x.1) (r : ∀ w ∈ L, w ∈ ws ∨ sl ≤ w.1) : ∀ w ∈ x :: L, w ∈ ws ∨ sl ≤ w.1 := naS (P := fun w => w ∈ ws ∨ sl ≤ w.1) q r
theorem naN {x : Addr × Nat} {L : List (Addr × Nat)} (q : x.1 ≠ a) (r : ∀ w ∈ L, w.1 ≠ a) : ∀ w ∈ x :: L, w.1 ≠ a := naS (P := fun w => w.1 ≠ a) q r
theorem own_mi {x : Addr × Nat} (i : Nat) (q : ws[i]? = some x) : x ∈ ws ∨ sl ≤ x.1 := Or.inl (List.mem_of_getElem? q)
theorem naB {P : Addr → Prop} {L : List (Addr × Nat)} (n : Nat) (e : (List.range n).map (fun i => (b, i)) = L) (q : P b) : ∀ w ∈ L, P w.1 := fun w hw => by
  rw [← e] at hw
  obtain ⟨i, -, rfl⟩ := List.mem_map.mp hw
  exact q
theorem naNB {L : List (Addr × Nat)} (n : Nat) (e : (List.range n).map (fun i => (b, i)) = L) (q : b ≠ a) : ∀ w ∈ L, w.1 ≠ a := naB (P := fun x => x ≠ a) n e q
theorem naOB {L : List (Addr × Nat)} (n : Nat) (e : (List.range n).map (fun i => (b, i)) = L) (q : sl ≤ b) : ∀ w ∈ L, w ∈ ws ∨ sl ≤ w.1 := fun w hw => Or.inr (naB (P := fun x => sl ≤ x) n e q w hw)
theorem nwB {i : Nat} {L : List (Addr × Nat)} (n : Nat) (e : (List.range n).map (fun i => (b, i)) = L) (q : a ≠ b) : (a, i) ∉ L := fun y => naB (P := fun x => x ≠ a) n e q.symm _ y rfl
theorem naM {Q : Addr × Nat → Prop} {L : List (Addr × Nat)} (n : Nat) (e : (L.take n).map Prod.fst = List.replicate n b) (q : ∀ i, Q (b, i)) (r : ∀ w ∈ L.drop n, Q w) : ∀ w ∈ L, Q w := fun w hw => by
  rw [← List.take_append_drop n L] at hw
  rcases List.mem_append.mp hw with u | u
  · have h1 := List.mem_map_of_mem (f := Prod.fst) u
    rw [e] at h1
    have h2 := List.eq_of_mem_replicate h1
    obtain ⟨x, i⟩ := w
    have h3 : x = b := h2
    rw [h3]; exact q i
  · exact r w u
theorem naNM {L : List (Addr × Nat)} (n : Nat) (e : (L.take n).map Prod.fst = List.replicate n b) (q : b ≠ a) (r : ∀ w ∈ L.drop n, w.1 ≠ a) : ∀ w ∈ L, w.1 ≠ a := naM (Q := fun w => w.1 ≠ a) n e (fun _ => q) r
theorem naOM {L : List (Addr × Nat)} (n : Nat) (e : (L.take n).map Prod.fst = List.replicate n b) (q : sl ≤ b) (r : ∀ w ∈ L.drop n, w ∈ ws ∨ sl ≤ w.1) : ∀ w ∈ L, w ∈ ws ∨ sl ≤ w.1 := naM (Q := fun w => w ∈ ws ∨ sl ≤ w.1) n e (fun _ => Or.inr q) r
theorem naGM {L : List (Addr × Nat)} (n : Nat) (e : (L.take n).map Prod.fst = List.replicate n b) (q : sl ≤ b) (r : ∀ w ∈ L.drop n, sl ≤ w.1) : ∀ w ∈ L, sl ≤ w.1 := naM (Q := fun w => sl ≤ w.1) n e (fun _ => q) r
theorem nwM {i : Nat} {L : List (Addr × Nat)} (n : Nat) (e : (L.take n).map Prod.fst = List.replicate n b) (q : a ≠ b) (r : (a, i) ∉ L.drop n) : (a, i) ∉ L := fun y => naM (Q := fun w => w ≠ (a, i)) n e (fun _ z => q (Prod.mk.inj z).1.symm) (fun w hw z => r (z ▸ hw)) _ y rfl
theorem own_retJ (X : Stand p l e R s m args below meth c T locs cells slots) (hx : p.tables.exec = Jvm.exec) {pc : Nat} {Ls : Array Slot} {z : Int64} {rest : List Value} (hret : meth.sig.returnType = some .long) (hd : decode c.code pc = .ok (.lreturn, 1)) {fs : List Frame}
    (hl : ∀ (f : JFrame) (acts : List Action), f.method = m → f.locked = none → f.entered = [] → (doReturn e (T.setTop f) acts (some (.long z))).1 = T.setFrames fs) : Steps p.tables e below (T.setTop (mkF m pc Ls (.long z :: rest))) (T.setFrames fs) := by
  have hm' : T.vm.method? m = some meth := X.method'
  show Steps p.tables e below (T.setTop { method := m, pc := pc, locals := Ls, stack := _ :: rest, locked := none }) _
  jvm_step X.here [X.here.top, hx, hd, hm', hret, narrow]
  first | (intro acts; rw [hl _ acts rfl rfl rfl]) | rw [hl _ _ rfl rfl rfl]
  exact Steps.refl _
theorem own_retD (X : Stand p l e R s m args below meth c T locs cells slots) (hx : p.tables.exec = Jvm.exec) {pc : Nat} {Ls : Array Slot} {z : UInt64} {rest : List Value} (hret : meth.sig.returnType = some .double) (hd : decode c.code pc = .ok (.dreturn, 1)) {fs : List Frame}
    (hl : ∀ (f : JFrame) (acts : List Action), f.method = m → f.locked = none → f.entered = [] → (doReturn e (T.setTop f) acts (some (.double z))).1 = T.setFrames fs) : Steps p.tables e below (T.setTop (mkF m pc Ls (.double z :: rest))) (T.setFrames fs) := by
  have hm' : T.vm.method? m = some meth := X.method'
  show Steps p.tables e below (T.setTop { method := m, pc := pc, locals := Ls, stack := _ :: rest, locked := none }) _
  jvm_step X.here [X.here.top, hx, hd, hm', hret, narrow]
  first | (intro acts; rw [hl _ acts rfl rfl rfl]) | rw [hl _ _ rfl rfl rfl]
  exact Steps.refl _
theorem own_nf {x0 y0 y : MethodName} (w : (Cond.selects C x0 y0).before args s = true) (hyy : y0.cls = y.cls) : NotFace s y := fun r0 h0 => by
  obtain ⟨_, _, m2, -, -, q3, -, kr, hkr, hni⟩ := Cond.selects_spec w
  have hc2 := findClass_of_methodNamed q3
  rw [hyy, findClass_of_methodNamed h0] at hc2
  rw [← Option.some.inj hc2] at hkr
  exact ⟨kr, hkr, hni⟩
theorem own_nsR {O K : String} {n : Nat} (w : (Cond.noSuperclass O).before a0 Z = true) (wk : (Cond.instantiable K n).before a0 Z = true) (hn : O ≠ K) : NS Z O K := by
  obtain ⟨c, k, h1, h2, h3, -, -⟩ := Cond.noSuperclass_spec w
  obtain ⟨t, k', g1, -⟩ := Cond.instantiable_spec wk
  have ne := ids_ne h1 g1 hn
  refine ⟨c, t, h1, g1, fun fuel => ?_⟩
  cases fuel with
  | zero => rfl
  | succ f => simp [Vm.isSubclassAux, ne, h2, h3]
theorem own_nsN {S K : String} {n : Nat} (w : (Cond.superclass C S).before a0 Z = true) (wk : (Cond.instantiable K n).before a0 Z = true) (q : NS Z C K) (hn : C ≠ K) : ∃ c t, Z.vm.findClass C = some c ∧ Z.vm.findClass K = some t ∧ Z.vm.assignable c t = false := by
  obtain ⟨c, t, h0, g0, n3⟩ := q
  obtain ⟨p, k, kp, h1, h2, h3, h4, h5, -, h7⟩ := Cond.superclass_spec h0 w
  obtain ⟨t', k', g1, g2, g5, g7, -⟩ := Cond.instantiable_spec wk
  cases g0.symm.trans g1
  have g8 : k'.isInterface = false := by
    cases hi : k'.isInterface with
    | false => rfl
    | true => simp [hi] at g7
  have ne := ids_ne h0 g0 hn
  refine ⟨c, t, h0, g0, ?_⟩
  show Z.vm.assignableAux (255 + 1) c t = false
  simp [Vm.assignableAux, ne, h2, g2, h5, g5, g8, Vm.isSubclass, n3]
theorem own_static (X : Stand p l e R s m args below meth c T locs cells slots) (hx : p.tables.exec = Jvm.exec) (hZ : Z.Warmed39 s.vm) {own : String} {index : Nat} {y : MethodName} {bytes : ByteArray} {maxL : Nat} {ret : Option FieldType} {rm : Room} {Q : Option Value → Heap → List Loc → Prop} {as' : Array Value}
    (hown : s.vm.findClass own = some m.cls) (w1 : (Cond.methodLink own index y).before a0 Z = true) (w2 : (Cond.static y).before a0 Z = true) (w3 : (Cond.initialized y.cls).before a0 Z = true) (w4 : (Cond.code y bytes maxL ret).before a0 Z = true) (hy : y.cls ≠ "java/lang/invoke/MethodHandle" ∧ y.cls ≠ "java/lang/invoke/VarHandle")
    (hM : MetFree l y (head1 [Cond.code y bytes maxL ret] rm) (fun a U => a = as' ∧ Z.Warmed39 U.vm ∧ U.heap = h) (fun _ _ _ _ _ => True) (fun _ U o U' => ∃ v L, o = .returned v ∧ Q v U'.heap L ∧ FrameEnd U o U' L rm.cells rm.slots))
    (eT : T.heap = h) {W : Nat} (hR : rm.frames + 1 ≤ R.frames ∧ W + (maxL + 11) + rm.locals ≤ R.locals ∧ cells + rm.cells ≤ R.cells ∧ slots + rm.slots ≤ R.slots)
    {g : JFrame} (hg : g.method = m) (hsize : g.locals.size = c.maxLocals) {argsL rest : List Value} (hlen : ∀ sig, parseMethodDescriptor y.desc = some sig → argsL.length = sig.parameters.length) (hstack : g.stack = argsL.reverse ++ rest) (has : argsL.toArray = as') (hW : 2 * g.monitorRoom + (rest.map fun v => v.category).sum ≤ W) (hd : decode c.code g.pc = .ok (.invokestatic index, 3)) :
    ∃ (v : Option Value) (T' : State) (L : List Loc), Stand p l e R s m args below meth c T' (locs ++ L) (cells + rm.cells) (slots + rm.slots) ∧ Q v T'.heap L ∧ ∀ target, Steps p.tables e below (T'.setTop { g with pc := g.pc + 3, stack := v.toList ++ rest }) target → Steps p.tables e below (T.setTop g) target := by
  obtain ⟨v, _, ⟨T', L', k', n'⟩, -, X', ⟨L, hQ, l1, l2, l3⟩, st⟩ := Jvm.LawKit.callS X hx (y := y) hown (mvT hZ w1) (mvT hZ w2) (mvT hZ w3) (mvT hZ w4) hy (backOf (W := W) hM hZ w4 w3 hR.1 hR.2.1) (g := g) hg hsize (argsL := argsL) (rest := rest) hlen hstack hW hd (fun _ _ => ⟨has, eT, hR.2.2.1, hR.2.2.2⟩)
  dsimp only [Pt.U, Pt.locs, Pt.cells, Pt.slots] at X' l1 l2 l3 st hQ
  subst l1 l2 l3
  exact ⟨v, T', L, X', hQ, st⟩
theorem own_init (X : Stand p l e R s m args below meth c T locs cells slots) (hx : p.tables.exec = Jvm.exec) (hZ : Z.Warmed39 s.vm) {own : String} {index : Nat} {y : MethodName} {bytes : ByteArray} {maxL : Nat} {rm : Room} {Q : Option Value → Heap → List Loc → Prop} {as' : Array Value} (hy1 : y.name = "<init>")
    (hown : s.vm.findClass own = some m.cls) (w1 : (Cond.methodLink own index y).before a0 Z = true) (w2 : (Cond.instanceMethod y).before a0 Z = true) (w3 : (Cond.initialized y.cls).before a0 Z = true) (w4 : (Cond.code y bytes maxL none).before a0 Z = true) (hy : y.cls ≠ "java/lang/invoke/MethodHandle" ∧ y.cls ≠ "java/lang/invoke/VarHandle")
    (hM : MetFree l y (head1 [Cond.code y bytes maxL none] rm) (fun a U => a = as' ∧ Z.Warmed39 U.vm ∧ U.heap = h) (fun _ _ _ _ _ => True) (fun _ U o U' => ∃ v L, o = .returned v ∧ Q v U'.heap L ∧ FrameEnd U o U' L rm.cells rm.slots))
    (eT : T.heap = h) {W : Nat} (hR : rm.frames + 1 ≤ R.frames ∧ W + (maxL + 11) + rm.locals ≤ R.locals ∧ cells + rm.cells ≤ R.cells ∧ slots + rm.slots ≤ R.slots)
    {g : JFrame} (hg : g.method = m) (hsize : g.locals.size = c.maxLocals) {argsL rest : List Value} (hlen : ∀ sig, parseMethodDescriptor y.desc = some sig → argsL.length = sig.parameters.length) (hstack : g.stack = argsL.reverse ++ .ref a :: rest) (has : (.ref a :: argsL).toArray = as') (hW : 2 * g.monitorRoom + (rest.map fun v => v.category).sum ≤ W) (hd : decode c.code g.pc = .ok (.invokespecial index, 3)) :
    ∃ (v : Option Value) (T' : State) (L : List Loc), Stand p l e R s m args below meth c T' (locs ++ L) (cells + rm.cells) (slots + rm.slots) ∧ Q v T'.heap L ∧ ∀ target, Steps p.tables e below (T'.setTop { g with pc := g.pc + 3, stack := v.toList ++ rest }) target → Steps p.tables e below (T.setTop g) target := by
  obtain ⟨v, _, ⟨T', L', k', n'⟩, -, X', ⟨L, hQ, l1, l2, l3⟩, st⟩ := X.specialBack hx (y := y) hy1 hown (mvT hZ w1) (mvT hZ w2) (mvT hZ w4) hy (backOf (W := W) hM hZ w4 w3 hR.1 hR.2.1) (g := g) hg hsize (Steps.refl _) (a := a) (argsL := argsL) (rest := rest) hlen hstack hW hd (fun _ _ => ⟨has, eT, hR.2.2.1, hR.2.2.2⟩)
  dsimp only [Pt.U, Pt.locs, Pt.cells, Pt.slots] at X' l1 l2 l3 st hQ
  subst l1 l2 l3
  exact ⟨v, T', L, X', hQ, fun _ t => st.trans t⟩
theorem own_virtual (X : Stand p l e R s m args below meth c T locs cells slots) (hx : p.tables.exec = Jvm.exec) (hZ : Z.Warmed39 s.vm) {own : String} {index : Nat} {y z : MethodName} {bytes : ByteArray} {maxL : Nat} {ret : Option FieldType} {rm : Room} {Q : Option Value → Heap → List Loc → Prop} {as' : Array Value}
    (hown : s.vm.findClass own = some m.cls) (w1 : (Cond.methodLink own index y).before a0 Z = true) (w2 : (Cond.declares y).before a0 Z = true) (hnf : NotFace s y) (w5 : (Cond.selects C y z).before a0 Z = true) (w6 : (Cond.instanceMethod z).before a0 Z = true) (w3 : (Cond.initialized z.cls).before a0 Z = true) (w4 : (Cond.code z bytes maxL ret).before a0 Z = true) (hy : y.cls ≠ "java/lang/invoke/MethodHandle" ∧ y.cls ≠ "java/lang/invoke/VarHandle")
    (hM : MetFree l z (head1 [Cond.code z bytes maxL ret] rm) (fun a U => a = as' ∧ Z.Warmed39 U.vm ∧ U.heap = h) (fun _ _ _ _ _ => True) (fun _ U o U' => ∃ v L, o = .returned v ∧ Q v U'.heap L ∧ FrameEnd U o U' L rm.cells rm.slots))
    (eT : T.heap = h) (E : Exa Z h a C) {W : Nat} (hR : rm.frames + 1 ≤ R.frames ∧ W + (maxL + 11) + rm.locals ≤ R.locals ∧ cells + rm.cells ≤ R.cells ∧ slots + rm.slots ≤ R.slots)
    {g : JFrame} (hg : g.method = m) (hsize : g.locals.size = c.maxLocals) {argsL rest : List Value} (hlen : ∀ sig, parseMethodDescriptor y.desc = some sig → argsL.length = sig.parameters.length) (hstack : g.stack = argsL.reverse ++ .ref a :: rest) (has : (.ref a :: argsL).toArray = as') (hW : 2 * g.monitorRoom + (rest.map fun v => v.category).sum ≤ W) (hd : decode c.code g.pc = .ok (.invokevirtual index, 3)) :
    ∃ (v : Option Value) (T' : State) (L : List Loc), Stand p l e R s m args below meth c T' (locs ++ L) (cells + rm.cells) (slots + rm.slots) ∧ Q v T'.heap L ∧ ∀ target, Steps p.tables e below (T'.setTop { g with pc := g.pc + 3, stack := v.toList ++ rest }) target → Steps p.tables e below (T.setTop g) target := by
  obtain ⟨cq, kq, qa, qb, qc⟩ := isOf hZ eT E
  obtain ⟨v, _, ⟨T', L', k', n'⟩, -, X', ⟨L, hQ, l1, l2, l3⟩, st⟩ := X.virtualBack hx (y := y) (z := z) hown (mvT hZ w1) (mvT hZ w2) hnf (mvT hZ w5) (mvT hZ w6) hy (backOf (W := W) hM hZ w4 w3 hR.1 hR.2.1) qa qc (g := g) hg hsize (Steps.refl _) (argsL := argsL) (rest := rest) hlen hstack hW hd (fun _ _ => ⟨has, eT, hR.2.2.1, hR.2.2.2⟩)
  dsimp only [Pt.U, Pt.locs, Pt.cells, Pt.slots] at X' l1 l2 l3 st hQ
  subst l1 l2 l3
  exact ⟨v, T', L, X', hQ, fun _ t => st.trans t⟩
theorem own_private (X : Stand p l e R s m args below meth c T locs cells slots) (hx : p.tables.exec = Jvm.exec) (hZ : Z.Warmed39 s.vm) {own : String} {index : Nat} {y x0 y0 : MethodName} {bytes : ByteArray} {maxL : Nat} {ret : Option FieldType} {rm : Room} {Q : Option Value → Heap → List Loc → Prop} {as' : Array Value}
    (hown : s.vm.findClass own = some m.cls) (w1 : (Cond.methodLink own index y).before a0 Z = true) (w6 : (Cond.instanceMethod y).before a0 Z = true) (w5 : (Cond.selects C x0 y0).before a0 Z = true) (hyy : y0.cls = y.cls) (w7 : (Cond.privateMethod y).before a0 Z = true) (w3 : (Cond.initialized y.cls).before a0 Z = true) (w4 : (Cond.code y bytes maxL ret).before a0 Z = true) (hy : y.cls ≠ "java/lang/invoke/MethodHandle" ∧ y.cls ≠ "java/lang/invoke/VarHandle")
    (hM : MetFree l y (head1 [Cond.code y bytes maxL ret] rm) (fun a U => a = as' ∧ Z.Warmed39 U.vm ∧ U.heap = h) (fun _ _ _ _ _ => True) (fun _ U o U' => ∃ v L, o = .returned v ∧ Q v U'.heap L ∧ FrameEnd U o U' L rm.cells rm.slots))
    (eT : T.heap = h) (E : Exa Z h a nm) {W : Nat} (hR : rm.frames + 1 ≤ R.frames ∧ W + (maxL + 11) + rm.locals ≤ R.locals ∧ cells + rm.cells ≤ R.cells ∧ slots + rm.slots ≤ R.slots)
    {g : JFrame} (hg : g.method = m) (hsize : g.locals.size = c.maxLocals) {argsL rest : List Value} (hlen : ∀ sig, parseMethodDescriptor y.desc = some sig → argsL.length = sig.parameters.length) (hstack : g.stack = argsL.reverse ++ .ref a :: rest) (has : (.ref a :: argsL).toArray = as') (hW : 2 * g.monitorRoom + (rest.map fun v => v.category).sum ≤ W) (hd : decode c.code g.pc = .ok (.invokevirtual index, 3)) :
    ∃ (v : Option Value) (T' : State) (L : List Loc), Stand p l e R s m args below meth c T' (locs ++ L) (cells + rm.cells) (slots + rm.slots) ∧ Q v T'.heap L ∧ ∀ target, Steps p.tables e below (T'.setTop { g with pc := g.pc + 3, stack := v.toList ++ rest }) target → Steps p.tables e below (T.setTop g) target := by
  obtain ⟨cell, _, qa, -, -, qc, -⟩ := E
  obtain ⟨mk, methM, hnamed, hmethM, -, -⟩ := Cond.instanceMethod_spec (mvT hZ w6 : (Cond.instanceMethod y).before args _ = true)
  obtain ⟨_, _, m2, -, -, q3, -, kr, hkr, hni⟩ := Cond.selects_spec (mvT hZ w5 : (Cond.selects C x0 y0).before args _ = true)
  have hc2 := findClass_of_methodNamed q3
  rw [hyy] at hc2
  have hpr := Cond.privateMethod_at (mvT hZ w7 : (Cond.privateMethod y).before args _ = true)
  have hsel := Jvm.Stand.selects_self_of_private (args := args) hc2 hkr hni hpr (mvT hZ w6) hy
  obtain ⟨v, _, ⟨T', L', k', n'⟩, -, X', ⟨L, hQ, l1, l2, l3⟩, st⟩ := X.privateBack hx (y := y) hown (mvT hZ w1) (mvT hZ w6) hsel hpr (mvT hZ w4) hy (backOf (W := W) hM hZ w4 w3 hR.1 hR.2.1) (g := g) hg hsize (Steps.refl _) (a := a) (cell := cell) (by rw [eT]; exact qa) (fun q eq => by rw [eq] at qc; exact absurd qc (by simp [VmData.isStatics])) (argsL := argsL) (rest := rest) hlen hstack hW hd (fun _ _ => ⟨has, eT, hR.2.2.1, hR.2.2.2⟩)
  dsimp only [Pt.U, Pt.locs, Pt.cells, Pt.slots] at X' l1 l2 l3 st hQ
  subst l1 l2 l3
  exact ⟨v, T', L, X', hQ, fun _ t => st.trans t⟩
theorem own_super (X : Stand p l e R s m args below meth c T locs cells slots) (hx : p.tables.exec = Jvm.exec) (hZ : Z.Warmed39 s.vm) {own : String} {index : Nat} {y x0 y0 : MethodName} {bytes : ByteArray} {maxL : Nat} {ret : Option FieldType} {rm : Room} {Q : Option Value → Heap → List Loc → Prop} {as' : Array Value}
    (hown : s.vm.findClass own = some m.cls) (w1 : (Cond.methodLink own index y).before a0 Z = true) (w6 : (Cond.instanceMethod y).before a0 Z = true) (w5 : (Cond.selects C x0 y0).before a0 Z = true) (hyy : y0.cls = y.cls) (w8 : (Cond.superclass own y.cls).before a0 Z = true) (hyn : y.name ≠ "<init>") (w3 : (Cond.initialized y.cls).before a0 Z = true) (w4 : (Cond.code y bytes maxL ret).before a0 Z = true) (hy : y.cls ≠ "java/lang/invoke/MethodHandle" ∧ y.cls ≠ "java/lang/invoke/VarHandle")
    (hM : MetFree l y (head1 [Cond.code y bytes maxL ret] rm) (fun a U => a = as' ∧ Z.Warmed39 U.vm ∧ U.heap = h) (fun _ _ _ _ _ => True) (fun _ U o U' => ∃ v L, o = .returned v ∧ Q v U'.heap L ∧ FrameEnd U o U' L rm.cells rm.slots))
    (eT : T.heap = h) (E : Exa Z h a nm) {W : Nat} (hR : rm.frames + 1 ≤ R.frames ∧ W + (maxL + 11) + rm.locals ≤ R.locals ∧ cells + rm.cells ≤ R.cells ∧ slots + rm.slots ≤ R.slots)
    {g : JFrame} (hg : g.method = m) (hsize : g.locals.size = c.maxLocals) {argsL rest : List Value} (hlen : ∀ sig, parseMethodDescriptor y.desc = some sig → argsL.length = sig.parameters.length) (hstack : g.stack = argsL.reverse ++ .ref a :: rest) (has : (.ref a :: argsL).toArray = as') (hW : 2 * g.monitorRoom + (rest.map fun v => v.category).sum ≤ W) (hd : decode c.code g.pc = .ok (.invokespecial index, 3)) :
    ∃ (v : Option Value) (T' : State) (L : List Loc), Stand p l e R s m args below meth c T' (locs ++ L) (cells + rm.cells) (slots + rm.slots) ∧ Q v T'.heap L ∧ ∀ target, Steps p.tables e below (T'.setTop { g with pc := g.pc + 3, stack := v.toList ++ rest }) target → Steps p.tables e below (T.setTop g) target := by
  obtain ⟨mk, methM, hnamed, hmethM, -, -⟩ := Cond.instanceMethod_spec w6
  obtain ⟨_, _, m2, -, -, q3, -, kr, hkr, hni⟩ := Cond.selects_spec w5
  have hc2 := findClass_of_methodNamed q3
  rw [hyy, findClass_of_methodNamed hnamed] at hc2
  rw [← Option.some.inj hc2] at hkr
  have w2 : (Cond.sameMethod y.cls y.cls y.name y.desc).before a0 Z = true := by
    simp [Cond.before, Cond.holds, Cond.value, findClass_of_methodNamed hnamed, State.methodFound?_of_named hnamed hy, hnamed, hkr, hni]
  obtain ⟨v, _, ⟨T', L', k', n'⟩, -, X', ⟨L, hQ, l1, l2, l3⟩, st⟩ := superBack X hx hZ (y := y) hown w1 w2 w6 w8 hyn (backOf (W := W) hM hZ w4 w3 hR.1 hR.2.1) eT (Ins.self E) (g := g) hg hsize w4 (argsL := argsL) (rest := rest) hlen hstack hW hd (fun _ _ => ⟨has, eT, hR.2.2.1, hR.2.2.2⟩)
  dsimp only [Pt.U, Pt.locs, Pt.cells, Pt.slots] at X' l1 l2 l3 st hQ
  subst l1 l2 l3
  exact ⟨v, T', L, X', hQ, fun _ t => st.trans t⟩
theorem own_face (X : Stand p l e R s m args below meth c T locs cells slots) (hx : p.tables.exec = Jvm.exec) (hZ : Z.Warmed39 s.vm) {own : String} {index count : Nat} {y z : MethodName} {bytes : ByteArray} {maxL : Nat} {ret : Option FieldType} {rm : Room} {Q : Option Value → Heap → List Loc → Prop} {as' : Array Value}
    (hown : s.vm.findClass own = some m.cls) (w1 : (Cond.methodLink own index y).before a0 Z = true) (w2 : (Cond.declares y).before a0 Z = true) (wf : (Cond.interfaceMethod y.cls y.cls y.name y.desc).before args s = true) (w5 : (Cond.selects C y z).before a0 Z = true) (w6 : (Cond.instanceMethod z).before a0 Z = true) (w7 : (Cond.publicMethod z).before a0 Z = true) (w8 : (Cond.unhidden C y.name y.desc).before a0 Z = true) (w9 : (Cond.castable C y.cls).before a0 Z = true) (w3 : (Cond.initialized z.cls).before a0 Z = true) (w4 : (Cond.code z bytes maxL ret).before a0 Z = true) (hy : y.cls ≠ "java/lang/invoke/MethodHandle" ∧ y.cls ≠ "java/lang/invoke/VarHandle")
    (hM : MetFree l z (head1 [Cond.code z bytes maxL ret] rm) (fun a U => a = as' ∧ Z.Warmed39 U.vm ∧ U.heap = h) (fun _ _ _ _ _ => True) (fun _ U o U' => ∃ v L, o = .returned v ∧ Q v U'.heap L ∧ FrameEnd U o U' L rm.cells rm.slots))
    (eT : T.heap = h) (E : Exa Z h a C) {W : Nat} (hR : rm.frames + 1 ≤ R.frames ∧ W + (maxL + 11) + rm.locals ≤ R.locals ∧ cells + rm.cells ≤ R.cells ∧ slots + rm.slots ≤ R.slots)
    {g : JFrame} (hg : g.method = m) (hsize : g.locals.size = c.maxLocals) {argsL rest : List Value} (hlen : ∀ sig, parseMethodDescriptor y.desc = some sig → argsL.length = sig.parameters.length) (hstack : g.stack = argsL.reverse ++ .ref a :: rest) (has : (.ref a :: argsL).toArray = as') (hW : 2 * g.monitorRoom + (rest.map fun v => v.category).sum ≤ W) (hd : decode c.code g.pc = .ok (.invokeinterface index count, 5)) :
    ∃ (v : Option Value) (T' : State) (L : List Loc), Stand p l e R s m args below meth c T' (locs ++ L) (cells + rm.cells) (slots + rm.slots) ∧ Q v T'.heap L ∧ ∀ target, Steps p.tables e below (T'.setTop { g with pc := g.pc + 5, stack := v.toList ++ rest }) target → Steps p.tables e below (T.setTop g) target := by
  obtain ⟨cq, kq, qa, qb, qc⟩ := isOf hZ eT E
  obtain ⟨v, _, ⟨T', L', k', n'⟩, -, X', ⟨L, hQ, l1, l2, l3⟩, st⟩ := X.interfaceBack hx (xi := y) (y := z) hown (mvT hZ w1) (mvT hZ w2) wf (mvT hZ w5) (mvT hZ w6) (mvT hZ w7) (mvT hZ w8) (mvT hZ w9) hy (backOf (W := W) hM hZ w4 w3 hR.1 hR.2.1) qa qb qc (g := g) hg hsize (Steps.refl _) (argsL := argsL) (rest := rest) hlen hstack hW hd (fun _ _ => ⟨has, eT, hR.2.2.1, hR.2.2.2⟩)
  dsimp only [Pt.U, Pt.locs, Pt.cells, Pt.slots] at X' l1 l2 l3 st hQ
  subst l1 l2 l3
  exact ⟨v, T', L, X', hQ, fun _ t => st.trans t⟩
theorem own_mvR {U : State} {own O : String} {index : Nat} (hZ : Z.Warmed39 U.vm) (w : (Cond.fieldRef own index O nm dd).before a0 Z = true) : (Cond.fieldRef own index O nm dd).before args U = true := (Cond.fieldRef_warmed39 (s := Z) (vm' := U.vm) hZ w :)
theorem own_getFR (X : Stand p l e R s m args below meth c T locs cells slots) (hx : p.tables.exec = Jvm.exec) (hZ : Z.Warmed39 s.vm) {own O : String} {index : Nat} (hown : s.vm.findClass own = some m.cls) (w : (Cond.fieldRef own index O nm dd).before a0 Z = true)
    (eT : T.heap = h) (F : Fld Z h a O nm dd v) {g : JFrame} (hg : g.method = m) {rest : List Value} (hs : g.stack = .ref a :: rest) (hd : decode c.code g.pc = .ok (.getfield index, 3)) : ∃ T', Stand p l e R s m args below meth c T' locs cells slots ∧ T'.heap = h ∧ ∀ target, Steps p.tables e below (T'.setTop { g with pc := g.pc + 3, stack := v :: rest }) target → Steps p.tables e below (T.setTop g) target := by
  obtain ⟨cell, cf, k, i, f, h1, h2, h3, h4, -, -, h7⟩ := F
  have hZT : Z.Warmed39 T.vm := wtrans hZ X.warmed
  have hownT : T.vm.findClass own = some m.cls := by rw [X.warmed.alike.findClass]; exact hown
  obtain ⟨cf', k', i', f', g1, hready⟩ := Cond.fieldRef_spec hownT (own_mvR (args := args) hZT w)
  obtain ⟨k2, g2, -⟩ := State.fieldFound?_setVm (s := Z) hZT.alike h2
  cases (show T.fieldFound? O nm dd = _ from g2).symm.trans g1
  refine ⟨T, X, eT, fun target hrest => ?_⟩
  subst hg
  jvm_step X.here [hx, hd, getfield.wp_ready (e := e) (s := T) (f := g) X.here.top hready h3 hs (show T.heap[a]? = some cell by rw [eT]; exact h1) h4 h7]
  exact hrest
theorem own_putFR (X : Stand p l e R s m args below meth c T locs cells slots) (hx : p.tables.exec = Jvm.exec) (hZ : Z.Warmed39 s.vm) {own O : String} {index kk : Nat} (hown : s.vm.findClass own = some m.cls) (w : (Cond.fieldRef own index O nm dd).before a0 Z = true)
    (eT : T.heap = h) {old : Value} (F : Fld Z h a O nm dd old) (E : Exa Z h a C) (L : (Cond.lays C O nm dd).before a0 Z = true) (wi : (Cond.instantiable C kk).before a0 Z = true)
    (hty : parseFieldDescriptor dd = some ty) (hn : narrow ty v = v) (hf : fits ty v = true) {g : JFrame} (hg : g.method = m) {rest : List Value} (hs : g.stack = v :: .ref a :: rest) (hd : decode c.code g.pc = .ok (.putfield index, 3)) :
    ∃ T' h', Stand p l e R s m args below meth c T' (locs ++ [⟨a, Jvm.RoadKit.slotOf Z O nm dd⟩]) cells slots ∧ T'.heap = h' ∧ Wr h h' a (Jvm.RoadKit.slotOf Z O nm dd) v ∧ ∀ target, Steps p.tables e below (T'.setTop { g with pc := g.pc + 3, stack := rest }) target → Steps p.tables e below (T.setTop g) target := by
  obtain ⟨cell, cf, k, i, f, h1, h2, h3, h4, h5, -, h7⟩ := F
  obtain ⟨cell', kc, e1, e2, e3, -⟩ := E
  cases h1.symm.trans e1
  obtain ⟨c1, k1, cf1, kf1, i1, f1, a1, a2, a3, -, -, a6, -⟩ := Laid.spec (Or.inl L)
  cases h2.symm.trans a3
  cases e2.symm.trans a1
  obtain ⟨c2, k2, i1, i2, i3, -⟩ := Cond.instantiable_spec wi
  cases e2.symm.trans i1
  cases a2.symm.trans i2
  have ht := (State.fieldFound?_type h2 hty).2
  have hfit : Z.fitsSlot cell.cls cell.vm f.slot v = true := by
    have q : Z.slotType? cell.cls cell.vm f.slot = some ty := by
      simp only [State.slotType?, a2, Option.bind_eq_bind, Option.bind_some, i3]
      cases hq : cell.vm <;> first | (rw [hq] at h5; exact Bool.noConfusion h5) | (rw [a6, ht])
    simp [State.fitsSlot, q, hf]
  have hZT : Z.Warmed39 T.vm := wtrans hZ X.warmed
  have hfit' : T.fitsSlot cell.cls cell.vm f.slot v = true := by rw [← State.fitsSlot_setVm hZT.alike] at hfit; exact hfit
  have hfin : hasFlag f.accessFlags Acc.final = false := by
    obtain ⟨_, _, _, _, _, _, -, -, b3, -, b5, -⟩ := Cond.lays_spec L
    cases h2.symm.trans b3
    exact b5
  have hownT : T.vm.findClass own = some m.cls := by rw [X.warmed.alike.findClass]; exact hown
  obtain ⟨cf', k', i', f', g1, hready⟩ := Cond.fieldRef_spec hownT (own_mvR (args := args) hZT w)
  obtain ⟨k3, g2, -⟩ := State.fieldFound?_setVm (s := Z) hZT.alike h2
  cases (show T.fieldFound? O nm dd = _ from g2).symm.trans g1
  have hlt := (Array.getElem?_eq_some_iff.mp h7).1
  have es : Jvm.RoadKit.slotOf Z O nm dd = f.slot := by simp [Jvm.RoadKit.slotOf, h2]
  rw [es]
  obtain ⟨X', st⟩ := X.putfieldReady hx hready h3 (Or.inl hfin) (show T.heap[a]? = some cell by rw [eT]; exact h1) h4 hlt (by rw [ht]; exact hn) hfit' hg hs hd
  exact ⟨_, _, X', rfl, ⟨cell, h1, h5, hlt, by rw [← eT]; rfl⟩, st⟩
end Own
/-- a body's contract -/
abbrev MF (l : Launch) (Z : State) (y : MethodName) (bytes : ByteArray) (maxL : Nat) (ret : Option FieldType) (ws : List Jvm.Cond) (rm : Room) (as' : Array Value) (h0 : Heap) (Q : Option Value → Heap → List Loc → Prop) : Prop :=
  MetFree l y (head1 (Jvm.Cond.code y bytes maxL ret :: ws) rm) (fun a U => a = as' ∧ Z.Warmed39 U.vm ∧ U.heap = h0) (fun _ _ _ _ _ => True) (fun _ U o U' => ∃ v L, o = .returned v ∧ Q v U'.heap L ∧ FrameEnd U o U' L rm.cells rm.slots)
theorem own_body {l : Launch} {Z : State} {y : MethodName} {bytes : ByteArray} {maxL : Nat} {ret : Option FieldType} {ws : List Jvm.Cond} {rm : Room} {as' : Array Value} {h0 : Heap} {Q : Option Value → Heap → List Loc → Prop} {k n : Nat} {L0 : Array Slot} (hp : plainFor y = true) (hef : ∀ m, entryFrame m as' maxL = mkF m 0 L0 []) (hk : k ≤ rm.cells) (hn : n ≤ rm.slots)
    (H : ∀ (p : Program) (e : Env) (s : State) (m : MethodId) (below : List Frame) (meth : Method) (c : Code) (s₁ : State), p.tables.exec = Jvm.exec → c.code = bytes → c.maxLocals = maxL → s.vm.findClass y.cls = some m.cls → meth.name = y.name → meth.sig.returnType = ret → Z.Warmed39 s.vm → s.heap = h0 → s₁.heap = h0 → Stand p l e rm s m as' below meth c s₁ [] 0 0 →
      ∃ (T : State) (L : List Loc) (v : Option Value), Stand p l e rm s m as' below meth c T L k n ∧ (ret = none → v = none) ∧ Q v T.heap L ∧ ∀ fs, (∀ (f : JFrame) (acts : List Action), f.method = m → f.locked = none → f.entered = [] → (doReturn e (T.setTop f) acts v).1 = T.setFrames fs) → Steps p.tables e below (s₁.setTop (mkF m 0 L0 [])) (T.setFrames fs)) :
    MetFree l y (head1 (Jvm.Cond.code y bytes maxL ret :: ws) rm) (fun a U => a = as' ∧ Z.Warmed39 U.vm ∧ U.heap = h0) (fun _ _ _ _ _ => True) (fun _ U o U' => ∃ v L, o = .returned v ∧ Q v U'.heap L ∧ FrameEnd U o U' L k n) := by
  refine MetFree.of_bodySF hp hisR ?_
  intro p e s m args below meth c s₁ Bd hml0 hP hK
  obtain ⟨rfl, hZ, hh⟩ := hP
  have e0 : s₁.heap = h0 := by rw [← hh, Bd.state]; rfl
  have hnm := (name_of_methodNamed Bd.named Bd.method).1
  obtain ⟨T, L, v, X, hv, hQ, st⟩ := H p e s m below meth c s₁ Bd.exec Bd.bytes hml0 (findClass_of_methodNamed Bd.named) hnm Bd.returns hZ hh e0 (Stand.of_body Bd)
  obtain ⟨fs, hr, hrun, hended, hW, hsame⟩ := X.leave (v := v) (fun h => hv (Bd.returns.symm.trans h)) Bd.notSynchronized
  refine ⟨_, _, castTop (hef m) (st fs hr), hrun, hended, v, L, rfl, ?_, ⟨_, rfl⟩, hW, hsame⟩
  exact hQ
theorem own_law {l : Launch} {Z : State} {y : MethodName} {bytes : ByteArray} {maxL : Nat} {ret : Option FieldType} {ws : List Jvm.Cond} {rm : Room} {as' : Array Value} {h0 : Heap} {Q : Option Value → List Loc → Prop} {k n k' n' : Nat} {L0 : Array Slot} (hp : plainFor y = true) (hef : ∀ m, entryFrame m as' maxL = mkF m 0 L0 []) (hk : k ≤ k') (hn : n ≤ n')
    (H : ∀ (p : Program) (e : Env) (s : State) (m : MethodId) (below : List Frame) (meth : Method) (c : Code) (s₁ : State), p.tables.exec = Jvm.exec → c.code = bytes → c.maxLocals = maxL → s.vm.findClass y.cls = some m.cls → meth.name = y.name → meth.sig.returnType = ret → Z.Warmed39 s.vm → s.heap = h0 → s₁.heap = h0 → Stand p l e rm s m as' below meth c s₁ [] 0 0 →
      ∃ (T : State) (L : List Loc) (v : Option Value), Stand p l e rm s m as' below meth c T L k n ∧ (ret = none → v = none) ∧ Q v L ∧ ∀ fs, (∀ (f : JFrame) (acts : List Action), f.method = m → f.locked = none → f.entered = [] → (doReturn e (T.setTop f) acts v).1 = T.setFrames fs) → Steps p.tables e below (s₁.setTop (mkF m 0 L0 [])) (T.setFrames fs)) :
    MetFree l y (head1 (Jvm.Cond.code y bytes maxL ret :: ws) rm) (fun a U => a = as' ∧ Z.Warmed39 U.vm ∧ U.heap = h0) (fun _ _ _ _ _ => True) (fun _ U o U' => ∃ v L, o = .returned v ∧ Q v L ∧ FrameEnd U o U' L k' n') := by
  refine MetFree.of_bodySF hp hisR ?_
  intro p e s m args below meth c s₁ Bd hml0 hP hK
  obtain ⟨rfl, hZ, hh⟩ := hP
  have e0 : s₁.heap = h0 := by rw [← hh, Bd.state]; rfl
  have hnm := (name_of_methodNamed Bd.named Bd.method).1
  obtain ⟨T, L, v, X, hv, hQ, st⟩ := H p e s m below meth c s₁ Bd.exec Bd.bytes hml0 (findClass_of_methodNamed Bd.named) hnm Bd.returns hZ hh e0 (Stand.of_body Bd)
  obtain ⟨fs, hr, hrun, hended, hW, hsame⟩ := X.leave (v := v) (fun h => hv (Bd.returns.symm.trans h)) Bd.notSynchronized
  refine ⟨_, _, castTop (hef m) (st fs hr), hrun, hended, v, L, rfl, ?_, ⟨_, rfl⟩, hW, hsame.mono hk hn⟩
  exact hQ
section OwnS
variable {p : Program} {l : Launch} {e : Env} {R : Room} {s : State} {vm0 : Vm} {m : MethodId} {args : Array Value} {below : List Frame} {meth : Method} {c : Code} {T : State} {locs : List Loc} {cells slots : Nat} {Z : State} {a0 : Array Value} {h h' h0 : Heap} {a b : Addr} {C nm dd : String} {v w : Value} {sl n0 : Nat}
theorem own_since (s : State) : s.Since s.vm s.heap.size := (State.WarmedH.refl s).since _
theorem own_REmono {s t : State} {o : Outcome} {L : List Loc} {k n k' n' : Nat} (h : ReturnedEndW s o t L k n) (hk : k ≤ k') (hn : n ≤ n') : ReturnedEndW s o t L k' n' := ⟨h.1, h.2.1, h.2.2.1, h.2.2.2.mono hk hn⟩
theorem own_Sstatic (X : Stand p l e R (s.setVm vm0) m args below meth c T locs cells slots) (hx : p.tables.exec = Jvm.exec) (hZ : Z.Warmed39 vm0) {own : String} {index : Nat} {y : MethodName} {bytes : ByteArray} {maxL : Nat} {ret : Option FieldType} {rm : Room} {Q : Option Value → Heap → List Loc → Prop} {as' : Array Value}
    (hown : vm0.findClass own = some m.cls) (w1 : (Cond.methodLink own index y).before a0 Z = true) (w2 : (Cond.static y).before a0 Z = true) (w3 : (Cond.initialized y.cls).before a0 Z = true) (w4 : (Cond.code y bytes maxL ret).before a0 Z = true) (hy : y.cls ≠ "java/lang/invoke/MethodHandle" ∧ y.cls ≠ "java/lang/invoke/VarHandle")
    (hM : MetFree l y (head1 [Cond.code y bytes maxL ret] rm) (fun a U => a = as' ∧ Z.Warmed39 U.vm ∧ U.heap = h) (fun _ _ _ _ _ => True) (fun _ U o U' => ∃ v L, o = .returned v ∧ Q v U'.heap L ∧ ReturnedEndW U o U' L rm.cells rm.slots))
    (eT : T.heap = h) {W : Nat} (hR : rm.frames + 1 ≤ R.frames ∧ W + (maxL + 11) + rm.locals ≤ R.locals ∧ cells + rm.cells ≤ R.cells ∧ slots + rm.slots ≤ R.slots)
    {g : JFrame} (hg : g.method = m) (hsize : g.locals.size = c.maxLocals) {argsL rest : List Value} (hlen : ∀ sig, parseMethodDescriptor y.desc = some sig → argsL.length = sig.parameters.length) (hstack : g.stack = argsL.reverse ++ rest) (has : argsL.toArray = as') (hW : 2 * g.monitorRoom + (rest.map fun v => v.category).sum ≤ W) (hd : decode c.code g.pc = .ok (.invokestatic index, 3)) {k0 : Nat} (hS : s.Since vm0 k0) (hk : k0 ≤ h.size) :
    ∃ (v : Option Value) (T' : State) (L : List Loc), Stand p l e R (s.setVm T'.vm) m args below meth c T' (locs ++ L) (cells + rm.cells) (slots + rm.slots) ∧ s.Since T'.vm T'.heap.size ∧ T'.heap.size ≤ T'.heap.size ∧ Z.Warmed39 T'.vm ∧ T'.vm.findClass own = some m.cls ∧ Q v T'.heap L ∧ ∀ target, Steps p.tables e below (T'.setTop { g with pc := g.pc + 3, stack := v.toList ++ rest }) target → Steps p.tables e below (T.setTop g) target := by
  obtain ⟨v, _, ⟨T', L', k', n'⟩, -, X', hS', hg', ⟨L, hQ, l1, l2, l3⟩, st⟩ := callSS X hx (y := y) hown (mvT (s := s.setVm vm0) hZ w1) (mvT (s := s.setVm vm0) hZ w2) (mvT (s := s.setVm vm0) hZ w3) (mvT (s := s.setVm vm0) hZ w4) hy (backOfS (s := s.setVm vm0) (W := W) hM hZ w4 w3 hR.1 hR.2.1) (g := g) hg hsize (argsL := argsL) (rest := rest) hlen hstack hW hd (fun _ _ => ⟨has, eT, hR.2.2.1, hR.2.2.2⟩)
  dsimp only [Pt.U, Pt.locs, Pt.cells, Pt.slots] at X' hS' hg' l1 l2 l3 st hQ
  subst l1 l2 l3
  have q := hS.trans hS' (Nat.le_trans hk (by rw [← eT]; exact hg'))
  exact ⟨v, T', L, X', q, Nat.le_refl _, State.Warmed39.trans (t := s.setVm vm0) hZ hS'.1, by rw [hS'.1.alike.findClass]; exact hown, hQ, fun _ t => st.trans t⟩
theorem own_Sinit (X : Stand p l e R (s.setVm vm0) m args below meth c T locs cells slots) (hx : p.tables.exec = Jvm.exec) (hZ : Z.Warmed39 vm0) {own : String} {index : Nat} {y : MethodName} {bytes : ByteArray} {maxL : Nat} {rm : Room} {Q : Option Value → Heap → List Loc → Prop} {as' : Array Value} (hy1 : y.name = "<init>")
    (hown : vm0.findClass own = some m.cls) (w1 : (Cond.methodLink own index y).before a0 Z = true) (w2 : (Cond.instanceMethod y).before a0 Z = true) (w3 : (Cond.initialized y.cls).before a0 Z = true) (w4 : (Cond.code y bytes maxL none).before a0 Z = true) (hy : y.cls ≠ "java/lang/invoke/MethodHandle" ∧ y.cls ≠ "java/lang/invoke/VarHandle")
    (hM : MetFree l y (head1 [Cond.code y bytes maxL none] rm) (fun a U => a = as' ∧ Z.Warmed39 U.vm ∧ U.heap = h) (fun _ _ _ _ _ => True) (fun _ U o U' => ∃ v L, o = .returned v ∧ Q v U'.heap L ∧ ReturnedEndW U o U' L rm.cells rm.slots))
    (eT : T.heap = h) {W : Nat} (hR : rm.frames + 1 ≤ R.frames ∧ W + (maxL + 11) + rm.locals ≤ R.locals ∧ cells + rm.cells ≤ R.cells ∧ slots + rm.slots ≤ R.slots)
    {g : JFrame} (hg : g.method = m) (hsize : g.locals.size = c.maxLocals) {argsL rest : List Value} (hlen : ∀ sig, parseMethodDescriptor y.desc = some sig → argsL.length = sig.parameters.length) (hstack : g.stack = argsL.reverse ++ .ref a :: rest) (has : (.ref a :: argsL).toArray = as') (hW : 2 * g.monitorRoom + (rest.map fun v => v.category).sum ≤ W) (hd : decode c.code g.pc = .ok (.invokespecial index, 3)) {k0 : Nat} (hS : s.Since vm0 k0) (hk : k0 ≤ h.size) :
    ∃ (v : Option Value) (T' : State) (L : List Loc), Stand p l e R (s.setVm T'.vm) m args below meth c T' (locs ++ L) (cells + rm.cells) (slots + rm.slots) ∧ s.Since T'.vm T'.heap.size ∧ T'.heap.size ≤ T'.heap.size ∧ Z.Warmed39 T'.vm ∧ T'.vm.findClass own = some m.cls ∧ Q v T'.heap L ∧ ∀ target, Steps p.tables e below (T'.setTop { g with pc := g.pc + 3, stack := v.toList ++ rest }) target → Steps p.tables e below (T.setTop g) target := by
  obtain ⟨v, _, ⟨T', L', k', n'⟩, -, X', hS', hg', ⟨L, hQ, l1, l2, l3⟩, st⟩ := X.specialBackS hx (y := y) hy1 hown (mvT (s := s.setVm vm0) hZ w1) (mvT (s := s.setVm vm0) hZ w2) (mvT (s := s.setVm vm0) hZ w4) hy (backOfS (s := s.setVm vm0) (W := W) hM hZ w4 w3 hR.1 hR.2.1) (g := g) hg hsize (Steps.refl _) (a := a) (argsL := argsL) (rest := rest) hlen hstack hW hd (fun _ _ => ⟨has, eT, hR.2.2.1, hR.2.2.2⟩)
  dsimp only [Pt.U, Pt.locs, Pt.cells, Pt.slots] at X' hS' hg' l1 l2 l3 st hQ
  subst l1 l2 l3
  have q := hS.trans hS' (Nat.le_trans hk (by rw [← eT]; exact hg'))
  exact ⟨v, T', L, X', q, Nat.le_refl _, State.Warmed39.trans (t := s.setVm vm0) hZ hS'.1, by rw [hS'.1.alike.findClass]; exact hown, hQ, fun _ t => st.trans t⟩
theorem own_Svirtual (X : Stand p l e R (s.setVm vm0) m args below meth c T locs cells slots) (hx : p.tables.exec = Jvm.exec) (hZ : Z.Warmed39 vm0) {own : String} {index : Nat} {y z : MethodName} {bytes : ByteArray} {maxL : Nat} {ret : Option FieldType} {rm : Room} {Q : Option Value → Heap → List Loc → Prop} {as' : Array Value}
    (hown : vm0.findClass own = some m.cls) (w1 : (Cond.methodLink own index y).before a0 Z = true) (w2 : (Cond.declares y).before a0 Z = true) (hnf : NotFace (s.setVm vm0) y) (w5 : (Cond.selects C y z).before a0 Z = true) (w6 : (Cond.instanceMethod z).before a0 Z = true) (w3 : (Cond.initialized z.cls).before a0 Z = true) (w4 : (Cond.code z bytes maxL ret).before a0 Z = true) (hy : y.cls ≠ "java/lang/invoke/MethodHandle" ∧ y.cls ≠ "java/lang/invoke/VarHandle")
    (hM : MetFree l z (head1 [Cond.code z bytes maxL ret] rm) (fun a U => a = as' ∧ Z.Warmed39 U.vm ∧ U.heap = h) (fun _ _ _ _ _ => True) (fun _ U o U' => ∃ v L, o = .returned v ∧ Q v U'.heap L ∧ ReturnedEndW U o U' L rm.cells rm.slots))
    (eT : T.heap = h) (E : Exa Z h a C) {W : Nat} (hR : rm.frames + 1 ≤ R.frames ∧ W + (maxL + 11) + rm.locals ≤ R.locals ∧ cells + rm.cells ≤ R.cells ∧ slots + rm.slots ≤ R.slots)
    {g : JFrame} (hg : g.method = m) (hsize : g.locals.size = c.maxLocals) {argsL rest : List Value} (hlen : ∀ sig, parseMethodDescriptor y.desc = some sig → argsL.length = sig.parameters.length) (hstack : g.stack = argsL.reverse ++ .ref a :: rest) (has : (.ref a :: argsL).toArray = as') (hW : 2 * g.monitorRoom + (rest.map fun v => v.category).sum ≤ W) (hd : decode c.code g.pc = .ok (.invokevirtual index, 3)) {k0 : Nat} (hS : s.Since vm0 k0) (hk : k0 ≤ h.size) :
    ∃ (v : Option Value) (T' : State) (L : List Loc), Stand p l e R (s.setVm T'.vm) m args below meth c T' (locs ++ L) (cells + rm.cells) (slots + rm.slots) ∧ s.Since T'.vm T'.heap.size ∧ T'.heap.size ≤ T'.heap.size ∧ Z.Warmed39 T'.vm ∧ T'.vm.findClass own = some m.cls ∧ Q v T'.heap L ∧ ∀ target, Steps p.tables e below (T'.setTop { g with pc := g.pc + 3, stack := v.toList ++ rest }) target → Steps p.tables e below (T.setTop g) target := by
  obtain ⟨cq, kq, qa, qb, qc⟩ := isOf (s := s.setVm vm0) hZ eT E
  obtain ⟨v, _, ⟨T', L', k', n'⟩, -, X', hS', hg', ⟨L, hQ, l1, l2, l3⟩, st⟩ := X.virtualBackS hx (y := y) (z := z) hown (mvT (s := s.setVm vm0) hZ w1) (mvT (s := s.setVm vm0) hZ w2) hnf (mvT (s := s.setVm vm0) hZ w5) (mvT (s := s.setVm vm0) hZ w6) hy (backOfS (s := s.setVm vm0) (W := W) hM hZ w4 w3 hR.1 hR.2.1) qa qc (g := g) hg hsize (Steps.refl _) (argsL := argsL) (rest := rest) hlen hstack hW hd (fun _ _ => ⟨has, eT, hR.2.2.1, hR.2.2.2⟩)
  dsimp only [Pt.U, Pt.locs, Pt.cells, Pt.slots] at X' hS' hg' l1 l2 l3 st hQ
  subst l1 l2 l3
  have q := hS.trans hS' (Nat.le_trans hk (by rw [← eT]; exact hg'))
  exact ⟨v, T', L, X', q, Nat.le_refl _, State.Warmed39.trans (t := s.setVm vm0) hZ hS'.1, by rw [hS'.1.alike.findClass]; exact hown, hQ, fun _ t => st.trans t⟩
theorem own_Sprivate (X : Stand p l e R (s.setVm vm0) m args below meth c T locs cells slots) (hx : p.tables.exec = Jvm.exec) (hZ : Z.Warmed39 vm0) {own : String} {index : Nat} {y x0 y0 : MethodName} {bytes : ByteArray} {maxL : Nat} {ret : Option FieldType} {rm : Room} {Q : Option Value → Heap → List Loc → Prop} {as' : Array Value}
    (hown : vm0.findClass own = some m.cls) (w1 : (Cond.methodLink own index y).before a0 Z = true) (w6 : (Cond.instanceMethod y).before a0 Z = true) (w5 : (Cond.selects C x0 y0).before a0 Z = true) (hyy : y0.cls = y.cls) (w7 : (Cond.privateMethod y).before a0 Z = true) (w3 : (Cond.initialized y.cls).before a0 Z = true) (w4 : (Cond.code y bytes maxL ret).before a0 Z = true) (hy : y.cls ≠ "java/lang/invoke/MethodHandle" ∧ y.cls ≠ "java/lang/invoke/VarHandle")
    (hM : MetFree l y (head1 [Cond.code y bytes maxL ret] rm) (fun a U => a = as' ∧ Z.Warmed39 U.vm ∧ U.heap = h) (fun _ _ _ _ _ => True) (fun _ U o U' => ∃ v L, o = .returned v ∧ Q v U'.heap L ∧ ReturnedEndW U o U' L rm.cells rm.slots))
    (eT : T.heap = h) (E : Exa Z h a nm) {W : Nat} (hR : rm.frames + 1 ≤ R.frames ∧ W + (maxL + 11) + rm.locals ≤ R.locals ∧ cells + rm.cells ≤ R.cells ∧ slots + rm.slots ≤ R.slots)
    {g : JFrame} (hg : g.method = m) (hsize : g.locals.size = c.maxLocals) {argsL rest : List Value} (hlen : ∀ sig, parseMethodDescriptor y.desc = some sig → argsL.length = sig.parameters.length) (hstack : g.stack = argsL.reverse ++ .ref a :: rest) (has : (.ref a :: argsL).toArray = as') (hW : 2 * g.monitorRoom + (rest.map fun v => v.category).sum ≤ W) (hd : decode c.code g.pc = .ok (.invokevirtual index, 3)) {k0 : Nat} (hS : s.Since vm0 k0) (hk : k0 ≤ h.size) :
    ∃ (v : Option Value) (T' : State) (L : List Loc), Stand p l e R (s.setVm T'.vm) m args below meth c T' (locs ++ L) (cells + rm.cells) (slots + rm.slots) ∧ s.Since T'.vm T'.heap.size ∧ T'.heap.size ≤ T'.heap.size ∧ Z.Warmed39 T'.vm ∧ T'.vm.findClass own = some m.cls ∧ Q v T'.heap L ∧ ∀ target, Steps p.tables e below (T'.setTop { g with pc := g.pc + 3, stack := v.toList ++ rest }) target → Steps p.tables e below (T.setTop g) target := by
  obtain ⟨cell, _, qa, -, -, qc, -⟩ := E
  obtain ⟨mk, methM, hnamed, hmethM, -, -⟩ := Cond.instanceMethod_spec (mvT (s := s.setVm vm0) hZ w6 : (Cond.instanceMethod y).before args _ = true)
  obtain ⟨_, _, m2, -, -, q3, -, kr, hkr, hni⟩ := Cond.selects_spec (mvT (s := s.setVm vm0) hZ w5 : (Cond.selects C x0 y0).before args _ = true)
  have hc2 := findClass_of_methodNamed q3
  rw [hyy] at hc2
  have hpr := Cond.privateMethod_at (mvT (s := s.setVm vm0) hZ w7 : (Cond.privateMethod y).before args _ = true)
  have hsel := Jvm.Stand.selects_self_of_private (args := args) hc2 hkr hni hpr (mvT (s := s.setVm vm0) hZ w6) hy
  obtain ⟨v, _, ⟨T', L', k', n'⟩, -, X', hS', hg', ⟨L, hQ, l1, l2, l3⟩, st⟩ := X.privateBackS hx (y := y) hown (mvT (s := s.setVm vm0) hZ w1) (mvT (s := s.setVm vm0) hZ w6) hsel hpr (mvT (s := s.setVm vm0) hZ w4) hy (backOfS (s := s.setVm vm0) (W := W) hM hZ w4 w3 hR.1 hR.2.1) (g := g) hg hsize (Steps.refl _) (a := a) (cell := cell) (by rw [eT]; exact qa) (fun q eq => by rw [eq] at qc; exact absurd qc (by simp [VmData.isStatics])) (argsL := argsL) (rest := rest) hlen hstack hW hd (fun _ _ => ⟨has, eT, hR.2.2.1, hR.2.2.2⟩)
  dsimp only [Pt.U, Pt.locs, Pt.cells, Pt.slots] at X' hS' hg' l1 l2 l3 st hQ
  subst l1 l2 l3
  have q := hS.trans hS' (Nat.le_trans hk (by rw [← eT]; exact hg'))
  exact ⟨v, T', L, X', q, Nat.le_refl _, State.Warmed39.trans (t := s.setVm vm0) hZ hS'.1, by rw [hS'.1.alike.findClass]; exact hown, hQ, fun _ t => st.trans t⟩
theorem own_Ssuper (X : Stand p l e R (s.setVm vm0) m args below meth c T locs cells slots) (hx : p.tables.exec = Jvm.exec) (hZ : Z.Warmed39 vm0) {own : String} {index : Nat} {y x0 y0 : MethodName} {bytes : ByteArray} {maxL : Nat} {ret : Option FieldType} {rm : Room} {Q : Option Value → Heap → List Loc → Prop} {as' : Array Value}
    (hown : vm0.findClass own = some m.cls) (w1 : (Cond.methodLink own index y).before a0 Z = true) (w6 : (Cond.instanceMethod y).before a0 Z = true) (w5 : (Cond.selects C x0 y0).before a0 Z = true) (hyy : y0.cls = y.cls) (w8 : (Cond.superclass own y.cls).before a0 Z = true) (hyn : y.name ≠ "<init>") (w3 : (Cond.initialized y.cls).before a0 Z = true) (w4 : (Cond.code y bytes maxL ret).before a0 Z = true) (hy : y.cls ≠ "java/lang/invoke/MethodHandle" ∧ y.cls ≠ "java/lang/invoke/VarHandle")
    (hM : MetFree l y (head1 [Cond.code y bytes maxL ret] rm) (fun a U => a = as' ∧ Z.Warmed39 U.vm ∧ U.heap = h) (fun _ _ _ _ _ => True) (fun _ U o U' => ∃ v L, o = .returned v ∧ Q v U'.heap L ∧ ReturnedEndW U o U' L rm.cells rm.slots))
    (eT : T.heap = h) (E : Exa Z h a nm) {W : Nat} (hR : rm.frames + 1 ≤ R.frames ∧ W + (maxL + 11) + rm.locals ≤ R.locals ∧ cells + rm.cells ≤ R.cells ∧ slots + rm.slots ≤ R.slots)
    {g : JFrame} (hg : g.method = m) (hsize : g.locals.size = c.maxLocals) {argsL rest : List Value} (hlen : ∀ sig, parseMethodDescriptor y.desc = some sig → argsL.length = sig.parameters.length) (hstack : g.stack = argsL.reverse ++ .ref a :: rest) (has : (.ref a :: argsL).toArray = as') (hW : 2 * g.monitorRoom + (rest.map fun v => v.category).sum ≤ W) (hd : decode c.code g.pc = .ok (.invokespecial index, 3)) {k0 : Nat} (hS : s.Since vm0 k0) (hk : k0 ≤ h.size) :
    ∃ (v : Option Value) (T' : State) (L : List Loc), Stand p l e R (s.setVm T'.vm) m args below meth c T' (locs ++ L) (cells + rm.cells) (slots + rm.slots) ∧ s.Since T'.vm T'.heap.size ∧ T'.heap.size ≤ T'.heap.size ∧ Z.Warmed39 T'.vm ∧ T'.vm.findClass own = some m.cls ∧ Q v T'.heap L ∧ ∀ target, Steps p.tables e below (T'.setTop { g with pc := g.pc + 3, stack := v.toList ++ rest }) target → Steps p.tables e below (T.setTop g) target := by
  obtain ⟨mk, methM, hnamed, hmethM, -, -⟩ := Cond.instanceMethod_spec w6
  obtain ⟨_, _, m2, -, -, q3, -, kr, hkr, hni⟩ := Cond.selects_spec w5
  have hc2 := findClass_of_methodNamed q3
  rw [hyy, findClass_of_methodNamed hnamed] at hc2
  rw [← Option.some.inj hc2] at hkr
  have w2 : (Cond.sameMethod y.cls y.cls y.name y.desc).before a0 Z = true := by
    simp [Cond.before, Cond.holds, Cond.value, findClass_of_methodNamed hnamed, State.methodFound?_of_named hnamed hy, hnamed, hkr, hni]
  obtain ⟨v, _, ⟨T', L', k', n'⟩, -, X', hS', hg', ⟨L, hQ, l1, l2, l3⟩, st⟩ := superBackS (s := s.setVm vm0) X hx hZ (y := y) hown w1 w2 w6 w8 hyn (backOfS (s := s.setVm vm0) (W := W) hM hZ w4 w3 hR.1 hR.2.1) eT (Ins.self E) (g := g) hg hsize w4 (argsL := argsL) (rest := rest) hlen hstack hW hd (fun _ _ => ⟨has, eT, hR.2.2.1, hR.2.2.2⟩)
  dsimp only [Pt.U, Pt.locs, Pt.cells, Pt.slots] at X' hS' hg' l1 l2 l3 st hQ
  subst l1 l2 l3
  have q := hS.trans hS' (Nat.le_trans hk (by rw [← eT]; exact hg'))
  exact ⟨v, T', L, X', q, Nat.le_refl _, State.Warmed39.trans (t := s.setVm vm0) hZ hS'.1, by rw [hS'.1.alike.findClass]; exact hown, hQ, fun _ t => st.trans t⟩
theorem own_Sface (X : Stand p l e R (s.setVm vm0) m args below meth c T locs cells slots) (hx : p.tables.exec = Jvm.exec) (hZ : Z.Warmed39 vm0) {own : String} {index count : Nat} {y z : MethodName} {bytes : ByteArray} {maxL : Nat} {ret : Option FieldType} {rm : Room} {Q : Option Value → Heap → List Loc → Prop} {as' : Array Value}
    (hown : vm0.findClass own = some m.cls) (w1 : (Cond.methodLink own index y).before a0 Z = true) (w2 : (Cond.declares y).before a0 Z = true) (wf : (Cond.interfaceMethod y.cls y.cls y.name y.desc).before args (s.setVm vm0) = true) (w5 : (Cond.selects C y z).before a0 Z = true) (w6 : (Cond.instanceMethod z).before a0 Z = true) (w7 : (Cond.publicMethod z).before a0 Z = true) (w8 : (Cond.unhidden C y.name y.desc).before a0 Z = true) (w9 : (Cond.castable C y.cls).before a0 Z = true) (w3 : (Cond.initialized z.cls).before a0 Z = true) (w4 : (Cond.code z bytes maxL ret).before a0 Z = true) (hy : y.cls ≠ "java/lang/invoke/MethodHandle" ∧ y.cls ≠ "java/lang/invoke/VarHandle")
    (hM : MetFree l z (head1 [Cond.code z bytes maxL ret] rm) (fun a U => a = as' ∧ Z.Warmed39 U.vm ∧ U.heap = h) (fun _ _ _ _ _ => True) (fun _ U o U' => ∃ v L, o = .returned v ∧ Q v U'.heap L ∧ ReturnedEndW U o U' L rm.cells rm.slots))
    (eT : T.heap = h) (E : Exa Z h a C) {W : Nat} (hR : rm.frames + 1 ≤ R.frames ∧ W + (maxL + 11) + rm.locals ≤ R.locals ∧ cells + rm.cells ≤ R.cells ∧ slots + rm.slots ≤ R.slots)
    {g : JFrame} (hg : g.method = m) (hsize : g.locals.size = c.maxLocals) {argsL rest : List Value} (hlen : ∀ sig, parseMethodDescriptor y.desc = some sig → argsL.length = sig.parameters.length) (hstack : g.stack = argsL.reverse ++ .ref a :: rest) (has : (.ref a :: argsL).toArray = as') (hW : 2 * g.monitorRoom + (rest.map fun v => v.category).sum ≤ W) (hd : decode c.code g.pc = .ok (.invokeinterface index count, 5)) {k0 : Nat} (hS : s.Since vm0 k0) (hk : k0 ≤ h.size) :
    ∃ (v : Option Value) (T' : State) (L : List Loc), Stand p l e R (s.setVm T'.vm) m args below meth c T' (locs ++ L) (cells + rm.cells) (slots + rm.slots) ∧ s.Since T'.vm T'.heap.size ∧ T'.heap.size ≤ T'.heap.size ∧ Z.Warmed39 T'.vm ∧ T'.vm.findClass own = some m.cls ∧ Q v T'.heap L ∧ ∀ target, Steps p.tables e below (T'.setTop { g with pc := g.pc + 5, stack := v.toList ++ rest }) target → Steps p.tables e below (T.setTop g) target := by
  obtain ⟨cq, kq, qa, qb, qc⟩ := isOf (s := s.setVm vm0) hZ eT E
  obtain ⟨v, _, ⟨T', L', k', n'⟩, -, X', hS', hg', ⟨L, hQ, l1, l2, l3⟩, st⟩ := X.interfaceBackS hx (xi := y) (y := z) hown (mvT (s := s.setVm vm0) hZ w1) (mvT (s := s.setVm vm0) hZ w2) wf (mvT (s := s.setVm vm0) hZ w5) (mvT (s := s.setVm vm0) hZ w6) (mvT (s := s.setVm vm0) hZ w7) (mvT (s := s.setVm vm0) hZ w8) (mvT (s := s.setVm vm0) hZ w9) hy (backOfS (s := s.setVm vm0) (W := W) hM hZ w4 w3 hR.1 hR.2.1) qa qb qc (g := g) hg hsize (Steps.refl _) (argsL := argsL) (rest := rest) hlen hstack hW hd (fun _ _ => ⟨has, eT, hR.2.2.1, hR.2.2.2⟩)
  dsimp only [Pt.U, Pt.locs, Pt.cells, Pt.slots] at X' hS' hg' l1 l2 l3 st hQ
  subst l1 l2 l3
  have q := hS.trans hS' (Nat.le_trans hk (by rw [← eT]; exact hg'))
  exact ⟨v, T', L, X', q, Nat.le_refl _, State.Warmed39.trans (t := s.setVm vm0) hZ hS'.1, by rw [hS'.1.alike.findClass]; exact hown, hQ, fun _ t => st.trans t⟩
end OwnS
abbrev MFS (l : Launch) (Z : State) (y : MethodName) (bytes : ByteArray) (maxL : Nat) (ret : Option FieldType) (ws : List Jvm.Cond) (rm : Room) (as' : Array Value) (h0 : Heap) (Q : Option Value → Heap → List Loc → Prop) : Prop :=
  MetFree l y (head1 (Jvm.Cond.code y bytes maxL ret :: ws) rm) (fun a U => a = as' ∧ Z.Warmed39 U.vm ∧ U.heap = h0) (fun _ _ _ _ _ => True) (fun _ U o U' => ∃ v L, o = .returned v ∧ Q v U'.heap L ∧ ReturnedEndW U o U' L rm.cells rm.slots)
theorem own_bodyS {l : Launch} {Z : State} {y : MethodName} {bytes : ByteArray} {maxL : Nat} {ret : Option FieldType} {ws : List Jvm.Cond} {rm : Room} {as' : Array Value} {h0 : Heap} {Q : Option Value → Heap → List Loc → Prop} {k n k' n' : Nat} {L0 : Array Slot} (hp : plainFor y = true) (hef : ∀ m, entryFrame m as' maxL = mkF m 0 L0 []) (hk : k ≤ k') (hn : n ≤ n')
    (H : ∀ (p : Program) (e : Env) (s : State) (m : MethodId) (below : List Frame) (meth : Method) (c : Code) (s₁ : State), p.tables.exec = Jvm.exec → c.code = bytes → c.maxLocals = maxL → s.vm.findClass y.cls = some m.cls → meth.name = y.name → meth.sig.returnType = ret → Z.Warmed39 s.vm → s₁.heap = h0 → s.Since s.vm s.heap.size → s.heap.size ≤ h0.size → Stand p l e rm (s.setVm s.vm) m as' below meth c s₁ [] 0 0 →
      ∃ (T : State) (L : List Loc) (v : Option Value) (vm1 : Vm) (n1 : Nat), Stand p l e rm (s.setVm vm1) m as' below meth c T L k n ∧ s.Since vm1 n1 ∧ n1 ≤ T.heap.size ∧ (ret = none → v = none) ∧ Q v T.heap L ∧ ∀ fs, (∀ (f : JFrame) (acts : List Action), f.method = m → f.locked = none → f.entered = [] → (doReturn e (T.setTop f) acts v).1 = T.setFrames fs) → Steps p.tables e below (s₁.setTop (mkF m 0 L0 [])) (T.setFrames fs)) :
    MetFree l y (head1 (Jvm.Cond.code y bytes maxL ret :: ws) rm) (fun a U => a = as' ∧ Z.Warmed39 U.vm ∧ U.heap = h0) (fun _ _ _ _ _ => True) (fun _ U o U' => ∃ v L, o = .returned v ∧ Q v U'.heap L ∧ ReturnedEndW U o U' L k' n') := by
  refine MetFree.of_bodySF hp hisR ?_
  intro p e s m args below meth c s₁ Bd hml0 hP hK
  obtain ⟨rfl, hZ, hh⟩ := hP
  have e0 : s₁.heap = h0 := by rw [← hh, Bd.state]; rfl
  have hnm := (name_of_methodNamed Bd.named Bd.method).1
  obtain ⟨T, L, v, vm1, n1, X, hS, hn1, hv, hQ, st⟩ := H p e s m below meth c s₁ Bd.exec Bd.bytes hml0 (findClass_of_methodNamed Bd.named) hnm Bd.returns hZ e0 (own_since s) (Nat.le_of_eq (congrArg Array.size hh)) (Stand.of_body Bd)
  obtain ⟨fs, hr, hrun, hended, hRE⟩ := X.leaveW hS hn1 (v := v) (fun h => hv (Bd.returns.symm.trans h)) Bd.notSynchronized
  exact ⟨_, _, castTop (hef m) (st fs hr), hrun, hended, v, L, rfl, hQ, own_REmono hRE hk hn⟩
theorem t_iloadN {tb : Tables} [Ours tb] {e : Env} {below : List Frame} {T target : State} {m : MethodId} {c : Code} {pc : Nat} {L : Array Slot} {S : List Value} {v : Int32} {k : Fin 4} (pc' : Nat) (h : At T m c below) (hx : tb.exec = Jvm.exec) (hd : decode c.code pc = .ok (.iload_n k, 1)) (hl : L[k.val]? = some (.val (.int v))) (hp : pc + 1 = pc') (hr : Steps tb e below (T.setTop (mkF m pc' L (.int v :: S))) target) : Steps tb e below (T.setTop (mkF m pc L (S))) target := by
  subst hp; exact XS.iloadN h hx rfl hd hl hr
theorem t_iload {tb : Tables} [Ours tb] {e : Env} {below : List Frame} {T target : State} {m : MethodId} {c : Code} {pc : Nat} {L : Array Slot} {S : List Value} {v : Int32} {k : Nat} (pc' : Nat) (h : At T m c below) (hx : tb.exec = Jvm.exec) (hd : decode c.code pc = .ok (.iload k, 2)) (hl : L[k]? = some (.val (.int v))) (hp : pc + 2 = pc') (hr : Steps tb e below (T.setTop (mkF m pc' L (.int v :: S))) target) : Steps tb e below (T.setTop (mkF m pc L (S))) target := by
  subst hp; exact XS.iload h hx rfl hd hl hr
theorem t_aloadN {tb : Tables} [Ours tb] {e : Env} {below : List Frame} {T target : State} {m : MethodId} {c : Code} {pc : Nat} {L : Array Slot} {S : List Value} {v : Value} {k : Fin 4} (pc' : Nat) (h : At T m c below) (hx : tb.exec = Jvm.exec) (hd : decode c.code pc = .ok (.aload_n k, 1)) (hl : L[k.val]? = some (.val v)) (hv : v.isRef = true) (hp : pc + 1 = pc') (hr : Steps tb e below (T.setTop (mkF m pc' L (v :: S))) target) : Steps tb e below (T.setTop (mkF m pc L (S))) target := by
  subst hp; exact XS.aloadN h hx rfl hd hl hv hr
theorem t_aload {tb : Tables} [Ours tb] {e : Env} {below : List Frame} {T target : State} {m : MethodId} {c : Code} {pc : Nat} {L : Array Slot} {S : List Value} {v : Value} {k : Nat} (pc' : Nat) (h : At T m c below) (hx : tb.exec = Jvm.exec) (hd : decode c.code pc = .ok (.aload k, 2)) (hl : L[k]? = some (.val v)) (hv : v.isRef = true) (hp : pc + 2 = pc') (hr : Steps tb e below (T.setTop (mkF m pc' L (v :: S))) target) : Steps tb e below (T.setTop (mkF m pc L (S))) target := by
  subst hp; exact XS.aload h hx rfl hd hl hv hr
theorem t_istoreN {tb : Tables} [Ours tb] {e : Env} {below : List Frame} {T target : State} {m : MethodId} {c : Code} {pc : Nat} {L : Array Slot} {S : List Value} {v : Int32} {k : Fin 4} {L' : Array Slot} (pc' : Nat) (h : At T m c below) (hx : tb.exec = Jvm.exec) (hd : decode c.code pc = .ok (.istore_n k, 1)) (hl : storeLocals L k.val (.int v) = some L') (hp : pc + 1 = pc') (hr : Steps tb e below (T.setTop (mkF m pc' L' (S))) target) : Steps tb e below (T.setTop (mkF m pc L (.int v :: S))) target := by
  subst hp; exact XS.istoreN h hx rfl hd rfl hl hr
theorem t_istore {tb : Tables} [Ours tb] {e : Env} {below : List Frame} {T target : State} {m : MethodId} {c : Code} {pc : Nat} {L : Array Slot} {S : List Value} {v : Int32} {k : Nat} {L' : Array Slot} (pc' : Nat) (h : At T m c below) (hx : tb.exec = Jvm.exec) (hd : decode c.code pc = .ok (.istore k, 2)) (hl : storeLocals L k (.int v) = some L') (hp : pc + 2 = pc') (hr : Steps tb e below (T.setTop (mkF m pc' L' (S))) target) : Steps tb e below (T.setTop (mkF m pc L (.int v :: S))) target := by
  subst hp; exact XS.istore h hx rfl hd rfl hl hr
theorem t_astoreN {tb : Tables} [Ours tb] {e : Env} {below : List Frame} {T target : State} {m : MethodId} {c : Code} {pc : Nat} {L : Array Slot} {S : List Value} {v : Value} {k : Fin 4} {L' : Array Slot} (pc' : Nat) (h : At T m c below) (hx : tb.exec = Jvm.exec) (hd : decode c.code pc = .ok (.astore_n k, 1)) (hv : v.isRef = true) (hl : storeLocals L k.val v = some L') (hp : pc + 1 = pc') (hr : Steps tb e below (T.setTop (mkF m pc' L' (S))) target) : Steps tb e below (T.setTop (mkF m pc L (v :: S))) target := by
  subst hp; exact XS.astoreN h hx rfl hd rfl hv hl hr
theorem t_astore {tb : Tables} [Ours tb] {e : Env} {below : List Frame} {T target : State} {m : MethodId} {c : Code} {pc : Nat} {L : Array Slot} {S : List Value} {v : Value} {k : Nat} {L' : Array Slot} (pc' : Nat) (h : At T m c below) (hx : tb.exec = Jvm.exec) (hd : decode c.code pc = .ok (.astore k, 2)) (hv : v.isRef = true) (hl : storeLocals L k v = some L') (hp : pc + 2 = pc') (hr : Steps tb e below (T.setTop (mkF m pc' L' (S))) target) : Steps tb e below (T.setTop (mkF m pc L (v :: S))) target := by
  subst hp; exact XS.astore h hx rfl hd rfl hv hl hr
theorem t_iconst {tb : Tables} [Ours tb] {e : Env} {below : List Frame} {T target : State} {m : MethodId} {c : Code} {pc : Nat} {L : Array Slot} {S : List Value} {i : Int} {r : Int32} (pc' : Nat) (h : At T m c below) (hx : tb.exec = Jvm.exec) (hd : decode c.code pc = .ok (.iconst i, 1)) (he : Int32.ofInt i = r) (hp : pc + 1 = pc') (hr : Steps tb e below (T.setTop (mkF m pc' L (.int r :: S))) target) : Steps tb e below (T.setTop (mkF m pc L (S))) target := by
  subst hp he; exact XS.iconst h hx rfl hd hr
theorem t_bipush {tb : Tables} [Ours tb] {e : Env} {below : List Frame} {T target : State} {m : MethodId} {c : Code} {pc : Nat} {L : Array Slot} {S : List Value} {i : Int} {r : Int32} (pc' : Nat) (h : At T m c below) (hx : tb.exec = Jvm.exec) (hd : decode c.code pc = .ok (.bipush i, 2)) (he : (Int8.ofInt i).toInt32 = r) (hp : pc + 2 = pc') (hr : Steps tb e below (T.setTop (mkF m pc' L (.int r :: S))) target) : Steps tb e below (T.setTop (mkF m pc L (S))) target := by
  subst hp he; exact XS.bipush h hx rfl hd hr
theorem t_sipush {tb : Tables} [Ours tb] {e : Env} {below : List Frame} {T target : State} {m : MethodId} {c : Code} {pc : Nat} {L : Array Slot} {S : List Value} {i : Int} {r : Int32} (pc' : Nat) (h : At T m c below) (hx : tb.exec = Jvm.exec) (hd : decode c.code pc = .ok (.sipush i, 3)) (he : (Int16.ofInt i).toInt32 = r) (hp : pc + 3 = pc') (hr : Steps tb e below (T.setTop (mkF m pc' L (.int r :: S))) target) : Steps tb e below (T.setTop (mkF m pc L (S))) target := by
  subst hp he; exact XS.sipush h hx rfl hd hr
theorem t_aconst_null {tb : Tables} [Ours tb] {e : Env} {below : List Frame} {T target : State} {m : MethodId} {c : Code} {pc : Nat} {L : Array Slot} {S : List Value}  (pc' : Nat) (h : At T m c below) (hx : tb.exec = Jvm.exec) (hd : decode c.code pc = .ok (.aconst_null, 1)) (hp : pc + 1 = pc') (hr : Steps tb e below (T.setTop (mkF m pc' L (.null :: S))) target) : Steps tb e below (T.setTop (mkF m pc L (S))) target := by
  subst hp; exact XS.aconstNull h hx rfl hd hr
theorem t_iadd {tb : Tables} [Ours tb] {e : Env} {below : List Frame} {T target : State} {m : MethodId} {c : Code} {pc : Nat} {L : Array Slot} {S : List Value} {x y r : Int32} (pc' : Nat) (h : At T m c below) (hx : tb.exec = Jvm.exec) (hd : decode c.code pc = .ok (.iadd, 1)) (he : x + y = r) (hp : pc + 1 = pc') (hr : Steps tb e below (T.setTop (mkF m pc' L (.int r :: S))) target) : Steps tb e below (T.setTop (mkF m pc L (.int y :: .int x :: S))) target := by
  subst hp he; exact XS.iadd h hx rfl hd rfl hr
theorem t_isub {tb : Tables} [Ours tb] {e : Env} {below : List Frame} {T target : State} {m : MethodId} {c : Code} {pc : Nat} {L : Array Slot} {S : List Value} {x y r : Int32} (pc' : Nat) (h : At T m c below) (hx : tb.exec = Jvm.exec) (hd : decode c.code pc = .ok (.isub, 1)) (he : x - y = r) (hp : pc + 1 = pc') (hr : Steps tb e below (T.setTop (mkF m pc' L (.int r :: S))) target) : Steps tb e below (T.setTop (mkF m pc L (.int y :: .int x :: S))) target := by
  subst hp he; exact XS.isub h hx rfl hd rfl hr
theorem t_iand {tb : Tables} [Ours tb] {e : Env} {below : List Frame} {T target : State} {m : MethodId} {c : Code} {pc : Nat} {L : Array Slot} {S : List Value} {x y r : Int32} (pc' : Nat) (h : At T m c below) (hx : tb.exec = Jvm.exec) (hd : decode c.code pc = .ok (.iand, 1)) (he : x &&& y = r) (hp : pc + 1 = pc') (hr : Steps tb e below (T.setTop (mkF m pc' L (.int r :: S))) target) : Steps tb e below (T.setTop (mkF m pc L (.int y :: .int x :: S))) target := by
  subst hp he; exact XS.iand h hx rfl hd rfl hr
theorem t_ishr {tb : Tables} [Ours tb] {e : Env} {below : List Frame} {T target : State} {m : MethodId} {c : Code} {pc : Nat} {L : Array Slot} {S : List Value} {x r : Int32} {y : Int32} (pc' : Nat) (h : At T m c below) (hx : tb.exec = Jvm.exec) (hd : decode c.code pc = .ok (.ishr, 1)) (he : x >>> (y &&& 31) = r) (hp : pc + 1 = pc') (hr : Steps tb e below (T.setTop (mkF m pc' L (.int r :: S))) target) : Steps tb e below (T.setTop (mkF m pc L (.int y :: .int x :: S))) target := by
  subst hp he; exact XS.ishr h hx rfl hd rfl hr
theorem t_iushr {tb : Tables} [Ours tb] {e : Env} {below : List Frame} {T target : State} {m : MethodId} {c : Code} {pc : Nat} {L : Array Slot} {S : List Value} {x r : Int32} {y : Int32} (pc' : Nat) (h : At T m c below) (hx : tb.exec = Jvm.exec) (hd : decode c.code pc = .ok (.iushr, 1)) (he : (x.toUInt32 >>> (y &&& 31).toUInt32).toInt32 = r) (hp : pc + 1 = pc') (hr : Steps tb e below (T.setTop (mkF m pc' L (.int r :: S))) target) : Steps tb e below (T.setTop (mkF m pc L (.int y :: .int x :: S))) target := by
  subst hp he; exact XS.iushr h hx rfl hd rfl hr
theorem t_i2b {tb : Tables} [Ours tb] {e : Env} {below : List Frame} {T target : State} {m : MethodId} {c : Code} {pc : Nat} {L : Array Slot} {S : List Value} {x : Int32} {r : Int32} (pc' : Nat) (h : At T m c below) (hx : tb.exec = Jvm.exec) (hd : decode c.code pc = .ok (.i2b, 1)) (he : x.toInt8.toInt32 = r) (hp : pc + 1 = pc') (hr : Steps tb e below (T.setTop (mkF m pc' L (.int r :: S))) target) : Steps tb e below (T.setTop (mkF m pc L (.int x :: S))) target := by
  subst hp he; exact XS.i2b h hx rfl hd rfl hr
theorem t_i2c {tb : Tables} [Ours tb] {e : Env} {below : List Frame} {T target : State} {m : MethodId} {c : Code} {pc : Nat} {L : Array Slot} {S : List Value} {x : Int32} {r : Int32} (pc' : Nat) (h : At T m c below) (hx : tb.exec = Jvm.exec) (hd : decode c.code pc = .ok (.i2c, 1)) (he : x.toUInt32.toUInt16.toUInt32.toInt32 = r) (hp : pc + 1 = pc') (hr : Steps tb e below (T.setTop (mkF m pc' L (.int r :: S))) target) : Steps tb e below (T.setTop (mkF m pc L (.int x :: S))) target := by
  subst hp he; exact XS.i2c h hx rfl hd rfl hr
theorem t_dup {tb : Tables} [Ours tb] {e : Env} {below : List Frame} {T target : State} {m : MethodId} {c : Code} {pc : Nat} {L : Array Slot} {S : List Value} {x : Value} (pc' : Nat) (h : At T m c below) (hx : tb.exec = Jvm.exec) (hd : decode c.code pc = .ok (.dup, 1)) (hc : x.category = 1) (hp : pc + 1 = pc') (hr : Steps tb e below (T.setTop (mkF m pc' L (x :: x :: S))) target) : Steps tb e below (T.setTop (mkF m pc L (x :: S))) target := by
  subst hp; exact XS.dup h hx rfl hd rfl hc hr
theorem t_pop {tb : Tables} [Ours tb] {e : Env} {below : List Frame} {T target : State} {m : MethodId} {c : Code} {pc : Nat} {L : Array Slot} {S : List Value} {x : Value} (pc' : Nat) (h : At T m c below) (hx : tb.exec = Jvm.exec) (hd : decode c.code pc = .ok (.pop, 1)) (hc : x.category = 1) (hp : pc + 1 = pc') (hr : Steps tb e below (T.setTop (mkF m pc' L (S))) target) : Steps tb e below (T.setTop (mkF m pc L (x :: S))) target := by
  subst hp; exact XS.pop h hx rfl hd rfl hc hr
theorem t_iinc {tb : Tables} [Ours tb] {e : Env} {below : List Frame} {T target : State} {m : MethodId} {c : Code} {pc : Nat} {L : Array Slot} {S : List Value} {k : Nat} {cst : Int} {x : Int32} {L' : Array Slot} (pc' : Nat) (h : At T m c below) (hx : tb.exec = Jvm.exec) (hd : decode c.code pc = .ok (.iinc k cst, 3)) (hl : L[k]? = some (.val (.int x))) (hl' : storeLocals L k (.int (x + Int32.ofInt cst)) = some L') (hp : pc + 3 = pc') (hr : Steps tb e below (T.setTop (mkF m pc' L' (S))) target) : Steps tb e below (T.setTop (mkF m pc L (S))) target := by
  subst hp; exact XS.iinc h hx rfl hd hl hl' hr
theorem t_goto {tb : Tables} [Ours tb] {e : Env} {below : List Frame} {T target : State} {m : MethodId} {c : Code} {pc : Nat} {L : Array Slot} {S : List Value} {o : Int} (pc' : Nat) (h : At T m c below) (hx : tb.exec = Jvm.exec) (hd : decode c.code pc = .ok (.goto o, 3)) (ho : 0 ≤ (pc : Int) + o) (hp : ((pc : Int) + o).toNat = pc') (hr : Steps tb e below (T.setTop (mkF m pc' L (S))) target) : Steps tb e below (T.setTop (mkF m pc L (S))) target := by
  exact XS.goto h hx rfl rfl hd ho hp hr
theorem t_ifYes {tb : Tables} [Ours tb] {e : Env} {below : List Frame} {T target : State} {m : MethodId} {c : Code} {pc : Nat} {L : Array Slot} {S : List Value} {cd : ClassFile.Cond} {x : Int32} {o : Int} (pc' : Nat) (h : At T m c below) (hx : tb.exec = Jvm.exec) (hd : decode c.code pc = .ok (.ifCond cd o, 3)) (hc : ifCond.holds cd x = true) (ho : 0 ≤ (pc : Int) + o) (hp : ((pc : Int) + o).toNat = pc') (hr : Steps tb e below (T.setTop (mkF m pc' L (S))) target) : Steps tb e below (T.setTop (mkF m pc L (.int x :: S))) target := by
  exact XS.ifYes h hx rfl rfl hd rfl hc ho hp hr
theorem t_ifNo {tb : Tables} [Ours tb] {e : Env} {below : List Frame} {T target : State} {m : MethodId} {c : Code} {pc : Nat} {L : Array Slot} {S : List Value} {cd : ClassFile.Cond} {x : Int32} {o : Int} (pc' : Nat) (h : At T m c below) (hx : tb.exec = Jvm.exec) (hd : decode c.code pc = .ok (.ifCond cd o, 3)) (hc : ifCond.holds cd x = false) (hp : pc + 3 = pc') (hr : Steps tb e below (T.setTop (mkF m pc' L (S))) target) : Steps tb e below (T.setTop (mkF m pc L (.int x :: S))) target := by
  subst hp; exact XS.ifNo h hx rfl hd rfl hc hr
theorem t_icmpYes {tb : Tables} [Ours tb] {e : Env} {below : List Frame} {T target : State} {m : MethodId} {c : Code} {pc : Nat} {L : Array Slot} {S : List Value} {cd : ClassFile.Cond} {x y : Int32} {o : Int} (pc' : Nat) (h : At T m c below) (hx : tb.exec = Jvm.exec) (hd : decode c.code pc = .ok (.if_icmp cd o, 3)) (hc : if_icmp.holds cd x y = true) (ho : 0 ≤ (pc : Int) + o) (hp : ((pc : Int) + o).toNat = pc') (hr : Steps tb e below (T.setTop (mkF m pc' L (S))) target) : Steps tb e below (T.setTop (mkF m pc L (.int y :: .int x :: S))) target := by
  exact XS.icmpYes h hx rfl rfl hd rfl hc ho hp hr
theorem t_icmpNo {tb : Tables} [Ours tb] {e : Env} {below : List Frame} {T target : State} {m : MethodId} {c : Code} {pc : Nat} {L : Array Slot} {S : List Value} {cd : ClassFile.Cond} {x y : Int32} {o : Int} (pc' : Nat) (h : At T m c below) (hx : tb.exec = Jvm.exec) (hd : decode c.code pc = .ok (.if_icmp cd o, 3)) (hc : if_icmp.holds cd x y = false) (hp : pc + 3 = pc') (hr : Steps tb e below (T.setTop (mkF m pc' L (S))) target) : Steps tb e below (T.setTop (mkF m pc L (.int y :: .int x :: S))) target := by
  subst hp; exact XS.icmpNo h hx rfl hd rfl hc hr
theorem t_ifnonnullYes {tb : Tables} [Ours tb] {e : Env} {below : List Frame} {T target : State} {m : MethodId} {c : Code} {pc : Nat} {L : Array Slot} {S : List Value} {b : Addr} {o : Int} (pc' : Nat) (h : At T m c below) (hx : tb.exec = Jvm.exec) (hd : decode c.code pc = .ok (.ifnonnull o, 3)) (ho : 0 ≤ (pc : Int) + o) (hp : ((pc : Int) + o).toNat = pc') (hr : Steps tb e below (T.setTop (mkF m pc' L (S))) target) : Steps tb e below (T.setTop (mkF m pc L (.ref b :: S))) target := by
  exact XS.ifnonnullYes h hx rfl rfl hd rfl ho hp hr
theorem own_arlen {p : Program} {l : Launch} {e : Env} {R : Room} {s : State} {m : MethodId} {args : Array Value} {below : List Frame} {meth : Method} {c : Code} {T : State} {locs : List Loc} {cells slots : Nat} {Z : State} {h : Heap} {a : Addr} {k : ClassId} {z : Int32} {vs : List Value} {dv : Value} {pc pc' : Nat} {Ls : Array Slot} {S : List Value} {ty : FieldType} {target : State} (X : Stand p l e R s m args below meth c T locs cells slots) (hx : p.tables.exec = Jvm.exec) (hZ : Z.Warmed39 s.vm) (eT : T.heap = h) (F : Arv Z h a k ty z vs dv) (hd : decode c.code pc = .ok (.arraylength, 1)) (hp : pc + 1 = pc') (hr : Steps p.tables e below (T.setTop (mkF m pc' Ls (.int z :: S))) target) : Steps p.tables e below (T.setTop (mkF m pc Ls (.ref a :: S))) target := by
  obtain ⟨cl, A, -, q, n, -, -⟩ := F
  subst hp
  refine X.arraylength hx (by rw [eT]; exact A.1) (State.isArrayOf_alike hZ.alike A.2.1) (g := mkF m pc Ls (.ref a :: S)) rfl rfl hd _ ?_
  rw [len_of q n]; exact hr
theorem own_aldC {p : Program} {l : Launch} {e : Env} {R : Room} {s : State} {m : MethodId} {args : Array Value} {below : List Frame} {meth : Method} {c : Code} {T : State} {locs : List Loc} {cells slots : Nat} {Z : State} {h : Heap} {a : Addr} {k : ClassId} {z j : Int32} {vs : List Value} {v dv : Value} {pc pc' : Nat} {Ls : Array Slot} {S : List Value} {target : State} (X : Stand p l e R s m args below meth c T locs cells slots) (hx : p.tables.exec = Jvm.exec) (hZ : Z.Warmed39 s.vm) (eT : T.heap = h) (F : Arv Z h a k .char z vs dv) (hj : ¬ j < 0 ∧ j < z) (hv : vs.getD j.toNatClampNeg dv = v) (hd : decode c.code pc = .ok (.caload, 1)) (hp : pc + 1 = pc') (hr : Steps p.tables e below (T.setTop (mkF m pc' Ls (v :: S))) target) : Steps p.tables e below (T.setTop (mkF m pc Ls (.int j :: .ref a :: S))) target := by
  obtain ⟨cl, A, -, q, n, H, -⟩ := F
  subst hp
  have hin := inb_of q hj
  exact X.caload hx (by rw [eT]; exact A.1) (State.isArrayOf_alike hZ.alike A.2.1) A.2.2 hin (H.at hin hv) (g := mkF m pc Ls (.int j :: .ref a :: S)) rfl rfl hd _ hr
theorem own_aldB {p : Program} {l : Launch} {e : Env} {R : Room} {s : State} {m : MethodId} {args : Array Value} {below : List Frame} {meth : Method} {c : Code} {T : State} {locs : List Loc} {cells slots : Nat} {Z : State} {h : Heap} {a : Addr} {k : ClassId} {z j : Int32} {vs : List Value} {v dv : Value} {pc pc' : Nat} {Ls : Array Slot} {S : List Value} {target : State} (X : Stand p l e R s m args below meth c T locs cells slots) (hx : p.tables.exec = Jvm.exec) (hZ : Z.Warmed39 s.vm) (eT : T.heap = h) (F : Arv Z h a k .byte z vs dv) (hj : ¬ j < 0 ∧ j < z) (hv : vs.getD j.toNatClampNeg dv = v) (hd : decode c.code pc = .ok (.baload, 1)) (hp : pc + 1 = pc') (hr : Steps p.tables e below (T.setTop (mkF m pc' Ls (v :: S))) target) : Steps p.tables e below (T.setTop (mkF m pc Ls (.int j :: .ref a :: S))) target := by
  obtain ⟨cl, A, -, q, n, H, -⟩ := F
  subst hp
  have hin := inb_of q hj
  exact X.baloadBytes hx (by rw [eT]; exact A.1) (State.isArrayOf_alike hZ.alike A.2.1) A.2.2 hin (H.at hin hv) (g := mkF m pc Ls (.int j :: .ref a :: S)) rfl rfl hd _ hr
theorem own_astC {p : Program} {l : Launch} {e : Env} {R : Room} {s : State} {m : MethodId} {args : Array Value} {below : List Frame} {meth : Method} {c : Code} {T : State} {locs : List Loc} {cells slots : Nat} {Z : State} {h : Heap} {a : Addr} {k : ClassId} {z j : Int32} {vs : List Value} {dv : Value} {S : List Value} {x : Int32} (X : Stand p l e R s m args below meth c T locs cells slots) (hx : p.tables.exec = Jvm.exec) (hZ : Z.Warmed39 s.vm) (eT : T.heap = h) (F : Arv Z h a k .char z vs dv) (hj : ¬ j < 0 ∧ j < z) (i : Nat) (hi : j.toNatClampNeg = i) (hi2 : i < vs.length) {g : JFrame} (hg : g.method = m) (hs : g.stack = .int x :: .int j :: .ref a :: S) (hd : decode c.code g.pc = .ok (.castore, 1)) :
    ∃ T' h', Stand p l e R s m args below meth c T' (locs ++ [⟨a, j.toNatClampNeg⟩]) cells slots ∧ T'.heap = h' ∧ Wr h h' a j.toNatClampNeg (.int (nar .char x)) ∧ Arv Z h' a k .char z (vs.set i (.int (nar .char x))) dv ∧ ∀ target, Steps p.tables e below (T'.setTop { g with pc := g.pc + 1, stack := S }) target → Steps p.tables e below (T.setTop g) target := by
  obtain ⟨cl, A, q1, q, n, H, G⟩ := F
  obtain ⟨T', h', X', e', W, st⟩ := stC X hx hZ eT A (inb_of q hj) hg hs hd
  exact ⟨T', h', X', e', W, Arv.set A q1 q n H G (fits_nar_char x) W i hi hi2, st⟩
theorem own_astB {p : Program} {l : Launch} {e : Env} {R : Room} {s : State} {m : MethodId} {args : Array Value} {below : List Frame} {meth : Method} {c : Code} {T : State} {locs : List Loc} {cells slots : Nat} {Z : State} {h : Heap} {a : Addr} {k : ClassId} {z j : Int32} {vs : List Value} {dv : Value} {S : List Value} {x : Int32} (X : Stand p l e R s m args below meth c T locs cells slots) (hx : p.tables.exec = Jvm.exec) (hZ : Z.Warmed39 s.vm) (eT : T.heap = h) (F : Arv Z h a k .byte z vs dv) (hj : ¬ j < 0 ∧ j < z) (i : Nat) (hi : j.toNatClampNeg = i) (hi2 : i < vs.length) {g : JFrame} (hg : g.method = m) (hs : g.stack = .int x :: .int j :: .ref a :: S) (hd : decode c.code g.pc = .ok (.bastore, 1)) :
    ∃ T' h', Stand p l e R s m args below meth c T' (locs ++ [⟨a, j.toNatClampNeg⟩]) cells slots ∧ T'.heap = h' ∧ Wr h h' a j.toNatClampNeg (.int (nar .byte x)) ∧ Arv Z h' a k .byte z (vs.set i (.int (nar .byte x))) dv ∧ ∀ target, Steps p.tables e below (T'.setTop { g with pc := g.pc + 1, stack := S }) target → Steps p.tables e below (T.setTop g) target := by
  obtain ⟨cl, A, q1, q, n, H, G⟩ := F
  obtain ⟨T', h', X', e', W, st⟩ := stB X hx hZ eT A (inb_of q hj) hg hs hd
  exact ⟨T', h', X', e', W, Arv.set A q1 q n H G (fits_nar_byte x) W i hi hi2, st⟩
abbrev HW (Z : State) (a0 : Array Value) : Prop := ∀ d ∈ tables_1, d.before a0 Z = true
theorem ow {Z : State} {a0 : Array Value} {d : Jvm.Cond} (i : Nat) (hw : HW Z a0) (q : tables_1[i]? = some d) : d.before a0 Z = true := hw d (List.mem_of_getElem? q)
abbrev z0 : Value := .int 0
abbrev SCS (Z : State) (z : Int32) : Prop := Sta Z Z.heap "java/lang/String" "COMPACT_STRINGS" "Z" (.int z)
variable {Z : State} {a0 : Array Value}
abbrev vr (a : Addr) : Slot := .val (.ref a)
abbrev vi (z : Int32) : Slot := .val (.int z)
def own_pick (x : Int32) : Int32 := if (x &&& (511 : Int32)) < (256 : Int32) then x &&& (511 : Int32) else 58
theorem own_pick1 {x : Int32} (h : (x &&& (511 : Int32)) < (256 : Int32)) : some (Value.int (x &&& (511 : Int32))) = some (.int (own_pick x)) := by simp [own_pick, h]
theorem own_pick2 {x : Int32} (h : ¬ ((x &&& (511 : Int32)) < (256 : Int32))) : some (Value.int (58 : Int32)) = some (.int (own_pick x)) := by simp [own_pick, h]
theorem own_511 (x : Int32) : ¬ ((x &&& (511 : Int32)) < (0 : Int32)) := by
  have h := c_mask x 511 9 (by decide) (by decide)
  rw [Int32.lt_iff_toInt_lt, h]; show ¬ _ < (0 : Int); omega
theorem own_le255 {y : Int32} (h : y < (256 : Int32)) : ¬ ((255 : Int32) < y) := by
  rw [Int32.lt_iff_toInt_lt] at *; have : (256 : Int32).toInt = 256 := rfl; have : (255 : Int32).toInt = 255 := rfl; omega
theorem own_picka (x : Int32) : ¬ ((own_pick x) < (0 : Int32)) := by
  unfold own_pick; split
  · exact own_511 x
  · decide
theorem own_pickb (x : Int32) : ¬ ((255 : Int32) < (own_pick x)) := by
  unfold own_pick; split
  · rename_i h; exact own_le255 h
  · decide
theorem own_m255a (x : Int32) : ¬ ((x &&& (255 : Int32)) < (0 : Int32)) := by
  have h := c_mask x 255 8 (by decide) (by decide)
  rw [Int32.lt_iff_toInt_lt, h]; show ¬ _ < (0 : Int); omega
theorem own_m255b (x : Int32) : ¬ ((255 : Int32) < (x &&& (255 : Int32))) := by
  have h := c_mask x 255 8 (by decide) (by decide)
  rw [Int32.lt_iff_toInt_lt, h]; show ¬ (255 : Int) < _; omega
theorem own_narb (x : Int32) : nar .byte (x.toInt8.toInt32) = x.toInt8.toInt32 := by
  show (x.toInt8.toInt32).toInt8.toInt32 = _
  simp
theorem own_c2c {x : Int32} (h1 : ¬ (x < (0 : Int32))) (h2 : ¬ ((255 : Int32) < x)) : x.toUInt32.toUInt16.toUInt32.toInt32 = x := by
  have h := c_i2c x
  rw [Int32.lt_iff_toInt_lt] at h1 h2
  have e1 : (0 : Int32).toInt = 0 := rfl
  have e2 : (255 : Int32).toInt = 255 := rfl
  apply Int32.toInt_inj.mp; omega
theorem own_b2c {x : Int32} (h1 : ¬ (x < (0 : Int32))) (h2 : ¬ ((255 : Int32) < x)) : (x.toInt8.toInt32 &&& (255 : Int32)) = x := by
  have h := c_mask (x.toInt8.toInt32) 255 8 (by decide) (by decide)
  have q := c_i2b x
  rw [Int32.lt_iff_toInt_lt] at h1 h2
  have e1 : (0 : Int32).toInt = 0 := rfl
  have e2 : (255 : Int32).toInt = 255 := rfl
  apply Int32.toInt_inj.mp; rw [h]; omega
theorem own_b58 {x : Int32} (h : x = (58 : Int32)) : (x.toInt8.toInt32) = (58 : Int32) := by subst h; decide
theorem own_n58 {x : Int32} (h1 : ¬ (x < (0 : Int32))) (h2 : ¬ ((255 : Int32) < x)) (h : ¬ (x = (58 : Int32))) : ¬ ((x.toInt8.toInt32) = (58 : Int32)) := fun q => h (by rw [← own_b2c h1 h2, q]; decide)
theorem own_kcp {Z : State} {h h' : Heap} {b : Addr} {k : ClassId} {ty : FieldType} {z : Int32} {vs : List Value} {dv : Value} {n : Nat} {ws : List (Addr × Nat)} (K : Keep h h' [b]) (B : Arv Z h b k ty z vs dv) (hn : (List.range z.toNatClampNeg).map (fun i => (b, i)) = ws) (hw : ∃ l, ws = (b, 0) :: l) : KL h h' ws := by
  obtain ⟨c0, A, -, S, -⟩ := B
  refine ⟨K.1, fun x c q => ?_⟩
  by_cases e : x = b
  · subst e
    obtain ⟨c', r1, r2, r3, r4⟩ := K.2.2 x c q
    refine ⟨c', r1, r2, r3, r4, fun i hi => ?_, fun hn' => ?_⟩
    · have hsz : c.slots.size = z.toNatClampNeg := by cases q.symm.trans A.1; exact S
      have : ¬ i < z.toNatClampNeg := fun hlt => hi (hn ▸ List.mem_map.mpr ⟨i, List.mem_range.mpr hlt, rfl⟩)
      rw [Array.getElem?_eq_none (by omega), Array.getElem?_eq_none (by omega)]
    · obtain ⟨l, hl⟩ := hw
      exact absurd rfl (hn' (x, 0) (hl ▸ List.mem_cons_self))
  · exact ⟨c, K.2.1 x c q (by simpa using e), rfl, rfl, rfl, fun _ _ => rfl, fun _ => rfl⟩
abbrev b0_ := jdk_41_method_11_code
theorem d0 : decode b0_ 0 = .ok (.iload_n 0, 1) := by decide +kernel
theorem d1 : decode b0_ 1 = .ok (.ifCond .lt 8, 3) := by decide +kernel
theorem d2 : decode b0_ 4 = .ok (.iload_n 0, 1) := by decide +kernel
theorem d3 : decode b0_ 5 = .ok (.iload_n 1, 1) := by decide +kernel
theorem d4 : decode b0_ 6 = .ok (.if_icmp .lt 10, 3) := by decide +kernel
theorem d5 : decode b0_ 16 = .ok (.iload_n 0, 1) := by decide +kernel
theorem d6 : decode b0_ 17 = .ok (.ireturn, 1) := by decide +kernel
theorem pn_Preconditions147 : plainName "jdk/internal/util/Preconditions" = true := by first | (simp [plainName, overriddenIn]; done) | decide +kernel
abbrev y0_checkIndex : MethodName := ⟨"jdk/internal/util/Preconditions", "checkIndex", "(IILjava/util/function/BiFunction;)I"⟩
def Q_r_checkIndex_null (Z : State) (p0 p1 : Int32) (h0 : Heap) (n0 : Nat) (v : Option Value) (h : Heap) (L : List Loc) : Prop := v = some (.int p0) ∧ Fr n0 L ∧ h = h0
theorem ef_r_checkIndex_null (p0 p1 : Int32) (m : MethodId) : entryFrame m #[(.int p0), (.int p1), .null] 3 = mkF m 0 #[.val (.int p0), .val (.int p1), .val .null] [] := by first | (simp [entryFrame, mkF, argsToLocals, Value.category]; done) | rfl
set_option maxRecDepth 65536 in
set_option maxHeartbeats 40000000 in
theorem r_checkIndex_null (l : Launch) (Z : State) (a0 : Array Value) (hw : HW Z a0) (ws : List Jvm.Cond) (p0 p1 : Int32) (h0 : Heap) (n0 : Nat) (Z0 : n0 ≤ h0.size) (hp0 : ¬ (p0 < (0 : Int32))) (hp1 : p0 < p1) :
    MF l Z y0_checkIndex b0_ 3 (some .int) ws ⟨0, 0, 0, 0⟩ #[(.int p0), (.int p1), .null] h0 (Q_r_checkIndex_null Z p0 p1 h0 n0) := by
  refine own_body (plainFor_of_name pn_Preconditions147) (ef_r_checkIndex_null p0 p1) (by decide) (by decide) ?_
  intro p e s m below meth c s₁ hx hby hml hown hnm hret hZ hh e0 X0
  have N0 := Fr.nil n0
  refine ⟨s₁, _, some (.int p0), X0, (fun h => by cases h <;> rfl), ?_, fun fs hr => ?_⟩
  · show Q_r_checkIndex_null Z p0 p1 h0 n0 _ s₁.heap _
    rw [e0]
    exact ⟨rfl, N0, rfl⟩
  · refine t_iloadN 1 X0.here hx (hb hby d0) rfl rfl ?_
    refine t_ifNo 4 X0.here hx (hb hby d1) ((if0 _ _).trans (flt hp0).1) rfl ?_
    refine t_iloadN 5 X0.here hx (hb hby d2) rfl rfl ?_
    refine t_iloadN 6 X0.here hx (hb hby d3) rfl rfl ?_
    refine t_icmpYes (pc := 6) 16 X0.here hx (hb hby d4) (tlt hp1).1 (by decide) (by decide) ?_
    refine t_iloadN 17 X0.here hx (hb hby d5) rfl rfl ?_
    exact retI X0 hx hret (hb hby d6) hr
def Q_r_checkIndex_fo (Z : State) (p0 p1 : Int32) (fo : Addr) (h0 : Heap) (n0 : Nat) (v : Option Value) (h : Heap) (L : List Loc) : Prop := v = some (.int p0) ∧ Fr n0 L ∧ h = h0
theorem ef_r_checkIndex_fo (p0 p1 : Int32) (fo : Addr) (m : MethodId) : entryFrame m #[(.int p0), (.int p1), (.ref fo)] 3 = mkF m 0 #[.val (.int p0), .val (.int p1), .val (.ref fo)] [] := by first | (simp [entryFrame, mkF, argsToLocals, Value.category]; done) | rfl
set_option maxRecDepth 65536 in
set_option maxHeartbeats 40000000 in
theorem r_checkIndex_fo (l : Launch) (Z : State) (a0 : Array Value) (hw : HW Z a0) (ws : List Jvm.Cond) (p0 p1 : Int32) (fo : Addr) (h0 : Heap) (n0 : Nat) (Z0 : n0 ≤ h0.size) (hp0 : ¬ (p0 < (0 : Int32))) (hp1 : p0 < p1) :
    MF l Z y0_checkIndex b0_ 3 (some .int) ws ⟨0, 0, 0, 0⟩ #[(.int p0), (.int p1), (.ref fo)] h0 (Q_r_checkIndex_fo Z p0 p1 fo h0 n0) := by
  refine own_body (plainFor_of_name pn_Preconditions147) (ef_r_checkIndex_fo p0 p1 fo) (by decide) (by decide) ?_
  intro p e s m below meth c s₁ hx hby hml hown hnm hret hZ hh e0 X0
  have N0 := Fr.nil n0
  refine ⟨s₁, _, some (.int p0), X0, (fun h => by cases h <;> rfl), ?_, fun fs hr => ?_⟩
  · show Q_r_checkIndex_fo Z p0 p1 fo h0 n0 _ s₁.heap _
    rw [e0]
    exact ⟨rfl, N0, rfl⟩
  · refine t_iloadN 1 X0.here hx (hb hby d0) rfl rfl ?_
    refine t_ifNo 4 X0.here hx (hb hby d1) ((if0 _ _).trans (flt hp0).1) rfl ?_
    refine t_iloadN 5 X0.here hx (hb hby d2) rfl rfl ?_
    refine t_iloadN 6 X0.here hx (hb hby d3) rfl rfl ?_
    refine t_icmpYes (pc := 6) 16 X0.here hx (hb hby d4) (tlt hp1).1 (by decide) (by decide) ?_
    refine t_iloadN 17 X0.here hx (hb hby d5) rfl rfl ?_
    exact retI X0 hx hret (hb hby d6) hr
abbrev b1_ := jdk_42_method_155_code
theorem d7 : decode b1_ 0 = .ok (.iload_n 0, 1) := by decide +kernel
theorem d8 : decode b1_ 1 = .ok (.iload_n 1, 1) := by decide +kernel
theorem d9 : decode b1_ 2 = .ok (.getstatic 1053, 3) := by decide +kernel
def w90 (hw : HW Z a0) := ow 90 hw rfl
theorem d10 : decode b1_ 5 = .ok (.invokestatic 1059, 3) := by decide +kernel
def w169 (hw : HW Z a0) := ow 169 hw rfl
def w171 (hw : HW Z a0) := ow 171 hw rfl
def w91 (hw : HW Z a0) := ow 91 hw rfl
theorem pd_0 : parseMethodDescriptor "(IILjava/util/function/BiFunction;)I" = some ⟨[.int, .int, (.object "java/util/function/BiFunction")], some .int⟩ := by decide +kernel
def w170 (hw : HW Z a0) := ow 170 hw rfl
theorem d11 : decode b1_ 8 = .ok (.pop, 1) := by decide +kernel
theorem d12 : decode b1_ 9 = .ok (.return_, 1) := by decide +kernel
theorem pn_String564 : plainName "java/lang/String" = true := by first | (simp [plainName, overriddenIn]; done) | decide +kernel
abbrev y1_checkIndex : MethodName := ⟨"java/lang/String", "checkIndex", "(II)V"⟩
def Q_r_checkIndex (Z : State) (p0 p1 : Int32) (h0 : Heap) (n0 : Nat) (v : Option Value) (h : Heap) (L : List Loc) : Prop := v = none ∧ Fr n0 L ∧ h = h0
theorem ef_r_ScheckIndex_null (p0 p1 : Int32) (m : MethodId) : entryFrame m #[(.int p0), (.int p1)] 2 = mkF m 0 #[.val (.int p0), .val (.int p1)] [] := by first | (simp [entryFrame, mkF, argsToLocals, Value.category]; done) | rfl
set_option maxRecDepth 65536 in
set_option maxHeartbeats 40000000 in
theorem r_ScheckIndex_null (l : Launch) (Z : State) (a0 : Array Value) (hw : HW Z a0) (ws : List Jvm.Cond) (p0 p1 : Int32) (h0 : Heap) (n0 : Nat) (Z0 : n0 ≤ h0.size) (S_SIOOBE_FORMATTER : Sta Z Z.heap "jdk/internal/util/Preconditions" "SIOOBE_FORMATTER" "Ljava/util/function/BiFunction;" .null) (O0 : Old Z n0 h0) (hp0 : ¬ (p0 < (0 : Int32))) (hp1 : p0 < p1) :
    MF l Z y1_checkIndex b1_ 2 none ws ⟨1, 0, 0, 14⟩ #[(.int p0), (.int p1)] h0 (Q_r_checkIndex Z p0 p1 h0 n0) := by
  refine own_body (plainFor_of_name pn_String564) (ef_r_ScheckIndex_null p0 p1) (by decide) (by decide) ?_
  intro p e s m below meth c s₁ hx hby hml hown hnm hret hZ hh e0 X0
  have N0 := Fr.nil n0
  obtain ⟨T1, X1, e1, st1⟩ := getS2 X0 hx hZ hown (host := "") (Or.inl (w90 hw)) Via.refl e0 (Sta.ext O0.2 S_SIOOBE_FORMATTER) (g := (mkF m 2 #[vi p0, vi p1] [(.int p1), (.int p0)])) rfl (hb hby d9)
  obtain ⟨_, T2, L2, X2, hQ2, st2⟩ := own_static X1 hx hZ hown (w169 hw) (w170 hw) (w91 hw) (w171 hw) (by decide) (r_checkIndex_null l Z a0 hw [] p0 p1 h0 n0 Z0 hp0 hp1) e1 (W := 0) (by decide) (g := (mkF m 5 #[vi p0, vi p1] [.null, (.int p1), (.int p0)])) rfl (by rw [hml]; rfl) (argsL := [(.int p0), (.int p1), .null]) (rest := []) (lenOf pd_0 rfl) rfl rfl (own_wr rfl rfl) (hb hby d10)
  obtain ⟨rfl, N2q, e2⟩ := hQ2
  have N2 := Fr.app N0 N2q
  refine ⟨T2, _, none, X2, (fun h => by cases h <;> rfl), ?_, fun fs hr => ?_⟩
  · show Q_r_checkIndex Z p0 p1 h0 n0 _ T2.heap _
    rw [e2]
    exact ⟨rfl, N2, rfl⟩
  · refine t_iloadN 1 X0.here hx (hb hby d7) rfl rfl ?_
    refine t_iloadN 2 X0.here hx (hb hby d8) rfl rfl ?_
    refine st1 _ ?_
    refine st2 _ ?_
    refine t_pop 9 X2.here hx (hb hby d11) rfl rfl ?_
    exact X2.returnOut hx hret (hb hby d12) hr
theorem ef_r_ScheckIndex_fo (p0 p1 : Int32) (m : MethodId) : entryFrame m #[(.int p0), (.int p1)] 2 = mkF m 0 #[.val (.int p0), .val (.int p1)] [] := by first | (simp [entryFrame, mkF, argsToLocals, Value.category]; done) | rfl
set_option maxRecDepth 65536 in
set_option maxHeartbeats 40000000 in
theorem r_ScheckIndex_fo (l : Launch) (Z : State) (a0 : Array Value) (hw : HW Z a0) (ws : List Jvm.Cond) (p0 p1 : Int32) (fo : Addr) (h0 : Heap) (n0 : Nat) (Z0 : n0 ≤ h0.size) (S_SIOOBE_FORMATTER : Sta Z Z.heap "jdk/internal/util/Preconditions" "SIOOBE_FORMATTER" "Ljava/util/function/BiFunction;" (.ref fo)) (O0 : Old Z n0 h0) (hp0 : ¬ (p0 < (0 : Int32))) (hp1 : p0 < p1) :
    MF l Z y1_checkIndex b1_ 2 none ws ⟨1, 0, 0, 14⟩ #[(.int p0), (.int p1)] h0 (Q_r_checkIndex Z p0 p1 h0 n0) := by
  refine own_body (plainFor_of_name pn_String564) (ef_r_ScheckIndex_fo p0 p1) (by decide) (by decide) ?_
  intro p e s m below meth c s₁ hx hby hml hown hnm hret hZ hh e0 X0
  have N0 := Fr.nil n0
  obtain ⟨T1, X1, e1, st1⟩ := getS2 X0 hx hZ hown (host := "") (Or.inl (w90 hw)) Via.refl e0 (Sta.ext O0.2 S_SIOOBE_FORMATTER) (g := (mkF m 2 #[vi p0, vi p1] [(.int p1), (.int p0)])) rfl (hb hby d9)
  obtain ⟨_, T2, L2, X2, hQ2, st2⟩ := own_static X1 hx hZ hown (w169 hw) (w170 hw) (w91 hw) (w171 hw) (by decide) (r_checkIndex_fo l Z a0 hw [] p0 p1 fo h0 n0 Z0 hp0 hp1) e1 (W := 0) (by decide) (g := (mkF m 5 #[vi p0, vi p1] [(.ref fo), (.int p1), (.int p0)])) rfl (by rw [hml]; rfl) (argsL := [(.int p0), (.int p1), (.ref fo)]) (rest := []) (lenOf pd_0 rfl) rfl rfl (own_wr rfl rfl) (hb hby d10)
  obtain ⟨rfl, N2q, e2⟩ := hQ2
  have N2 := Fr.app N0 N2q
  refine ⟨T2, _, none, X2, (fun h => by cases h <;> rfl), ?_, fun fs hr => ?_⟩
  · show Q_r_checkIndex Z p0 p1 h0 n0 _ T2.heap _
    rw [e2]
    exact ⟨rfl, N2, rfl⟩
  · refine t_iloadN 1 X0.here hx (hb hby d7) rfl rfl ?_
    refine t_iloadN 2 X0.here hx (hb hby d8) rfl rfl ?_
    refine st1 _ ?_
    refine st2 _ ?_
    refine t_pop 9 X2.here hx (hb hby d11) rfl rfl ?_
    exact X2.returnOut hx hret (hb hby d12) hr
theorem r_checkIndex (l : Launch) (Z : State) (a0 : Array Value) (hw : HW Z a0) (ws : List Jvm.Cond) (p0 p1 : Int32) (fm : Value) (h0 : Heap) (n0 : Nat) (Z0 : n0 ≤ h0.size) (hfm : fm.isRef = true) (S_SIOOBE_FORMATTER : Sta Z Z.heap "jdk/internal/util/Preconditions" "SIOOBE_FORMATTER" "Ljava/util/function/BiFunction;" fm) (O0 : Old Z n0 h0) (hp0 : ¬ (p0 < (0 : Int32))) (hp1 : p0 < p1) :
    MF l Z y1_checkIndex b1_ 2 none ws ⟨1, 0, 0, 14⟩ #[(.int p0), (.int p1)] h0 (Q_r_checkIndex Z p0 p1 h0 n0) := by
  rcases ref_cases hfm with rfl | ⟨fx, rfl⟩
  · exact r_ScheckIndex_null l Z a0 hw ws p0 p1 h0 n0 Z0 S_SIOOBE_FORMATTER O0 hp0 hp1
  · exact r_ScheckIndex_fo l Z a0 hw ws p0 p1 fx h0 n0 Z0 S_SIOOBE_FORMATTER O0 hp0 hp1
abbrev b2_ := jdk_41_method_12_code
theorem d13 : decode b2_ 0 = .ok (.iload_n 0, 1) := by decide +kernel
theorem d14 : decode b2_ 1 = .ok (.ifCond .lt 13, 3) := by decide +kernel
theorem d15 : decode b2_ 4 = .ok (.iload_n 0, 1) := by decide +kernel
theorem d16 : decode b2_ 5 = .ok (.iload_n 1, 1) := by decide +kernel
theorem d17 : decode b2_ 6 = .ok (.if_icmp .gt 8, 3) := by decide +kernel
theorem d18 : decode b2_ 9 = .ok (.iload_n 1, 1) := by decide +kernel
theorem d19 : decode b2_ 10 = .ok (.iload_n 2, 1) := by decide +kernel
theorem d20 : decode b2_ 11 = .ok (.if_icmp .le 11, 3) := by decide +kernel
theorem d21 : decode b2_ 22 = .ok (.iload_n 0, 1) := by decide +kernel
theorem d22 : decode b2_ 23 = .ok (.ireturn, 1) := by decide +kernel
abbrev y2_checkFromToIndex : MethodName := ⟨"jdk/internal/util/Preconditions", "checkFromToIndex", "(IIILjava/util/function/BiFunction;)I"⟩
def Q_r_checkFromToIndex_null (Z : State) (p0 p1 p2 : Int32) (h0 : Heap) (n0 : Nat) (v : Option Value) (h : Heap) (L : List Loc) : Prop := v = some (.int p0) ∧ Fr n0 L ∧ h = h0
theorem ef_r_checkFromToIndex_null (p0 p1 p2 : Int32) (m : MethodId) : entryFrame m #[(.int p0), (.int p1), (.int p2), .null] 4 = mkF m 0 #[.val (.int p0), .val (.int p1), .val (.int p2), .val .null] [] := by first | (simp [entryFrame, mkF, argsToLocals, Value.category]; done) | rfl
set_option maxRecDepth 65536 in
set_option maxHeartbeats 40000000 in
theorem r_checkFromToIndex_null (l : Launch) (Z : State) (a0 : Array Value) (hw : HW Z a0) (ws : List Jvm.Cond) (p0 p1 p2 : Int32) (h0 : Heap) (n0 : Nat) (Z0 : n0 ≤ h0.size) (hp0 : ¬ (p0 < (0 : Int32))) (hp1 : ¬ (p1 < p0)) (hp2 : ¬ (p2 < p1)) :
    MF l Z y2_checkFromToIndex b2_ 4 (some .int) ws ⟨0, 0, 0, 0⟩ #[(.int p0), (.int p1), (.int p2), .null] h0 (Q_r_checkFromToIndex_null Z p0 p1 p2 h0 n0) := by
  refine own_body (plainFor_of_name pn_Preconditions147) (ef_r_checkFromToIndex_null p0 p1 p2) (by decide) (by decide) ?_
  intro p e s m below meth c s₁ hx hby hml hown hnm hret hZ hh e0 X0
  have N0 := Fr.nil n0
  refine ⟨s₁, _, some (.int p0), X0, (fun h => by cases h <;> rfl), ?_, fun fs hr => ?_⟩
  · show Q_r_checkFromToIndex_null Z p0 p1 p2 h0 n0 _ s₁.heap _
    rw [e0]
    exact ⟨rfl, N0, rfl⟩
  · refine t_iloadN 1 X0.here hx (hb hby d13) rfl rfl ?_
    refine t_ifNo 4 X0.here hx (hb hby d14) ((if0 _ _).trans (flt hp0).1) rfl ?_
    refine t_iloadN 5 X0.here hx (hb hby d15) rfl rfl ?_
    refine t_iloadN 6 X0.here hx (hb hby d16) rfl rfl ?_
    refine t_icmpNo 9 X0.here hx (hb hby d17) (flt hp1).2.2.1 rfl ?_
    refine t_iloadN 10 X0.here hx (hb hby d18) rfl rfl ?_
    refine t_iloadN 11 X0.here hx (hb hby d19) rfl rfl ?_
    refine t_icmpYes (pc := 11) 22 X0.here hx (hb hby d20) (flt hp2).2.2.2 (by decide) (by decide) ?_
    refine t_iloadN 23 X0.here hx (hb hby d21) rfl rfl ?_
    exact retI X0 hx hret (hb hby d22) hr
def Q_r_checkFromToIndex_fo (Z : State) (p0 p1 p2 : Int32) (fo : Addr) (h0 : Heap) (n0 : Nat) (v : Option Value) (h : Heap) (L : List Loc) : Prop := v = some (.int p0) ∧ Fr n0 L ∧ h = h0
theorem ef_r_checkFromToIndex_fo (p0 p1 p2 : Int32) (fo : Addr) (m : MethodId) : entryFrame m #[(.int p0), (.int p1), (.int p2), (.ref fo)] 4 = mkF m 0 #[.val (.int p0), .val (.int p1), .val (.int p2), .val (.ref fo)] [] := by first | (simp [entryFrame, mkF, argsToLocals, Value.category]; done) | rfl
set_option maxRecDepth 65536 in
set_option maxHeartbeats 40000000 in
theorem r_checkFromToIndex_fo (l : Launch) (Z : State) (a0 : Array Value) (hw : HW Z a0) (ws : List Jvm.Cond) (p0 p1 p2 : Int32) (fo : Addr) (h0 : Heap) (n0 : Nat) (Z0 : n0 ≤ h0.size) (hp0 : ¬ (p0 < (0 : Int32))) (hp1 : ¬ (p1 < p0)) (hp2 : ¬ (p2 < p1)) :
    MF l Z y2_checkFromToIndex b2_ 4 (some .int) ws ⟨0, 0, 0, 0⟩ #[(.int p0), (.int p1), (.int p2), (.ref fo)] h0 (Q_r_checkFromToIndex_fo Z p0 p1 p2 fo h0 n0) := by
  refine own_body (plainFor_of_name pn_Preconditions147) (ef_r_checkFromToIndex_fo p0 p1 p2 fo) (by decide) (by decide) ?_
  intro p e s m below meth c s₁ hx hby hml hown hnm hret hZ hh e0 X0
  have N0 := Fr.nil n0
  refine ⟨s₁, _, some (.int p0), X0, (fun h => by cases h <;> rfl), ?_, fun fs hr => ?_⟩
  · show Q_r_checkFromToIndex_fo Z p0 p1 p2 fo h0 n0 _ s₁.heap _
    rw [e0]
    exact ⟨rfl, N0, rfl⟩
  · refine t_iloadN 1 X0.here hx (hb hby d13) rfl rfl ?_
    refine t_ifNo 4 X0.here hx (hb hby d14) ((if0 _ _).trans (flt hp0).1) rfl ?_
    refine t_iloadN 5 X0.here hx (hb hby d15) rfl rfl ?_
    refine t_iloadN 6 X0.here hx (hb hby d16) rfl rfl ?_
    refine t_icmpNo 9 X0.here hx (hb hby d17) (flt hp1).2.2.1 rfl ?_
    refine t_iloadN 10 X0.here hx (hb hby d18) rfl rfl ?_
    refine t_iloadN 11 X0.here hx (hb hby d19) rfl rfl ?_
    refine t_icmpYes (pc := 11) 22 X0.here hx (hb hby d20) (flt hp2).2.2.2 (by decide) (by decide) ?_
    refine t_iloadN 23 X0.here hx (hb hby d21) rfl rfl ?_
    exact retI X0 hx hret (hb hby d22) hr
abbrev b3_ := jdk_42_method_158_code
theorem d23 : decode b3_ 0 = .ok (.iload_n 0, 1) := by decide +kernel
theorem d24 : decode b3_ 1 = .ok (.iload_n 1, 1) := by decide +kernel
theorem d25 : decode b3_ 2 = .ok (.iload_n 2, 1) := by decide +kernel
theorem d26 : decode b3_ 3 = .ok (.getstatic 1053, 3) := by decide +kernel
theorem d27 : decode b3_ 6 = .ok (.invokestatic 1062, 3) := by decide +kernel
def w92 (hw : HW Z a0) := ow 92 hw rfl
def w94 (hw : HW Z a0) := ow 94 hw rfl
theorem pd_1 : parseMethodDescriptor "(IIILjava/util/function/BiFunction;)I" = some ⟨[.int, .int, .int, (.object "java/util/function/BiFunction")], some .int⟩ := by decide +kernel
def w93 (hw : HW Z a0) := ow 93 hw rfl
theorem d28 : decode b3_ 9 = .ok (.pop, 1) := by decide +kernel
theorem d29 : decode b3_ 10 = .ok (.return_, 1) := by decide +kernel
abbrev y3_checkBoundsBeginEnd : MethodName := ⟨"java/lang/String", "checkBoundsBeginEnd", "(III)V"⟩
def Q_r_checkBoundsBeginEnd (Z : State) (p0 p1 p2 : Int32) (h0 : Heap) (n0 : Nat) (v : Option Value) (h : Heap) (L : List Loc) : Prop := v = none ∧ Fr n0 L ∧ h = h0
theorem ef_r_ScheckBoundsBeginEnd_null (p0 p1 p2 : Int32) (m : MethodId) : entryFrame m #[(.int p0), (.int p1), (.int p2)] 3 = mkF m 0 #[.val (.int p0), .val (.int p1), .val (.int p2)] [] := by first | (simp [entryFrame, mkF, argsToLocals, Value.category]; done) | rfl
set_option maxRecDepth 65536 in
set_option maxHeartbeats 40000000 in
theorem r_ScheckBoundsBeginEnd_null (l : Launch) (Z : State) (a0 : Array Value) (hw : HW Z a0) (ws : List Jvm.Cond) (p0 p1 p2 : Int32) (h0 : Heap) (n0 : Nat) (Z0 : n0 ≤ h0.size) (S_SIOOBE_FORMATTER : Sta Z Z.heap "jdk/internal/util/Preconditions" "SIOOBE_FORMATTER" "Ljava/util/function/BiFunction;" .null) (O0 : Old Z n0 h0) (hp0 : ¬ (p0 < (0 : Int32))) (hp1 : ¬ (p1 < p0)) (hp2 : ¬ (p2 < p1)) :
    MF l Z y3_checkBoundsBeginEnd b3_ 3 none ws ⟨1, 0, 0, 15⟩ #[(.int p0), (.int p1), (.int p2)] h0 (Q_r_checkBoundsBeginEnd Z p0 p1 p2 h0 n0) := by
  refine own_body (plainFor_of_name pn_String564) (ef_r_ScheckBoundsBeginEnd_null p0 p1 p2) (by decide) (by decide) ?_
  intro p e s m below meth c s₁ hx hby hml hown hnm hret hZ hh e0 X0
  have N0 := Fr.nil n0
  obtain ⟨T1, X1, e1, st1⟩ := getS2 X0 hx hZ hown (host := "") (Or.inl (w90 hw)) Via.refl e0 (Sta.ext O0.2 S_SIOOBE_FORMATTER) (g := (mkF m 3 #[vi p0, vi p1, vi p2] [(.int p2), (.int p1), (.int p0)])) rfl (hb hby d26)
  obtain ⟨_, T2, L2, X2, hQ2, st2⟩ := own_static X1 hx hZ hown (w92 hw) (w93 hw) (w91 hw) (w94 hw) (by decide) (r_checkFromToIndex_null l Z a0 hw [] p0 p1 p2 h0 n0 Z0 hp0 hp1 hp2) e1 (W := 0) (by decide) (g := (mkF m 6 #[vi p0, vi p1, vi p2] [.null, (.int p2), (.int p1), (.int p0)])) rfl (by rw [hml]; rfl) (argsL := [(.int p0), (.int p1), (.int p2), .null]) (rest := []) (lenOf pd_1 rfl) rfl rfl (own_wr rfl rfl) (hb hby d27)
  obtain ⟨rfl, N2q, e2⟩ := hQ2
  have N2 := Fr.app N0 N2q
  refine ⟨T2, _, none, X2, (fun h => by cases h <;> rfl), ?_, fun fs hr => ?_⟩
  · show Q_r_checkBoundsBeginEnd Z p0 p1 p2 h0 n0 _ T2.heap _
    rw [e2]
    exact ⟨rfl, N2, rfl⟩
  · refine t_iloadN 1 X0.here hx (hb hby d23) rfl rfl ?_
    refine t_iloadN 2 X0.here hx (hb hby d24) rfl rfl ?_
    refine t_iloadN 3 X0.here hx (hb hby d25) rfl rfl ?_
    refine st1 _ ?_
    refine st2 _ ?_
    refine t_pop 10 X2.here hx (hb hby d28) rfl rfl ?_
    exact X2.returnOut hx hret (hb hby d29) hr
theorem ef_r_ScheckBoundsBeginEnd_fo (p0 p1 p2 : Int32) (m : MethodId) : entryFrame m #[(.int p0), (.int p1), (.int p2)] 3 = mkF m 0 #[.val (.int p0), .val (.int p1), .val (.int p2)] [] := by first | (simp [entryFrame, mkF, argsToLocals, Value.category]; done) | rfl
set_option maxRecDepth 65536 in
set_option maxHeartbeats 40000000 in
theorem r_ScheckBoundsBeginEnd_fo (l : Launch) (Z : State) (a0 : Array Value) (hw : HW Z a0) (ws : List Jvm.Cond) (p0 p1 p2 : Int32) (fo : Addr) (h0 : Heap) (n0 : Nat) (Z0 : n0 ≤ h0.size) (S_SIOOBE_FORMATTER : Sta Z Z.heap "jdk/internal/util/Preconditions" "SIOOBE_FORMATTER" "Ljava/util/function/BiFunction;" (.ref fo)) (O0 : Old Z n0 h0) (hp0 : ¬ (p0 < (0 : Int32))) (hp1 : ¬ (p1 < p0)) (hp2 : ¬ (p2 < p1)) :
    MF l Z y3_checkBoundsBeginEnd b3_ 3 none ws ⟨1, 0, 0, 15⟩ #[(.int p0), (.int p1), (.int p2)] h0 (Q_r_checkBoundsBeginEnd Z p0 p1 p2 h0 n0) := by
  refine own_body (plainFor_of_name pn_String564) (ef_r_ScheckBoundsBeginEnd_fo p0 p1 p2) (by decide) (by decide) ?_
  intro p e s m below meth c s₁ hx hby hml hown hnm hret hZ hh e0 X0
  have N0 := Fr.nil n0
  obtain ⟨T1, X1, e1, st1⟩ := getS2 X0 hx hZ hown (host := "") (Or.inl (w90 hw)) Via.refl e0 (Sta.ext O0.2 S_SIOOBE_FORMATTER) (g := (mkF m 3 #[vi p0, vi p1, vi p2] [(.int p2), (.int p1), (.int p0)])) rfl (hb hby d26)
  obtain ⟨_, T2, L2, X2, hQ2, st2⟩ := own_static X1 hx hZ hown (w92 hw) (w93 hw) (w91 hw) (w94 hw) (by decide) (r_checkFromToIndex_fo l Z a0 hw [] p0 p1 p2 fo h0 n0 Z0 hp0 hp1 hp2) e1 (W := 0) (by decide) (g := (mkF m 6 #[vi p0, vi p1, vi p2] [(.ref fo), (.int p2), (.int p1), (.int p0)])) rfl (by rw [hml]; rfl) (argsL := [(.int p0), (.int p1), (.int p2), (.ref fo)]) (rest := []) (lenOf pd_1 rfl) rfl rfl (own_wr rfl rfl) (hb hby d27)
  obtain ⟨rfl, N2q, e2⟩ := hQ2
  have N2 := Fr.app N0 N2q
  refine ⟨T2, _, none, X2, (fun h => by cases h <;> rfl), ?_, fun fs hr => ?_⟩
  · show Q_r_checkBoundsBeginEnd Z p0 p1 p2 h0 n0 _ T2.heap _
    rw [e2]
    exact ⟨rfl, N2, rfl⟩
  · refine t_iloadN 1 X0.here hx (hb hby d23) rfl rfl ?_
    refine t_iloadN 2 X0.here hx (hb hby d24) rfl rfl ?_
    refine t_iloadN 3 X0.here hx (hb hby d25) rfl rfl ?_
    refine st1 _ ?_
    refine st2 _ ?_
    refine t_pop 10 X2.here hx (hb hby d28) rfl rfl ?_
    exact X2.returnOut hx hret (hb hby d29) hr
theorem r_checkBoundsBeginEnd (l : Launch) (Z : State) (a0 : Array Value) (hw : HW Z a0) (ws : List Jvm.Cond) (p0 p1 p2 : Int32) (fm : Value) (h0 : Heap) (n0 : Nat) (Z0 : n0 ≤ h0.size) (hfm : fm.isRef = true) (S_SIOOBE_FORMATTER : Sta Z Z.heap "jdk/internal/util/Preconditions" "SIOOBE_FORMATTER" "Ljava/util/function/BiFunction;" fm) (O0 : Old Z n0 h0) (hp0 : ¬ (p0 < (0 : Int32))) (hp1 : ¬ (p1 < p0)) (hp2 : ¬ (p2 < p1)) :
    MF l Z y3_checkBoundsBeginEnd b3_ 3 none ws ⟨1, 0, 0, 15⟩ #[(.int p0), (.int p1), (.int p2)] h0 (Q_r_checkBoundsBeginEnd Z p0 p1 p2 h0 n0) := by
  rcases ref_cases hfm with rfl | ⟨fx, rfl⟩
  · exact r_ScheckBoundsBeginEnd_null l Z a0 hw ws p0 p1 p2 h0 n0 Z0 S_SIOOBE_FORMATTER O0 hp0 hp1 hp2
  · exact r_ScheckBoundsBeginEnd_fo l Z a0 hw ws p0 p1 p2 fx h0 n0 Z0 S_SIOOBE_FORMATTER O0 hp0 hp1 hp2
abbrev b4_ := method_2_code
theorem d30 : decode b4_ 0 = .ok (.iload_n 0, 1) := by decide +kernel
theorem d31 : decode b4_ 1 = .ok (.sipush 511, 3) := by decide +kernel
theorem d32 : decode b4_ 4 = .ok (.iand, 1) := by decide +kernel
theorem d33 : decode b4_ 5 = .ok (.istore_n 1, 1) := by decide +kernel
theorem d34 : decode b4_ 6 = .ok (.iload_n 1, 1) := by decide +kernel
theorem d35 : decode b4_ 7 = .ok (.sipush 256, 3) := by decide +kernel
theorem d36 : decode b4_ 10 = .ok (.if_icmp .lt 8, 3) := by decide +kernel
theorem d37 : decode b4_ 18 = .ok (.iload_n 1, 1) := by decide +kernel
theorem d38 : decode b4_ 19 = .ok (.i2c, 1) := by decide +kernel
theorem d39 : decode b4_ 20 = .ok (.ireturn, 1) := by decide +kernel
theorem pn_IdentifierParsePinLaw141 : plainName "com/example/keen_roster/keenroster/core/IdentifierParsePinLaw" = true := by first | (simp [plainName, overriddenIn]; done) | decide +kernel
abbrev y4_pick : MethodName := ⟨"com/example/keen_roster/keenroster/core/IdentifierParsePinLaw", "pick", "(I)C"⟩
def Q_r_pick (Z : State) (p0 : Int32) (h0 : Heap) (n0 : Nat) (v : Option Value) (h : Heap) (L : List Loc) : Prop := v = some (.int (own_pick p0)) ∧ Fr n0 L ∧ h = h0
theorem ef_r_pick1 (p0 : Int32) (m : MethodId) : entryFrame m #[(.int p0)] 2 = mkF m 0 #[.val (.int p0), .unset] [] := by first | (simp [entryFrame, mkF, argsToLocals, Value.category]; done) | rfl
set_option maxRecDepth 65536 in
set_option maxHeartbeats 40000000 in
theorem r_pick1 (l : Launch) (Z : State) (a0 : Array Value) (hw : HW Z a0) (ws : List Jvm.Cond) (p0 : Int32) (h0 : Heap) (n0 : Nat) (Z0 : n0 ≤ h0.size) (hp0 : (p0 &&& (511 : Int32)) < (256 : Int32)) :
    MF l Z y4_pick b4_ 2 (some .char) ws ⟨0, 0, 0, 0⟩ #[(.int p0)] h0 (Q_r_pick Z p0 h0 n0) := by
  refine own_body (plainFor_of_name pn_IdentifierParsePinLaw141) (ef_r_pick1 p0) (by decide) (by decide) ?_
  intro p e s m below meth c s₁ hx hby hml hown hnm hret hZ hh e0 X0
  have N0 := Fr.nil n0
  refine ⟨s₁, _, some (.int (p0 &&& (511 : Int32))), X0, (fun h => by cases h <;> rfl), ?_, fun fs hr => ?_⟩
  · show Q_r_pick Z p0 h0 n0 _ s₁.heap _
    rw [e0]
    exact ⟨(own_pick1 hp0), N0, rfl⟩
  · rw [← (show (nar .char (p0 &&& (511 : Int32))) = (p0 &&& (511 : Int32)) from (own_c2c (own_511 p0) (own_le255 hp0)))] at hr
    refine t_iloadN 1 X0.here hx (hb hby d30) rfl rfl ?_
    refine t_sipush 4 (r := 511) X0.here hx (hb hby d31) (by decide) rfl ?_
    refine t_iand 5 X0.here hx (hb hby d32) rfl rfl ?_
    refine t_istoreN (pc' := 6) (L' := #[vi p0, vi ((p0 &&& (511 : Int32)))]) X0.here hx (hb hby d33) rfl rfl ?_
    refine t_iloadN 7 X0.here hx (hb hby d34) rfl rfl ?_
    refine t_sipush 10 (r := 256) X0.here hx (hb hby d35) (by decide) rfl ?_
    refine t_icmpYes (pc := 10) 18 X0.here hx (hb hby d36) (tlt hp0).1 (by decide) (by decide) ?_
    refine t_iloadN 19 X0.here hx (hb hby d37) rfl rfl ?_
    refine t_i2c 20 (r := (p0 &&& (511 : Int32))) X0.here hx (hb hby d38) (own_c2c (own_511 p0) (own_le255 hp0)) rfl ?_
    exact retN X0 hx (t := .char) hret (by simp) (hb hby d39) hr
theorem d40 : decode b4_ 13 = .ok (.bipush 58, 2) := by decide +kernel
theorem d41 : decode b4_ 15 = .ok (.goto 5, 3) := by decide +kernel
theorem ef_r_pick2 (p0 : Int32) (m : MethodId) : entryFrame m #[(.int p0)] 2 = mkF m 0 #[.val (.int p0), .unset] [] := by first | (simp [entryFrame, mkF, argsToLocals, Value.category]; done) | rfl
set_option maxRecDepth 65536 in
set_option maxHeartbeats 40000000 in
theorem r_pick2 (l : Launch) (Z : State) (a0 : Array Value) (hw : HW Z a0) (ws : List Jvm.Cond) (p0 : Int32) (h0 : Heap) (n0 : Nat) (Z0 : n0 ≤ h0.size) (hp0 : ¬ ((p0 &&& (511 : Int32)) < (256 : Int32))) :
    MF l Z y4_pick b4_ 2 (some .char) ws ⟨0, 0, 0, 0⟩ #[(.int p0)] h0 (Q_r_pick Z p0 h0 n0) := by
  refine own_body (plainFor_of_name pn_IdentifierParsePinLaw141) (ef_r_pick2 p0) (by decide) (by decide) ?_
  intro p e s m below meth c s₁ hx hby hml hown hnm hret hZ hh e0 X0
  have N0 := Fr.nil n0
  refine ⟨s₁, _, some (.int 58), X0, (fun h => by cases h <;> rfl), ?_, fun fs hr => ?_⟩
  · show Q_r_pick Z p0 h0 n0 _ s₁.heap _
    rw [e0]
    exact ⟨(own_pick2 hp0), N0, rfl⟩
  · refine t_iloadN 1 X0.here hx (hb hby d30) rfl rfl ?_
    refine t_sipush 4 (r := 511) X0.here hx (hb hby d31) (by decide) rfl ?_
    refine t_iand 5 X0.here hx (hb hby d32) rfl rfl ?_
    refine t_istoreN (pc' := 6) (L' := #[vi p0, vi ((p0 &&& (511 : Int32)))]) X0.here hx (hb hby d33) rfl rfl ?_
    refine t_iloadN 7 X0.here hx (hb hby d34) rfl rfl ?_
    refine t_sipush 10 (r := 256) X0.here hx (hb hby d35) (by decide) rfl ?_
    refine t_icmpNo 13 X0.here hx (hb hby d36) (flt hp0).1 rfl ?_
    refine t_bipush 15 (r := 58) X0.here hx (hb hby d40) (by decide) rfl ?_
    refine t_goto (pc := 15) 20 X0.here hx (hb hby d41) (by decide) (by decide) ?_
    exact retN X0 hx (t := .char) hret (by simp) (hb hby d39) hr
theorem r_pick (l : Launch) (Z : State) (a0 : Array Value) (hw : HW Z a0) (ws : List Jvm.Cond) (p0 : Int32) (h0 : Heap) (n0 : Nat) (Z0 : n0 ≤ h0.size) :
    MF l Z y4_pick b4_ 2 (some .char) ws ⟨0, 0, 0, 0⟩ #[(.int p0)] h0 (Q_r_pick Z p0 h0 n0) := by
  by_cases hc : (p0 &&& (511 : Int32)) < (256 : Int32)
  · exact r_pick1 l Z a0 hw ws p0 h0 n0 Z0 hc
  · exact r_pick2 l Z a0 hw ws p0 h0 n0 Z0 hc
def w0 (hw : HW Z a0) := ow 0 hw rfl
def w1 (hw : HW Z a0) := ow 1 hw rfl
def w4 (hw : HW Z a0) := ow 4 hw rfl
def w3 (hw : HW Z a0) := ow 3 hw rfl
theorem pd_2 : parseMethodDescriptor "(I)C" = some ⟨[.int], some .char⟩ := by decide +kernel
def w2 (hw : HW Z a0) := ow 2 hw rfl
def Q_law (n0 : Nat) (v : Option Value) (L : List Loc) : Prop := v = some (.int 1) ∧ Fr n0 L
theorem ef_law_0 (p0 p1 p2 p3 p4 : Int32) (m : MethodId) : entryFrame m #[(.int p0), (.int p1), (.int p2), (.int p3), (.int p4)] maxLocals = mkF m 0 #[.val (.int p0), .val (.int p1), .val (.int p2), .val (.int p3), .val (.int p4), .unset, .unset, .unset] [] := by first | (simp [entryFrame, mkF, argsToLocals, Value.category, maxLocals]; done) | rfl
set_option maxRecDepth 65536 in
set_option maxHeartbeats 40000000 in
theorem law_0 (l : Launch) (Z : State) (a0 : Array Value) (hw : HW Z a0) (ws : List Jvm.Cond) (p0 p1 p2 p3 p4 cs : Int32) (fm : Value) (h0 : Heap) (n0 : Nat) (Z0 : n0 ≤ h0.size) (he0 : (p0 &&& (255 : Int32)) = (58 : Int32)) :
    MetFree l x (head1 (Jvm.Cond.code x code maxLocals ret :: ws) room_1) (fun a U => a = #[(.int p0), (.int p1), (.int p2), (.int p3), (.int p4)] ∧ Z.Warmed39 U.vm ∧ U.heap = h0) (fun _ _ _ _ _ => True) (fun _ U o U' => ∃ v L, o = .returned v ∧ Q_law n0 v L ∧ ReturnedEndW U o U' L 32 2176) := by
  refine own_bodyS (k := 1) (n := 5) (y := x) (Q := fun v _ L => Q_law n0 v L) (plainFor_of_name pn_IdentifierParsePinLaw141) (ef_law_0 p0 p1 p2 p3 p4) (by decide) (by decide) ?_
  intro p e s m below meth c s₁ hx hby hml hown hnm hret hZ e0 hS0 hk0 X0
  have N0 := Fr.nil n0
  obtain ⟨T1, h1, k1, X1, e1, E1, A1, st1⟩ := newP (aty := .char) X0 hx hZ (w0 hw) e0 (g := (mkF m 1 #[vi p0, vi p1, vi p2, vi p3, vi p4, .unset, .unset, .unset] [(.int 5)])) rfl (hb hby at_1) rfl (by decide) (cap := 5) (by decide) (by decide) (by decide) (by decide)
  obtain ⟨b1, g1⟩ : ∃ z, z = h0.size := ⟨_, rfl⟩
  rw [← g1] at A1 st1
  have ge_b1 : h0.size ≤ b1 := Nat.le_of_eq g1.symm
  have K1 := KL.ofE E1
  have V1 : Arv Z h1 b1 k1 .char 5 [z0, z0, z0, z0, z0] z0 := (Arv.new A1 (by decide)).pad (pad_rep [] z0 5)
  obtain ⟨T2, h2, X2, e2, W2, V2, st2⟩ := own_astC X1 hx hZ e1 V1 (j := 0) (by decide) 0 rfl (Nat.le_of_ble_eq_true rfl) (g := (mkF m 14 #[vi p0, vi p1, vi p2, vi p3, vi p4, vr b1, .unset, .unset] [(.int (p0 &&& (255 : Int32))), z0, (.ref b1)])) rfl rfl (hb hby at_14)
  rw [show (nar .char (p0 &&& (255 : Int32))) = (p0 &&& (255 : Int32)) from (i2c_mask _)] at V2
  have K2 := KL.ofW W2
  replace V2 : Arv Z h2 b1 k1 .char 5 [(.int (p0 &&& (255 : Int32))), z0, z0, z0, z0] z0 := V2
  have N2 := Fr.snoc X2 N0 (Nat.le_trans Z0 (Nat.le_trans (Nat.le_refl _) ge_b1))
  have sz_0_2 := (Nat.le_trans K1.1 K2.1)
  obtain ⟨_, T3, L3, X3, hQ3, st3⟩ := own_static X2 hx hZ hown (w1 hw) (w2 hw) (w3 hw) (w4 hw) (by decide) (r_pick l Z a0 hw [] p1 h2 n0 (Nat.le_trans Z0 sz_0_2)) e2 (W := 2) (by decide) (g := (mkF m 19 #[vi p0, vi p1, vi p2, vi p3, vi p4, vr b1, .unset, .unset] [(.int p1), (.int 1), (.ref b1)])) rfl (by rw [hml]; rfl) (argsL := [(.int p1)]) (rest := [(.int 1), (.ref b1)]) (lenOf pd_2 rfl) rfl rfl (own_wr rfl rfl) (hb hby at_19)
  obtain ⟨rfl, N3q, e3⟩ := hQ3
  have N3 := Fr.app N2 N3q
  obtain ⟨T4, h4, X4, e4, W4, V4, st4⟩ := own_astC X3 hx hZ e3 V2 (j := 1) (by decide) 1 rfl (Nat.le_of_ble_eq_true rfl) (g := (mkF m 22 #[vi p0, vi p1, vi p2, vi p3, vi p4, vr b1, .unset, .unset] [(.int (own_pick p1)), (.int 1), (.ref b1)])) rfl rfl (hb hby at_22)
  rw [show (nar .char (own_pick p1)) = (own_pick p1) from (own_c2c (own_picka p1) (own_pickb p1))] at V4
  have K4 := KL.ofW W4
  replace V4 : Arv Z h4 b1 k1 .char 5 [(.int (p0 &&& (255 : Int32))), (.int (own_pick p1)), z0, z0, z0] z0 := V4
  have N4 := Fr.snoc X4 N3 (Nat.le_trans Z0 (Nat.le_trans (Nat.le_refl _) ge_b1))
  have sz_0_3 := (Nat.le_trans sz_0_2 K4.1)
  obtain ⟨_, T5, L5, X5, hQ5, st5⟩ := own_static X4 hx hZ hown (w1 hw) (w2 hw) (w3 hw) (w4 hw) (by decide) (r_pick l Z a0 hw [] p2 h4 n0 (Nat.le_trans Z0 sz_0_3)) e4 (W := 2) (by decide) (g := (mkF m 27 #[vi p0, vi p1, vi p2, vi p3, vi p4, vr b1, .unset, .unset] [(.int p2), (.int 2), (.ref b1)])) rfl (by rw [hml]; rfl) (argsL := [(.int p2)]) (rest := [(.int 2), (.ref b1)]) (lenOf pd_2 rfl) rfl rfl (own_wr rfl rfl) (hb hby at_27)
  obtain ⟨rfl, N5q, e5⟩ := hQ5
  have N5 := Fr.app N4 N5q
  obtain ⟨T6, h6, X6, e6, W6, V6, st6⟩ := own_astC X5 hx hZ e5 V4 (j := 2) (by decide) 2 rfl (Nat.le_of_ble_eq_true rfl) (g := (mkF m 30 #[vi p0, vi p1, vi p2, vi p3, vi p4, vr b1, .unset, .unset] [(.int (own_pick p2)), (.int 2), (.ref b1)])) rfl rfl (hb hby at_30)
  rw [show (nar .char (own_pick p2)) = (own_pick p2) from (own_c2c (own_picka p2) (own_pickb p2))] at V6
  have K6 := KL.ofW W6
  replace V6 : Arv Z h6 b1 k1 .char 5 [(.int (p0 &&& (255 : Int32))), (.int (own_pick p1)), (.int (own_pick p2)), z0, z0] z0 := V6
  have N6 := Fr.snoc X6 N5 (Nat.le_trans Z0 (Nat.le_trans (Nat.le_refl _) ge_b1))
  have sz_0_4 := (Nat.le_trans sz_0_3 K6.1)
  obtain ⟨_, T7, L7, X7, hQ7, st7⟩ := own_static X6 hx hZ hown (w1 hw) (w2 hw) (w3 hw) (w4 hw) (by decide) (r_pick l Z a0 hw [] p3 h6 n0 (Nat.le_trans Z0 sz_0_4)) e6 (W := 2) (by decide) (g := (mkF m 35 #[vi p0, vi p1, vi p2, vi p3, vi p4, vr b1, .unset, .unset] [(.int p3), (.int 3), (.ref b1)])) rfl (by rw [hml]; rfl) (argsL := [(.int p3)]) (rest := [(.int 3), (.ref b1)]) (lenOf pd_2 rfl) rfl rfl (own_wr rfl rfl) (hb hby at_35)
  obtain ⟨rfl, N7q, e7⟩ := hQ7
  have N7 := Fr.app N6 N7q
  obtain ⟨T8, h8, X8, e8, W8, V8, st8⟩ := own_astC X7 hx hZ e7 V6 (j := 3) (by decide) 3 rfl (Nat.le_of_ble_eq_true rfl) (g := (mkF m 38 #[vi p0, vi p1, vi p2, vi p3, vi p4, vr b1, .unset, .unset] [(.int (own_pick p3)), (.int 3), (.ref b1)])) rfl rfl (hb hby at_38)
  rw [show (nar .char (own_pick p3)) = (own_pick p3) from (own_c2c (own_picka p3) (own_pickb p3))] at V8
  have K8 := KL.ofW W8
  replace V8 : Arv Z h8 b1 k1 .char 5 [(.int (p0 &&& (255 : Int32))), (.int (own_pick p1)), (.int (own_pick p2)), (.int (own_pick p3)), z0] z0 := V8
  have N8 := Fr.snoc X8 N7 (Nat.le_trans Z0 (Nat.le_trans (Nat.le_refl _) ge_b1))
  have sz_0_5 := (Nat.le_trans sz_0_4 K8.1)
  obtain ⟨_, T9, L9, X9, hQ9, st9⟩ := own_static X8 hx hZ hown (w1 hw) (w2 hw) (w3 hw) (w4 hw) (by decide) (r_pick l Z a0 hw [] p4 h8 n0 (Nat.le_trans Z0 sz_0_5)) e8 (W := 2) (by decide) (g := (mkF m 44 #[vi p0, vi p1, vi p2, vi p3, vi p4, vr b1, .unset, .unset] [(.int p4), (.int 4), (.ref b1)])) rfl (by rw [hml]; rfl) (argsL := [(.int p4)]) (rest := [(.int 4), (.ref b1)]) (lenOf pd_2 rfl) rfl rfl (own_wr rfl rfl) (hb hby at_44)
  obtain ⟨rfl, N9q, e9⟩ := hQ9
  have N9 := Fr.app N8 N9q
  obtain ⟨T10, h10, X10, e10, W10, V10, st10⟩ := own_astC X9 hx hZ e9 V8 (j := 4) (by decide) 4 rfl (Nat.le_of_ble_eq_true rfl) (g := (mkF m 47 #[vi p0, vi p1, vi p2, vi p3, vi p4, vr b1, .unset, .unset] [(.int (own_pick p4)), (.int 4), (.ref b1)])) rfl rfl (hb hby at_47)
  rw [show (nar .char (own_pick p4)) = (own_pick p4) from (own_c2c (own_picka p4) (own_pickb p4))] at V10
  have K10 := KL.ofW W10
  replace V10 : Arv Z h10 b1 k1 .char 5 [(.int (p0 &&& (255 : Int32))), (.int (own_pick p1)), (.int (own_pick p2)), (.int (own_pick p3)), (.int (own_pick p4))] z0 := V10
  have N10 := Fr.snoc X10 N9 (Nat.le_trans Z0 (Nat.le_trans (Nat.le_refl _) ge_b1))
  have sz_0_6 := (Nat.le_trans sz_0_5 K10.1)
  refine ⟨T10, _, some (.int 1), _, _, X10, hS0, (by rw [e10]; exact (Nat.le_trans hk0 sz_0_6)), (fun h => by cases h <;> rfl), ?_, fun fs hr => ?_⟩
  · show Q_law n0 _ _
    exact ⟨rfl, N10⟩
  · refine t_iconst 1 (r := 5) X0.here hx (hb hby at_0) (by decide) rfl ?_
    refine st1 _ ?_
    refine t_astore (pc' := 5) (L' := #[vi p0, vi p1, vi p2, vi p3, vi p4, vr b1, .unset, .unset]) X1.here hx (hb hby at_3) rfl rfl rfl ?_
    refine t_aload 7 X1.here hx (hb hby at_5) rfl rfl rfl ?_
    refine t_iconst 8 (r := 0) X1.here hx (hb hby at_7) (by decide) rfl ?_
    refine t_iloadN 9 X1.here hx (hb hby at_8) rfl rfl ?_
    refine t_sipush 12 (r := 255) X1.here hx (hb hby at_9) (by decide) rfl ?_
    refine t_iand 13 X1.here hx (hb hby at_12) rfl rfl ?_
    refine t_i2c 14 (r := (p0 &&& (255 : Int32))) X1.here hx (hb hby at_13) (i2c_mask _) rfl ?_
    refine st2 _ ?_
    refine t_aload 17 X2.here hx (hb hby at_15) rfl rfl rfl ?_
    refine t_iconst 18 (r := 1) X2.here hx (hb hby at_17) (by decide) rfl ?_
    refine t_iloadN 19 X2.here hx (hb hby at_18) rfl rfl ?_
    refine st3 _ ?_
    refine st4 _ ?_
    refine t_aload 25 X4.here hx (hb hby at_23) rfl rfl rfl ?_
    refine t_iconst 26 (r := 2) X4.here hx (hb hby at_25) (by decide) rfl ?_
    refine t_iloadN 27 X4.here hx (hb hby at_26) rfl rfl ?_
    refine st5 _ ?_
    refine st6 _ ?_
    refine t_aload 33 X6.here hx (hb hby at_31) rfl rfl rfl ?_
    refine t_iconst 34 (r := 3) X6.here hx (hb hby at_33) (by decide) rfl ?_
    refine t_iloadN 35 X6.here hx (hb hby at_34) rfl rfl ?_
    refine st7 _ ?_
    refine st8 _ ?_
    refine t_aload 41 X8.here hx (hb hby at_39) rfl rfl rfl ?_
    refine t_iconst 42 (r := 4) X8.here hx (hb hby at_41) (by decide) rfl ?_
    refine t_iload 44 X8.here hx (hb hby at_42) rfl rfl ?_
    refine st9 _ ?_
    refine st10 _ ?_
    refine t_iconst 49 (r := (-1 : Int32)) X10.here hx (hb hby at_48) (by decide) rfl ?_
    refine t_istore (pc' := 51) (L' := #[vi p0, vi p1, vi p2, vi p3, vi p4, vr b1, vi ((-1)), .unset]) X10.here hx (hb hby at_49) rfl rfl ?_
    refine t_aload 53 X10.here hx (hb hby at_51) rfl rfl rfl ?_
    refine t_iconst 54 (r := 0) X10.here hx (hb hby at_53) (by decide) rfl ?_
    refine own_aldC (pc' := 55) X10 hx hZ e10 V10 (j := 0) (v := (.int (p0 &&& (255 : Int32)))) (by decide) rfl (hb hby at_54) rfl ?_
    refine t_bipush 57 (r := 58) X10.here hx (hb hby at_55) (by decide) rfl ?_
    refine t_icmpNo 60 X10.here hx (hb hby at_57) (teq he0).2 rfl ?_
    refine t_iconst 61 (r := 0) X10.here hx (hb hby at_60) (by decide) rfl ?_
    refine t_istore (pc' := 63) (L' := #[vi p0, vi p1, vi p2, vi p3, vi p4, vr b1, vi 0, .unset]) X10.here hx (hb hby at_61) rfl rfl ?_
    refine t_goto (pc := 63) 123 X10.here hx (hb hby at_63) (by decide) (by decide) ?_
    refine t_iload 125 X10.here hx (hb hby at_123) rfl rfl ?_
    refine t_ifYes (pc := 125) 134 X10.here hx (hb hby at_125) (by decide) (by decide) (by decide) ?_
    refine t_iconst 135 (r := 1) X10.here hx (hb hby at_134) (by decide) rfl ?_
    exact retN X10 hx (t := .boolean) hret (by simp) (hb hby at_135) hr
def w5 (hw : HW Z a0) := ow 5 hw rfl
def w6 (hw : HW Z a0) := ow 6 hw rfl
def w7 (hw : HW Z a0) := ow 7 hw rfl
def w31 (hw : HW Z a0) := ow 31 hw rfl
abbrev Fd0 (Z : State) (h : Heap) (a : Addr) (v : Value) : Prop := Fld Z h a "java/lang/String" "coder" "B" v
abbrev sl0 (Z : State) : Nat := Jvm.RoadKit.slotOf Z "java/lang/String" "coder" "B"
def w33 (hw : HW Z a0) := ow 33 hw rfl
abbrev Fd1 (Z : State) (h : Heap) (a : Addr) (v : Value) : Prop := Fld Z h a "java/lang/String" "value" "[B" v
abbrev sl1 (Z : State) : Nat := Jvm.RoadKit.slotOf Z "java/lang/String" "value" "[B"
def w8 (hw : HW Z a0) := ow 8 hw rfl
abbrev b5_ := jdk_42_method_3_code
theorem d42 : decode b5_ 0 = .ok (.aload_n 0, 1) := by decide +kernel
theorem d43 : decode b5_ 1 = .ok (.aload_n 1, 1) := by decide +kernel
theorem d44 : decode b5_ 2 = .ok (.iconst 0, 1) := by decide +kernel
theorem d45 : decode b5_ 3 = .ok (.aload_n 1, 1) := by decide +kernel
theorem d46 : decode b5_ 4 = .ok (.arraylength, 1) := by decide +kernel
theorem d47 : decode b5_ 5 = .ok (.aconst_null, 1) := by decide +kernel
theorem d48 : decode b5_ 6 = .ok (.invokespecial 27, 3) := by decide +kernel
def w11 (hw : HW Z a0) := ow 11 hw rfl
abbrev b6_ := jdk_42_method_149_code
theorem d49 : decode b6_ 0 = .ok (.aload_n 0, 1) := by decide +kernel
theorem d50 : decode b6_ 1 = .ok (.invokespecial 1, 3) := by decide +kernel
def w15 (hw : HW Z a0) := ow 15 hw rfl
def w16 (hw : HW Z a0) := ow 16 hw rfl
def w17 (hw : HW Z a0) := ow 17 hw rfl
theorem d51 : decode b6_ 4 = .ok (.iload_n 3, 1) := by decide +kernel
theorem d52 : decode b6_ 5 = .ok (.ifCond .ne 22, 3) := by decide +kernel
theorem d53 : decode b6_ 27 = .ok (.getstatic 38, 3) := by decide +kernel
def w18 (hw : HW Z a0) := ow 18 hw rfl
theorem d54 : decode b6_ 30 = .ok (.ifCond .eq 28, 3) := by decide +kernel
theorem d55 : decode b6_ 33 = .ok (.aload_n 1, 1) := by decide +kernel
theorem d56 : decode b6_ 34 = .ok (.iload_n 2, 1) := by decide +kernel
theorem d57 : decode b6_ 35 = .ok (.iload_n 3, 1) := by decide +kernel
theorem d58 : decode b6_ 36 = .ok (.invokestatic 177, 3) := by decide +kernel
def w19 (hw : HW Z a0) := ow 19 hw rfl
abbrev b7_ := jdk_52_method_16_code
theorem d59 : decode b7_ 0 = .ok (.iload_n 2, 1) := by decide +kernel
theorem d60 : decode b7_ 1 = .ok (.newarray .byte, 2) := by decide +kernel
def w23 (hw : HW Z a0) := ow 23 hw rfl
theorem d61 : decode b7_ 3 = .ok (.astore_n 3, 1) := by decide +kernel
theorem d62 : decode b7_ 4 = .ok (.aload_n 0, 1) := by decide +kernel
theorem d63 : decode b7_ 5 = .ok (.iload_n 1, 1) := by decide +kernel
theorem d64 : decode b7_ 6 = .ok (.aload_n 3, 1) := by decide +kernel
theorem d65 : decode b7_ 7 = .ok (.iconst 0, 1) := by decide +kernel
theorem d66 : decode b7_ 8 = .ok (.iload_n 2, 1) := by decide +kernel
theorem d67 : decode b7_ 9 = .ok (.invokestatic 115, 3) := by decide +kernel
def w24 (hw : HW Z a0) := ow 24 hw rfl
abbrev b8_ := jdk_52_method_21_code
theorem d68 : decode b8_ 0 = .ok (.iconst 0, 1) := by decide +kernel
theorem d69 : decode b8_ 1 = .ok (.istore 5, 2) := by decide +kernel
theorem d70 : decode b8_ 3 = .ok (.iload 5, 2) := by decide +kernel
theorem d71 : decode b8_ 5 = .ok (.iload 4, 2) := by decide +kernel
theorem d72 : decode b8_ 7 = .ok (.if_icmp .ge 37, 3) := by decide +kernel
theorem d73 : decode b8_ 10 = .ok (.aload_n 0, 1) := by decide +kernel
theorem d74 : decode b8_ 11 = .ok (.iload_n 1, 1) := by decide +kernel
theorem d75 : decode b8_ 12 = .ok (.caload, 1) := by decide +kernel
theorem d76 : decode b8_ 13 = .ok (.istore 6, 2) := by decide +kernel
theorem d77 : decode b8_ 15 = .ok (.iload 6, 2) := by decide +kernel
theorem d78 : decode b8_ 17 = .ok (.sipush 255, 3) := by decide +kernel
theorem d79 : decode b8_ 20 = .ok (.if_icmp .le 6, 3) := by decide +kernel
theorem d80 : decode b8_ 26 = .ok (.aload_n 2, 1) := by decide +kernel
theorem d81 : decode b8_ 27 = .ok (.iload_n 3, 1) := by decide +kernel
theorem d82 : decode b8_ 28 = .ok (.iload 6, 2) := by decide +kernel
theorem d83 : decode b8_ 30 = .ok (.i2b, 1) := by decide +kernel
theorem d84 : decode b8_ 31 = .ok (.bastore, 1) := by decide +kernel
theorem d85 : decode b8_ 32 = .ok (.iinc 1 1, 3) := by decide +kernel
theorem d86 : decode b8_ 35 = .ok (.iinc 3 1, 3) := by decide +kernel
theorem d87 : decode b8_ 38 = .ok (.iinc 5 1, 3) := by decide +kernel
theorem d88 : decode b8_ 41 = .ok (.goto (-38), 3) := by decide +kernel
theorem d89 : decode b8_ 44 = .ok (.iload 4, 2) := by decide +kernel
theorem d90 : decode b8_ 46 = .ok (.ireturn, 1) := by decide +kernel
theorem pn_StringUTF16906 : plainName "java/lang/StringUTF16" = true := by first | (simp [plainName, overriddenIn]; done) | decide +kernel
abbrev y5_compress : MethodName := ⟨"java/lang/StringUTF16", "compress", "([CI[BII)I"⟩
def WS_r4_compress (Z : State) (o2 : Addr) : List (Addr × Nat) := [(o2, (0 : Int32).toNatClampNeg), (o2, (1 : Int32).toNatClampNeg), (o2, (2 : Int32).toNatClampNeg), (o2, (3 : Int32).toNatClampNeg), (o2, (4 : Int32).toNatClampNeg)]
def Q_r4_compress (Z : State) (o0 o2 : Addr) (i_1 i_2 i_3 i_4 i_5 : Int32) (k_o0 k_o2 : ClassId) (h0 : Heap) (n0 : Nat) (v : Option Value) (h : Heap) (L : List Loc) : Prop := v = some (.int 5) ∧ Fr n0 L ∧ KL h0 h (WS_r4_compress Z o2) ∧ Arv Z h o2 k_o2 .byte 5 [(.int (i_1.toInt8.toInt32)), (.int (i_2.toInt8.toInt32)), (.int (i_3.toInt8.toInt32)), (.int (i_4.toInt8.toInt32)), (.int (i_5.toInt8.toInt32))] z0
theorem ef_r4_compress (o0 o2 : Addr) (m : MethodId) : entryFrame m #[(.ref o0), (.int 0), (.ref o2), (.int 0), (.int 5)] 7 = mkF m 0 #[.val (.ref o0), .val (.int 0), .val (.ref o2), .val (.int 0), .val (.int 5), .unset, .unset] [] := by first | (simp [entryFrame, mkF, argsToLocals, Value.category]; done) | rfl
set_option maxRecDepth 65536 in
set_option maxHeartbeats 40000000 in
theorem r4_compress (l : Launch) (Z : State) (a0 : Array Value) (hw : HW Z a0) (ws : List Jvm.Cond) (o0 o2 : Addr) (i_1 i_2 i_3 i_4 i_5 : Int32) (k_o0 k_o2 : ClassId) (h0 : Heap) (n0 : Nat) (Z0 : n0 ≤ h0.size) (V_o0 : Arv Z h0 o0 k_o0 .char 5 [(.int i_1), (.int i_2), (.int i_3), (.int i_4), (.int i_5)] z0) (hp0 : ¬ ((255 : Int32) < i_1)) (V_o2 : Arv Z h0 o2 k_o2 .byte 5 [z0, z0, z0, z0, z0] z0) (g_o2 : n0 ≤ o2) (ne_o0_o2 : o0 ≠ o2) (hp1 : ¬ ((255 : Int32) < i_2)) (hp2 : ¬ ((255 : Int32) < i_3)) (hp3 : ¬ ((255 : Int32) < i_4)) (hp4 : ¬ ((255 : Int32) < i_5)) :
    MF l Z y5_compress b8_ 7 (some .int) ws ⟨0, 0, 0, 0⟩ #[(.ref o0), z0, (.ref o2), z0, (.int 5)] h0 (Q_r4_compress Z o0 o2 i_1 i_2 i_3 i_4 i_5 k_o0 k_o2 h0 n0) := by
  refine own_body (plainFor_of_name pn_StringUTF16906) (ef_r4_compress o0 o2) (by decide) (by decide) ?_
  intro p e s m below meth c s₁ hx hby hml hown hnm hret hZ hh e0 X0
  have N0 := Fr.nil n0
  obtain ⟨T6, h6, X6, e6, W6, V6, st6⟩ := own_astB X0 hx hZ e0 V_o2 (j := 0) (by decide) 0 rfl (Nat.le_of_ble_eq_true rfl) (g := (mkF m 31 #[vr o0, vi 0, vr o2, vi 0, vi 5, vi 0, vi i_1] [(.int (i_1.toInt8.toInt32)), z0, (.ref o2)])) rfl rfl (hb hby d84)
  rw [show (nar .byte (i_1.toInt8.toInt32)) = (i_1.toInt8.toInt32) from (own_narb _)] at V6
  have K6 := KL.ofW W6
  replace V6 : Arv Z h6 o2 k_o2 .byte 5 [(.int (i_1.toInt8.toInt32)), z0, z0, z0, z0] z0 := V6
  have N6 := Fr.snoc X6 N0 g_o2
  have f7 := (kArv K6 V_o0 (naN (Ne.symm ne_o0_o2) na0))
  obtain ⟨T8, h8, X8, e8, W8, V8, st8⟩ := own_astB X6 hx hZ e6 V6 (j := 1) (by decide) 1 rfl (Nat.le_of_ble_eq_true rfl) (g := (mkF m 31 #[vr o0, vi 1, vr o2, vi 1, vi 5, vi 1, vi i_2] [(.int (i_2.toInt8.toInt32)), (.int 1), (.ref o2)])) rfl rfl (hb hby d84)
  rw [show (nar .byte (i_2.toInt8.toInt32)) = (i_2.toInt8.toInt32) from (own_narb _)] at V8
  have K8 := KL.ofW W8
  replace V8 : Arv Z h8 o2 k_o2 .byte 5 [(.int (i_1.toInt8.toInt32)), (.int (i_2.toInt8.toInt32)), z0, z0, z0] z0 := V8
  have N8 := Fr.snoc X8 N6 g_o2
  have f9 := (kArv K8 f7 (naN (Ne.symm ne_o0_o2) na0))
  obtain ⟨T10, h10, X10, e10, W10, V10, st10⟩ := own_astB X8 hx hZ e8 V8 (j := 2) (by decide) 2 rfl (Nat.le_of_ble_eq_true rfl) (g := (mkF m 31 #[vr o0, vi 2, vr o2, vi 2, vi 5, vi 2, vi i_3] [(.int (i_3.toInt8.toInt32)), (.int 2), (.ref o2)])) rfl rfl (hb hby d84)
  rw [show (nar .byte (i_3.toInt8.toInt32)) = (i_3.toInt8.toInt32) from (own_narb _)] at V10
  have K10 := KL.ofW W10
  replace V10 : Arv Z h10 o2 k_o2 .byte 5 [(.int (i_1.toInt8.toInt32)), (.int (i_2.toInt8.toInt32)), (.int (i_3.toInt8.toInt32)), z0, z0] z0 := V10
  have N10 := Fr.snoc X10 N8 g_o2
  have f11 := (kArv K10 f9 (naN (Ne.symm ne_o0_o2) na0))
  obtain ⟨T12, h12, X12, e12, W12, V12, st12⟩ := own_astB X10 hx hZ e10 V10 (j := 3) (by decide) 3 rfl (Nat.le_of_ble_eq_true rfl) (g := (mkF m 31 #[vr o0, vi 3, vr o2, vi 3, vi 5, vi 3, vi i_4] [(.int (i_4.toInt8.toInt32)), (.int 3), (.ref o2)])) rfl rfl (hb hby d84)
  rw [show (nar .byte (i_4.toInt8.toInt32)) = (i_4.toInt8.toInt32) from (own_narb _)] at V12
  have K12 := KL.ofW W12
  replace V12 : Arv Z h12 o2 k_o2 .byte 5 [(.int (i_1.toInt8.toInt32)), (.int (i_2.toInt8.toInt32)), (.int (i_3.toInt8.toInt32)), (.int (i_4.toInt8.toInt32)), z0] z0 := V12
  have N12 := Fr.snoc X12 N10 g_o2
  have f13 := (kArv K12 f11 (naN (Ne.symm ne_o0_o2) na0))
  obtain ⟨T14, h14, X14, e14, W14, V14, st14⟩ := own_astB X12 hx hZ e12 V12 (j := 4) (by decide) 4 rfl (Nat.le_of_ble_eq_true rfl) (g := (mkF m 31 #[vr o0, vi 4, vr o2, vi 4, vi 5, vi 4, vi i_5] [(.int (i_5.toInt8.toInt32)), (.int 4), (.ref o2)])) rfl rfl (hb hby d84)
  rw [show (nar .byte (i_5.toInt8.toInt32)) = (i_5.toInt8.toInt32) from (own_narb _)] at V14
  have K14 := KL.ofW W14
  replace V14 : Arv Z h14 o2 k_o2 .byte 5 [(.int (i_1.toInt8.toInt32)), (.int (i_2.toInt8.toInt32)), (.int (i_3.toInt8.toInt32)), (.int (i_4.toInt8.toInt32)), (.int (i_5.toInt8.toInt32))] z0 := V14
  have N14 := Fr.snoc X14 N12 g_o2
  -- what was kept, from the start on
  have C0 := (KL.refl h0 (WS_r4_compress Z o2)).trans K6 (naO (own_mi 0 rfl) na0)
  have C1 := C0.trans K8 (naO (own_mi 1 rfl) na0)
  have C2 := C1.trans K10 (naO (own_mi 2 rfl) na0)
  have C3 := C2.trans K12 (naO (own_mi 3 rfl) na0)
  have C4 := C3.trans K14 (naO (own_mi 4 rfl) na0)
  refine ⟨T14, _, some (.int 5), X14, (fun h => by cases h <;> rfl), ?_, fun fs hr => ?_⟩
  · show Q_r4_compress Z o0 o2 i_1 i_2 i_3 i_4 i_5 k_o0 k_o2 h0 n0 _ T14.heap _
    rw [e14]
    exact ⟨rfl, N14, C4, V14⟩
  · refine t_iconst 1 (r := 0) X0.here hx (hb hby d68) (by decide) rfl ?_
    refine t_istore (pc' := 3) (L' := #[vr o0, vi 0, vr o2, vi 0, vi 5, vi 0, .unset]) X0.here hx (hb hby d69) rfl rfl ?_
    refine t_iload 5 X0.here hx (hb hby d70) rfl rfl ?_
    refine t_iload 7 X0.here hx (hb hby d71) rfl rfl ?_
    refine t_icmpNo 10 X0.here hx (hb hby d72) (by decide) rfl ?_
    refine t_aloadN 11 X0.here hx (hb hby d73) rfl rfl rfl ?_
    refine t_iloadN 12 X0.here hx (hb hby d74) rfl rfl ?_
    refine own_aldC (pc' := 13) X0 hx hZ e0 V_o0 (j := 0) (v := (.int i_1)) (by decide) rfl (hb hby d75) rfl ?_
    refine t_istore (pc' := 15) (L' := #[vr o0, vi 0, vr o2, vi 0, vi 5, vi 0, vi i_1]) X0.here hx (hb hby d76) rfl rfl ?_
    refine t_iload 17 X0.here hx (hb hby d77) rfl rfl ?_
    refine t_sipush 20 (r := 255) X0.here hx (hb hby d78) (by decide) rfl ?_
    refine t_icmpYes (pc := 20) 26 X0.here hx (hb hby d79) (flt hp0).2.2.2 (by decide) (by decide) ?_
    refine t_aloadN 27 X0.here hx (hb hby d80) rfl rfl rfl ?_
    refine t_iloadN 28 X0.here hx (hb hby d81) rfl rfl ?_
    refine t_iload 30 X0.here hx (hb hby d82) rfl rfl ?_
    refine t_i2b 31 X0.here hx (hb hby d83) rfl rfl ?_
    refine st6 _ ?_
    refine t_iinc (pc' := 35) (L' := #[vr o0, vi 1, vr o2, vi 0, vi 5, vi 0, vi i_1]) X6.here hx (hb hby d85) rfl (by first | rfl | decide) rfl ?_
    refine t_iinc (pc' := 38) (L' := #[vr o0, vi 1, vr o2, vi 1, vi 5, vi 0, vi i_1]) X6.here hx (hb hby d86) rfl (by first | rfl | decide) rfl ?_
    refine t_iinc (pc' := 41) (L' := #[vr o0, vi 1, vr o2, vi 1, vi 5, vi 1, vi i_1]) X6.here hx (hb hby d87) rfl (by first | rfl | decide) rfl ?_
    refine t_goto (pc := 41) 3 X6.here hx (hb hby d88) (by decide) (by decide) ?_
    refine t_iload 5 X6.here hx (hb hby d70) rfl rfl ?_
    refine t_iload 7 X6.here hx (hb hby d71) rfl rfl ?_
    refine t_icmpNo 10 X6.here hx (hb hby d72) (by decide) rfl ?_
    refine t_aloadN 11 X6.here hx (hb hby d73) rfl rfl rfl ?_
    refine t_iloadN 12 X6.here hx (hb hby d74) rfl rfl ?_
    refine own_aldC (pc' := 13) X6 hx hZ e6 f7 (j := 1) (v := (.int i_2)) (by decide) rfl (hb hby d75) rfl ?_
    refine t_istore (pc' := 15) (L' := #[vr o0, vi 1, vr o2, vi 1, vi 5, vi 1, vi i_2]) X6.here hx (hb hby d76) rfl rfl ?_
    refine t_iload 17 X6.here hx (hb hby d77) rfl rfl ?_
    refine t_sipush 20 (r := 255) X6.here hx (hb hby d78) (by decide) rfl ?_
    refine t_icmpYes (pc := 20) 26 X6.here hx (hb hby d79) (flt hp1).2.2.2 (by decide) (by decide) ?_
    refine t_aloadN 27 X6.here hx (hb hby d80) rfl rfl rfl ?_
    refine t_iloadN 28 X6.here hx (hb hby d81) rfl rfl ?_
    refine t_iload 30 X6.here hx (hb hby d82) rfl rfl ?_
    refine t_i2b 31 X6.here hx (hb hby d83) rfl rfl ?_
    refine st8 _ ?_
    refine t_iinc (pc' := 35) (L' := #[vr o0, vi 2, vr o2, vi 1, vi 5, vi 1, vi i_2]) X8.here hx (hb hby d85) rfl (by first | rfl | decide) rfl ?_
    refine t_iinc (pc' := 38) (L' := #[vr o0, vi 2, vr o2, vi 2, vi 5, vi 1, vi i_2]) X8.here hx (hb hby d86) rfl (by first | rfl | decide) rfl ?_
    refine t_iinc (pc' := 41) (L' := #[vr o0, vi 2, vr o2, vi 2, vi 5, vi 2, vi i_2]) X8.here hx (hb hby d87) rfl (by first | rfl | decide) rfl ?_
    refine t_goto (pc := 41) 3 X8.here hx (hb hby d88) (by decide) (by decide) ?_
    refine t_iload 5 X8.here hx (hb hby d70) rfl rfl ?_
    refine t_iload 7 X8.here hx (hb hby d71) rfl rfl ?_
    refine t_icmpNo 10 X8.here hx (hb hby d72) (by decide) rfl ?_
    refine t_aloadN 11 X8.here hx (hb hby d73) rfl rfl rfl ?_
    refine t_iloadN 12 X8.here hx (hb hby d74) rfl rfl ?_
    refine own_aldC (pc' := 13) X8 hx hZ e8 f9 (j := 2) (v := (.int i_3)) (by decide) rfl (hb hby d75) rfl ?_
    refine t_istore (pc' := 15) (L' := #[vr o0, vi 2, vr o2, vi 2, vi 5, vi 2, vi i_3]) X8.here hx (hb hby d76) rfl rfl ?_
    refine t_iload 17 X8.here hx (hb hby d77) rfl rfl ?_
    refine t_sipush 20 (r := 255) X8.here hx (hb hby d78) (by decide) rfl ?_
    refine t_icmpYes (pc := 20) 26 X8.here hx (hb hby d79) (flt hp2).2.2.2 (by decide) (by decide) ?_
    refine t_aloadN 27 X8.here hx (hb hby d80) rfl rfl rfl ?_
    refine t_iloadN 28 X8.here hx (hb hby d81) rfl rfl ?_
    refine t_iload 30 X8.here hx (hb hby d82) rfl rfl ?_
    refine t_i2b 31 X8.here hx (hb hby d83) rfl rfl ?_
    refine st10 _ ?_
    refine t_iinc (pc' := 35) (L' := #[vr o0, vi 3, vr o2, vi 2, vi 5, vi 2, vi i_3]) X10.here hx (hb hby d85) rfl (by first | rfl | decide) rfl ?_
    refine t_iinc (pc' := 38) (L' := #[vr o0, vi 3, vr o2, vi 3, vi 5, vi 2, vi i_3]) X10.here hx (hb hby d86) rfl (by first | rfl | decide) rfl ?_
    refine t_iinc (pc' := 41) (L' := #[vr o0, vi 3, vr o2, vi 3, vi 5, vi 3, vi i_3]) X10.here hx (hb hby d87) rfl (by first | rfl | decide) rfl ?_
    refine t_goto (pc := 41) 3 X10.here hx (hb hby d88) (by decide) (by decide) ?_
    refine t_iload 5 X10.here hx (hb hby d70) rfl rfl ?_
    refine t_iload 7 X10.here hx (hb hby d71) rfl rfl ?_
    refine t_icmpNo 10 X10.here hx (hb hby d72) (by decide) rfl ?_
    refine t_aloadN 11 X10.here hx (hb hby d73) rfl rfl rfl ?_
    refine t_iloadN 12 X10.here hx (hb hby d74) rfl rfl ?_
    refine own_aldC (pc' := 13) X10 hx hZ e10 f11 (j := 3) (v := (.int i_4)) (by decide) rfl (hb hby d75) rfl ?_
    refine t_istore (pc' := 15) (L' := #[vr o0, vi 3, vr o2, vi 3, vi 5, vi 3, vi i_4]) X10.here hx (hb hby d76) rfl rfl ?_
    refine t_iload 17 X10.here hx (hb hby d77) rfl rfl ?_
    refine t_sipush 20 (r := 255) X10.here hx (hb hby d78) (by decide) rfl ?_
    refine t_icmpYes (pc := 20) 26 X10.here hx (hb hby d79) (flt hp3).2.2.2 (by decide) (by decide) ?_
    refine t_aloadN 27 X10.here hx (hb hby d80) rfl rfl rfl ?_
    refine t_iloadN 28 X10.here hx (hb hby d81) rfl rfl ?_
    refine t_iload 30 X10.here hx (hb hby d82) rfl rfl ?_
    refine t_i2b 31 X10.here hx (hb hby d83) rfl rfl ?_
    refine st12 _ ?_
    refine t_iinc (pc' := 35) (L' := #[vr o0, vi 4, vr o2, vi 3, vi 5, vi 3, vi i_4]) X12.here hx (hb hby d85) rfl (by first | rfl | decide) rfl ?_
    refine t_iinc (pc' := 38) (L' := #[vr o0, vi 4, vr o2, vi 4, vi 5, vi 3, vi i_4]) X12.here hx (hb hby d86) rfl (by first | rfl | decide) rfl ?_
    refine t_iinc (pc' := 41) (L' := #[vr o0, vi 4, vr o2, vi 4, vi 5, vi 4, vi i_4]) X12.here hx (hb hby d87) rfl (by first | rfl | decide) rfl ?_
    refine t_goto (pc := 41) 3 X12.here hx (hb hby d88) (by decide) (by decide) ?_
    refine t_iload 5 X12.here hx (hb hby d70) rfl rfl ?_
    refine t_iload 7 X12.here hx (hb hby d71) rfl rfl ?_
    refine t_icmpNo 10 X12.here hx (hb hby d72) (by decide) rfl ?_
    refine t_aloadN 11 X12.here hx (hb hby d73) rfl rfl rfl ?_
    refine t_iloadN 12 X12.here hx (hb hby d74) rfl rfl ?_
    refine own_aldC (pc' := 13) X12 hx hZ e12 f13 (j := 4) (v := (.int i_5)) (by decide) rfl (hb hby d75) rfl ?_
    refine t_istore (pc' := 15) (L' := #[vr o0, vi 4, vr o2, vi 4, vi 5, vi 4, vi i_5]) X12.here hx (hb hby d76) rfl rfl ?_
    refine t_iload 17 X12.here hx (hb hby d77) rfl rfl ?_
    refine t_sipush 20 (r := 255) X12.here hx (hb hby d78) (by decide) rfl ?_
    refine t_icmpYes (pc := 20) 26 X12.here hx (hb hby d79) (flt hp4).2.2.2 (by decide) (by decide) ?_
    refine t_aloadN 27 X12.here hx (hb hby d80) rfl rfl rfl ?_
    refine t_iloadN 28 X12.here hx (hb hby d81) rfl rfl ?_
    refine t_iload 30 X12.here hx (hb hby d82) rfl rfl ?_
    refine t_i2b 31 X12.here hx (hb hby d83) rfl rfl ?_
    refine st14 _ ?_
    refine t_iinc (pc' := 35) (L' := #[vr o0, vi 5, vr o2, vi 4, vi 5, vi 4, vi i_5]) X14.here hx (hb hby d85) rfl (by first | rfl | decide) rfl ?_
    refine t_iinc (pc' := 38) (L' := #[vr o0, vi 5, vr o2, vi 5, vi 5, vi 4, vi i_5]) X14.here hx (hb hby d86) rfl (by first | rfl | decide) rfl ?_
    refine t_iinc (pc' := 41) (L' := #[vr o0, vi 5, vr o2, vi 5, vi 5, vi 5, vi i_5]) X14.here hx (hb hby d87) rfl (by first | rfl | decide) rfl ?_
    refine t_goto (pc := 41) 3 X14.here hx (hb hby d88) (by decide) (by decide) ?_
    refine t_iload 5 X14.here hx (hb hby d70) rfl rfl ?_
    refine t_iload 7 X14.here hx (hb hby d71) rfl rfl ?_
    refine t_icmpYes (pc := 7) 44 X14.here hx (hb hby d72) (by decide) (by decide) (by decide) ?_
    refine t_iload 46 X14.here hx (hb hby d89) rfl rfl ?_
    exact retI X14 hx hret (hb hby d90) hr
def w26 (hw : HW Z a0) := ow 26 hw rfl
def w21 (hw : HW Z a0) := ow 21 hw rfl
theorem pd_3 : parseMethodDescriptor "([CI[BII)I" = some ⟨[(.array .char), .int, (.array .byte), .int, .int], some .int⟩ := by decide +kernel
def w25 (hw : HW Z a0) := ow 25 hw rfl
theorem d91 : decode b7_ 12 = .ok (.istore 4, 2) := by decide +kernel
theorem d92 : decode b7_ 14 = .ok (.iload 4, 2) := by decide +kernel
theorem d93 : decode b7_ 16 = .ok (.iload_n 2, 1) := by decide +kernel
theorem d94 : decode b7_ 17 = .ok (.if_icmp .eq 40, 3) := by decide +kernel
theorem d95 : decode b7_ 57 = .ok (.aload_n 3, 1) := by decide +kernel
theorem d96 : decode b7_ 58 = .ok (.areturn, 1) := by decide +kernel
abbrev y6_compress : MethodName := ⟨"java/lang/StringUTF16", "compress", "([CII)[B"⟩
def Q_r3_compress (Z : State) (o0 : Addr) (i_2 i_3 i_4 i_5 i_6 : Int32) (k_o0 : ClassId) (h0 : Heap) (n0 : Nat) (v : Option Value) (h : Heap) (L : List Loc) : Prop := ∃ b1 : Addr, ∃ k1 : ClassId, v = some (.ref b1) ∧ Fr n0 L ∧ KL h0 h [] ∧ h0.size ≤ b1 ∧ Arv Z h b1 k1 .byte 5 [(.int (i_2.toInt8.toInt32)), (.int (i_3.toInt8.toInt32)), (.int (i_4.toInt8.toInt32)), (.int (i_5.toInt8.toInt32)), (.int (i_6.toInt8.toInt32))] z0
theorem ef_r3_compress (o0 : Addr) (m : MethodId) : entryFrame m #[(.ref o0), (.int 0), (.int 5)] 6 = mkF m 0 #[.val (.ref o0), .val (.int 0), .val (.int 5), .unset, .unset, .unset] [] := by first | (simp [entryFrame, mkF, argsToLocals, Value.category]; done) | rfl
set_option maxRecDepth 65536 in
set_option maxHeartbeats 40000000 in
theorem r3_compress (l : Launch) (Z : State) (a0 : Array Value) (hw : HW Z a0) (ws : List Jvm.Cond) (o0 : Addr) (i_2 i_3 i_4 i_5 i_6 : Int32) (k_o0 : ClassId) (h0 : Heap) (n0 : Nat) (Z0 : n0 ≤ h0.size) (V_o0 : Arv Z h0 o0 k_o0 .char 5 [(.int i_2), (.int i_3), (.int i_4), (.int i_5), (.int i_6)] z0) (hp0 : ¬ ((255 : Int32) < i_2)) (hp1 : ¬ ((255 : Int32) < i_3)) (hp2 : ¬ ((255 : Int32) < i_4)) (hp3 : ¬ ((255 : Int32) < i_5)) (hp4 : ¬ ((255 : Int32) < i_6)) :
    MF l Z y6_compress b7_ 6 (some (.array .byte)) ws ⟨1, 1, 5, 18⟩ #[(.ref o0), z0, (.int 5)] h0 (Q_r3_compress Z o0 i_2 i_3 i_4 i_5 i_6 k_o0 h0 n0) := by
  refine own_body (plainFor_of_name pn_StringUTF16906) (ef_r3_compress o0) (by decide) (by decide) ?_
  intro p e s m below meth c s₁ hx hby hml hown hnm hret hZ hh e0 X0
  have N0 := Fr.nil n0
  obtain ⟨T1, h1, k1, X1, e1, E1, A1, st1⟩ := newP (aty := .byte) X0 hx hZ (w23 hw) e0 (g := (mkF m 1 #[vr o0, vi 0, vi 5, .unset, .unset, .unset] [(.int 5)])) rfl (hb hby d60) rfl (by decide) (cap := 5) (by decide) (by decide) (by decide) (by decide)
  obtain ⟨b1, g1⟩ : ∃ z, z = h0.size := ⟨_, rfl⟩
  rw [← g1] at A1 st1
  have ge_b1 : h0.size ≤ b1 := Nat.le_of_eq g1.symm
  have K1 := KL.ofE E1
  have V1 : Arv Z h1 b1 k1 .byte 5 [z0, z0, z0, z0, z0] z0 := (Arv.new A1 (by decide)).pad (pad_rep [] z0 5)
  have f8 := (kArv K1 V_o0 na0)
  have lt_o0 : o0 < h0.size := Arv.lt V_o0
  obtain ⟨_, T7, L7, X7, hQ7, st7⟩ := own_static X1 hx hZ hown (w24 hw) (w25 hw) (w21 hw) (w26 hw) (by decide) (r4_compress l Z a0 hw [] o0 b1 i_2 i_3 i_4 i_5 i_6 k_o0 k1 h1 n0 (Nat.le_trans Z0 K1.1) f8 hp0 V1 (Nat.le_trans Z0 (Nat.le_trans (Nat.le_refl _) ge_b1)) (lt_ne lt_o0 ge_b1) hp1 hp2 hp3 hp4) e1 (W := 0) (by decide) (g := (mkF m 9 #[vr o0, vi 0, vi 5, vr b1, .unset, .unset] [(.int 5), z0, (.ref b1), z0, (.ref o0)])) rfl (by rw [hml]; rfl) (argsL := [(.ref o0), z0, (.ref b1), z0, (.int 5)]) (rest := []) (lenOf pd_3 rfl) rfl rfl (own_wr rfl rfl) (hb hby d67)
  obtain ⟨rfl, N7q, K7, Q7_0⟩ := hQ7
  have N7 := Fr.app N0 N7q
  -- what was kept, from the start on
  have C0 := (KL.refl h0 []).trans K1 na0
  have C1 := C0.trans K7 (naOM 5 rfl (Nat.le_trans (Nat.le_refl _) ge_b1) na0)
  refine ⟨T7, _, some (.ref b1), X7, (fun h => by cases h <;> rfl), ?_, fun fs hr => ?_⟩
  · show Q_r3_compress Z o0 i_2 i_3 i_4 i_5 i_6 k_o0 h0 n0 _ T7.heap _
    exact ⟨b1, k1, rfl, N7, C1, (Nat.le_trans (Nat.le_refl _) ge_b1), Q7_0⟩
  · refine t_iloadN 1 X0.here hx (hb hby d59) rfl rfl ?_
    refine st1 _ ?_
    refine t_astoreN (pc' := 4) (L' := #[vr o0, vi 0, vi 5, vr b1, .unset, .unset]) X1.here hx (hb hby d61) rfl rfl rfl ?_
    refine t_aloadN 5 X1.here hx (hb hby d62) rfl rfl rfl ?_
    refine t_iloadN 6 X1.here hx (hb hby d63) rfl rfl ?_
    refine t_aloadN 7 X1.here hx (hb hby d64) rfl rfl rfl ?_
    refine t_iconst 8 (r := 0) X1.here hx (hb hby d65) (by decide) rfl ?_
    refine t_iloadN 9 X1.here hx (hb hby d66) rfl rfl ?_
    refine st7 _ ?_
    refine t_istore (pc' := 14) (L' := #[vr o0, vi 0, vi 5, vr b1, vi 5, .unset]) X7.here hx (hb hby d91) rfl rfl ?_
    refine t_iload 16 X7.here hx (hb hby d92) rfl rfl ?_
    refine t_iloadN 17 X7.here hx (hb hby d93) rfl rfl ?_
    refine t_icmpYes (pc := 17) 57 X7.here hx (hb hby d94) (by decide) (by decide) (by decide) ?_
    refine t_aloadN 58 X7.here hx (hb hby d95) rfl rfl rfl ?_
    jvm_step X7.here [X7.here.top, hx, (hb hby d96), X7.method', hret, Value.isRef, FieldType.isReference]
    first | (intro acts; rw [hr _ acts rfl rfl rfl]) | rw [hr _ _ rfl rfl rfl]
    exact Steps.refl _
def w22 (hw : HW Z a0) := ow 22 hw rfl
theorem pd_4 : parseMethodDescriptor "([CII)[B" = some ⟨[(.array .char), .int, .int], some (.array .byte)⟩ := by decide +kernel
def w20 (hw : HW Z a0) := ow 20 hw rfl
theorem d97 : decode b6_ 39 = .ok (.astore 5, 2) := by decide +kernel
theorem d98 : decode b6_ 41 = .ok (.aload_n 0, 1) := by decide +kernel
theorem d99 : decode b6_ 42 = .ok (.aload 5, 2) := by decide +kernel
theorem d100 : decode b6_ 44 = .ok (.iload_n 3, 1) := by decide +kernel
theorem d101 : decode b6_ 45 = .ok (.invokestatic 47, 3) := by decide +kernel
def w27 (hw : HW Z a0) := ow 27 hw rfl
abbrev b9_ := jdk_52_method_15_code
theorem d102 : decode b9_ 0 = .ok (.iload_n 1, 1) := by decide +kernel
theorem d103 : decode b9_ 1 = .ok (.aload_n 0, 1) := by decide +kernel
theorem d104 : decode b9_ 2 = .ok (.arraylength, 1) := by decide +kernel
theorem d105 : decode b9_ 3 = .ok (.isub, 1) := by decide +kernel
theorem d106 : decode b9_ 4 = .ok (.bipush 31, 2) := by decide +kernel
theorem d107 : decode b9_ 6 = .ok (.iushr, 1) := by decide +kernel
theorem d108 : decode b9_ 7 = .ok (.i2b, 1) := by decide +kernel
theorem d109 : decode b9_ 8 = .ok (.ireturn, 1) := by decide +kernel
abbrev y7_coderFromArrayLen : MethodName := ⟨"java/lang/StringUTF16", "coderFromArrayLen", "([BI)B"⟩
def Q_r5_coderFromArrayLen (Z : State) (o0 : Addr) (i_1 i_2 i_3 i_4 i_5 : Int32) (k_o0 : ClassId) (h0 : Heap) (n0 : Nat) (v : Option Value) (h : Heap) (L : List Loc) : Prop := v = some z0 ∧ Fr n0 L ∧ h = h0
theorem ef_r5_coderFromArrayLen (o0 : Addr) (m : MethodId) : entryFrame m #[(.ref o0), (.int 5)] 2 = mkF m 0 #[.val (.ref o0), .val (.int 5)] [] := by first | (simp [entryFrame, mkF, argsToLocals, Value.category]; done) | rfl
set_option maxRecDepth 65536 in
set_option maxHeartbeats 40000000 in
theorem r5_coderFromArrayLen (l : Launch) (Z : State) (a0 : Array Value) (hw : HW Z a0) (ws : List Jvm.Cond) (o0 : Addr) (i_1 i_2 i_3 i_4 i_5 : Int32) (k_o0 : ClassId) (h0 : Heap) (n0 : Nat) (Z0 : n0 ≤ h0.size) (V_o0 : Arv Z h0 o0 k_o0 .byte 5 [(.int i_1), (.int i_2), (.int i_3), (.int i_4), (.int i_5)] z0) :
    MF l Z y7_coderFromArrayLen b9_ 2 (some .byte) ws ⟨0, 0, 0, 0⟩ #[(.ref o0), (.int 5)] h0 (Q_r5_coderFromArrayLen Z o0 i_1 i_2 i_3 i_4 i_5 k_o0 h0 n0) := by
  refine own_body (plainFor_of_name pn_StringUTF16906) (ef_r5_coderFromArrayLen o0) (by decide) (by decide) ?_
  intro p e s m below meth c s₁ hx hby hml hown hnm hret hZ hh e0 X0
  have N0 := Fr.nil n0
  refine ⟨s₁, _, some z0, X0, (fun h => by cases h <;> rfl), ?_, fun fs hr => ?_⟩
  · show Q_r5_coderFromArrayLen Z o0 i_1 i_2 i_3 i_4 i_5 k_o0 h0 n0 _ s₁.heap _
    rw [e0]
    exact ⟨rfl, N0, rfl⟩
  · refine t_iloadN 1 X0.here hx (hb hby d102) rfl rfl ?_
    refine t_aloadN 2 X0.here hx (hb hby d103) rfl rfl rfl ?_
    refine own_arlen (pc' := 3) X0 hx hZ e0 V_o0 (hb hby d104) rfl ?_
    refine t_isub 4 (r := 0) X0.here hx (hb hby d105) (by decide : ((5 : Int32) - (5 : Int32)) = (0 : Int32)) rfl ?_
    refine t_bipush 6 (r := 31) X0.here hx (hb hby d106) (by decide) rfl ?_
    refine t_iushr 7 (r := 0) X0.here hx (hb hby d107) (by decide : (((0 : Int32).toUInt32 >>> ((31 : Int32) &&& 31).toUInt32).toInt32) = (0 : Int32)) rfl ?_
    refine t_i2b 8 (r := 0) X0.here hx (hb hby d108) (by decide : ((0 : Int32).toInt8.toInt32) = (0 : Int32)) rfl ?_
    exact retN X0 hx (t := .byte) hret (by simp) (hb hby d109) hr
def w29 (hw : HW Z a0) := ow 29 hw rfl
theorem pd_5 : parseMethodDescriptor "([BI)B" = some ⟨[(.array .byte), .int], some .byte⟩ := by decide +kernel
def w28 (hw : HW Z a0) := ow 28 hw rfl
theorem d110 : decode b6_ 48 = .ok (.putfield 15, 3) := by decide +kernel
def w30 (hw : HW Z a0) := ow 30 hw rfl
abbrev Ex0 (Z : State) (h : Heap) (a : Addr) : Prop := Exa Z h a "java/lang/String"
theorem d111 : decode b6_ 51 = .ok (.aload_n 0, 1) := by decide +kernel
theorem d112 : decode b6_ 52 = .ok (.aload 5, 2) := by decide +kernel
theorem d113 : decode b6_ 54 = .ok (.putfield 9, 3) := by decide +kernel
def w32 (hw : HW Z a0) := ow 32 hw rfl
theorem sn_0 {Z : State} {a0 : Array Value} (hw : HW Z a0) : Jvm.RoadKit.slotOf Z "java/lang/String" "value" "[B" ≠ Jvm.RoadKit.slotOf Z "java/lang/String" "coder" "B" := slot_ne (C := "java/lang/String") (a0 := a0) (Or.inr (w33 hw)) (Or.inr (w31 hw)) (by decide) (t := (.array .byte)) (t' := .byte) (by decide) (by decide)
theorem d114 : decode b6_ 57 = .ok (.return_, 1) := by decide +kernel
theorem sn_1 {Z : State} {a0 : Array Value} (hw : HW Z a0) : Jvm.RoadKit.slotOf Z "java/lang/String" "coder" "B" ≠ Jvm.RoadKit.slotOf Z "java/lang/String" "value" "[B" := slot_ne (C := "java/lang/String") (a0 := a0) (Or.inr (w31 hw)) (Or.inr (w33 hw)) (by decide) (t := .byte) (t' := (.array .byte)) (by decide) (by decide)
abbrev y8__init_ : MethodName := ⟨"java/lang/String", "<init>", "([CIILjava/lang/Void;)V"⟩
def WS_r2__init_ (Z : State) (o0 : Addr) : List (Addr × Nat) := [(o0, (sl0 Z)), (o0, (sl1 Z))]
def Q_r2__init_ (Z : State) (o0 o1 : Addr) (i_2 i_4 i_5 i_6 i_7 i_8 : Int32) (k_o1 : ClassId) (h0 : Heap) (n0 : Nat) (v : Option Value) (h : Heap) (L : List Loc) : Prop := ∃ b1_9 : Addr, ∃ k1_9 : ClassId, v = none ∧ Fr n0 L ∧ KL h0 h (WS_r2__init_ Z o0) ∧ h0.size ≤ b1_9 ∧ Fd0 Z h o0 z0 ∧ Fd1 Z h o0 (.ref b1_9) ∧ Arv Z h b1_9 k1_9 .byte 5 [(.int (i_4.toInt8.toInt32)), (.int (i_5.toInt8.toInt32)), (.int (i_6.toInt8.toInt32)), (.int (i_7.toInt8.toInt32)), (.int (i_8.toInt8.toInt32))] z0
theorem ef_r2__init_ (o0 o1 : Addr) (m : MethodId) : entryFrame m #[(.ref o0), (.ref o1), (.int 0), (.int 5), .null] 6 = mkF m 0 #[.val (.ref o0), .val (.ref o1), .val (.int 0), .val (.int 5), .val .null, .unset] [] := by first | (simp [entryFrame, mkF, argsToLocals, Value.category]; done) | rfl
set_option maxRecDepth 65536 in
set_option maxHeartbeats 40000000 in
theorem r2__init_ (l : Launch) (Z : State) (a0 : Array Value) (hw : HW Z a0) (ws : List Jvm.Cond) (o0 o1 : Addr) (i_2 i_4 i_5 i_6 i_7 i_8 : Int32) (k_o1 : ClassId) (h0 : Heap) (n0 : Nat) (Z0 : n0 ≤ h0.size) (S_COMPACT_STRINGS : SCS Z i_2) (O0 : Old Z n0 h0) (hp0 : ¬ (i_2 = (0 : Int32))) (V_o1 : Arv Z h0 o1 k_o1 .char 5 [(.int i_4), (.int i_5), (.int i_6), (.int i_7), (.int i_8)] z0) (hp1 : ¬ ((255 : Int32) < i_4)) (hp2 : ¬ ((255 : Int32) < i_5)) (hp3 : ¬ ((255 : Int32) < i_6)) (hp4 : ¬ ((255 : Int32) < i_7)) (hp5 : ¬ ((255 : Int32) < i_8)) (F_o0_coder : Fd0 Z h0 o0 z0) (E_o0 : Ex0 Z h0 o0) (g_o0 : n0 ≤ o0) (F_o0_value : Fd1 Z h0 o0 .null) :
    MF l Z y8__init_ b6_ 6 none ws ⟨2, 1, 5, 35⟩ #[(.ref o0), (.ref o1), z0, (.int 5), .null] h0 (Q_r2__init_ Z o0 o1 i_2 i_4 i_5 i_6 i_7 i_8 k_o1 h0 n0) := by
  refine own_body (plainFor_of_name pn_String564) (ef_r2__init_ o0 o1) (by decide) (by decide) ?_
  intro p e s m below meth c s₁ hx hby hml hown hnm hret hZ hh e0 X0
  have N0 := Fr.nil n0
  obtain ⟨T1, X1, e1, st1⟩ := initO X0 hx hZ hown (w15 hw) (w16 hw) (w17 hw) e0 (g := (mkF m 1 #[vr o0, vr o1, vi 0, vi 5, .val .null, .unset] [(.ref o0)])) rfl (by rw [hml]; rfl) rfl (hb hby d50) (by decide) (W := 0) (by show 2 * 0 + _ ≤ _; exact Nat.le_of_eq rfl) (by decide)
  obtain ⟨T3, X3, e3, st3⟩ := getS2 X1 hx hZ hown (host := "") (Or.inl (w18 hw)) Via.refl e1 (Sta.ext O0.2 S_COMPACT_STRINGS) (g := (mkF m 27 #[vr o0, vr o1, vi 0, vi 5, .val .null, .unset] [])) rfl (hb hby d53)
  obtain ⟨_, T9, L9, X9, hQ9, st9⟩ := own_static X3 hx hZ hown (w19 hw) (w20 hw) (w21 hw) (w22 hw) (by decide) (r3_compress l Z a0 hw [] o1 i_4 i_5 i_6 i_7 i_8 k_o1 h0 n0 Z0 V_o1 hp1 hp2 hp3 hp4 hp5) e3 (W := 0) (by decide) (g := (mkF m 36 #[vr o0, vr o1, vi 0, vi 5, .val .null, .unset] [(.int 5), z0, (.ref o1)])) rfl (by rw [hml]; rfl) (argsL := [(.ref o1), z0, (.int 5)]) (rest := []) (lenOf pd_4 rfl) rfl rfl (own_wr rfl rfl) (hb hby d58)
  obtain ⟨b1_9, k1_9, rfl, N9q, K9, Q9_0, Q9_1⟩ := hQ9
  have N9 := Fr.app N0 N9q
  obtain ⟨_, T11, L11, X11, hQ11, st11⟩ := own_static X9 hx hZ hown (w27 hw) (w28 hw) (w21 hw) (w29 hw) (by decide) (r5_coderFromArrayLen l Z a0 hw [] b1_9 (i_4.toInt8.toInt32) (i_5.toInt8.toInt32) (i_6.toInt8.toInt32) (i_7.toInt8.toInt32) (i_8.toInt8.toInt32) k1_9 T9.heap n0 (Nat.le_trans Z0 K9.1) Q9_1) rfl (W := 1) (by decide) (g := (mkF m 45 #[vr o0, vr o1, vi 0, vi 5, .val .null, vr b1_9] [(.int 5), (.ref b1_9), (.ref o0)])) rfl (by rw [hml]; rfl) (argsL := [(.ref b1_9), (.int 5)]) (rest := [(.ref o0)]) (lenOf pd_5 rfl) rfl rfl (own_wr rfl rfl) (hb hby d101)
  obtain ⟨rfl, N11q, e11⟩ := hQ11
  have N11 := Fr.app N9 N11q
  have f12 := (kFld K9 F_o0_coder nw0)
  have f13 := (kExa K9 E_o0)
  obtain ⟨T14, h14, X14, e14, W14, st14⟩ := putF X11 hx hZ hown (host := "") (Or.inl (w30 hw)) Via.refl e11 f12 f13 (Or.inr ⟨(w31 hw), rfl, hnm⟩) (w6 hw) (ty := .byte) (by decide) (by decide) (by decide) (g := (mkF m 48 #[vr o0, vr o1, vi 0, vi 5, .val .null, vr b1_9] [z0, (.ref o0)])) rfl rfl (hb hby d110)
  have K14 := KL.ofW W14
  have Fw14 : Fd0 Z h14 o0 z0 := Fld.same W14 f12
  have N14 := Fr.snoc X14 N11 g_o0
  have f15 := (kFld K14 (kFld K9 F_o0_value nw0) (nwS (Or.inr (sn_0 hw)) nw0))
  have f16 := (kExa K14 f13)
  obtain ⟨T17, h17, X17, e17, W17, st17⟩ := putF X14 hx hZ hown (host := "") (Or.inl (w32 hw)) Via.refl e14 f15 f16 (Or.inr ⟨(w33 hw), rfl, hnm⟩) (w6 hw) (ty := (.array .byte)) (by decide) rfl rfl (g := (mkF m 54 #[vr o0, vr o1, vi 0, vi 5, .val .null, vr b1_9] [(.ref b1_9), (.ref o0)])) rfl rfl (hb hby d113)
  have K17 := KL.ofW W17
  have Fw17 : Fd1 Z h17 o0 (.ref b1_9) := Fld.same W17 f15
  have N17 := Fr.snoc X17 N14 g_o0
  -- what was kept, from the start on
  have C0 := (KL.refl h0 (WS_r2__init_ Z o0)).trans K9 na0
  have C1 := C0.trans K14 (naO (own_mi 0 rfl) na0)
  have C2 := C1.trans K17 (naO (own_mi 1 rfl) na0)
  have f18 := (kFld K17 Fw14 (nwS (Or.inr (sn_1 hw)) nw0))
  have lt_o0 : o0 < h0.size := Fld.lt F_o0_coder
  have f19 := (kArv K17 (kArv K14 Q9_1 (naN (lt_ne lt_o0 Q9_0) na0)) (naN (lt_ne lt_o0 Q9_0) na0))
  refine ⟨T17, _, none, X17, (fun h => by cases h <;> rfl), ?_, fun fs hr => ?_⟩
  · show Q_r2__init_ Z o0 o1 i_2 i_4 i_5 i_6 i_7 i_8 k_o1 h0 n0 _ T17.heap _
    rw [e17]
    exact ⟨b1_9, k1_9, rfl, N17, C2, (Nat.le_trans (Nat.le_refl _) Q9_0), f18, Fw17, f19⟩
  · refine t_aloadN 1 X0.here hx (hb hby d49) rfl rfl rfl ?_
    refine st1 _ ?_
    refine t_iloadN 5 X1.here hx (hb hby d51) rfl rfl ?_
    refine t_ifYes (pc := 5) 27 X1.here hx (hb hby d52) (by decide) (by decide) (by decide) ?_
    refine st3 _ ?_
    refine t_ifNo 33 X3.here hx (hb hby d54) ((if0 _ _).trans (feq hp0).1) rfl ?_
    refine t_aloadN 34 X3.here hx (hb hby d55) rfl rfl rfl ?_
    refine t_iloadN 35 X3.here hx (hb hby d56) rfl rfl ?_
    refine t_iloadN 36 X3.here hx (hb hby d57) rfl rfl ?_
    refine st9 _ ?_
    refine t_astore (pc' := 41) (L' := #[vr o0, vr o1, vi 0, vi 5, .val .null, vr b1_9]) X9.here hx (hb hby d97) rfl rfl rfl ?_
    refine t_aloadN 42 X9.here hx (hb hby d98) rfl rfl rfl ?_
    refine t_aload 44 X9.here hx (hb hby d99) rfl rfl rfl ?_
    refine t_iloadN 45 X9.here hx (hb hby d100) rfl rfl ?_
    refine st11 _ ?_
    refine st14 _ ?_
    refine t_aloadN 52 X14.here hx (hb hby d111) rfl rfl rfl ?_
    refine t_aload 54 X14.here hx (hb hby d112) rfl rfl rfl ?_
    refine st17 _ ?_
    exact X17.returnOut hx hret (hb hby d114) hr
def w14 (hw : HW Z a0) := ow 14 hw rfl
theorem pd_6 : parseMethodDescriptor "([CIILjava/lang/Void;)V" = some ⟨[(.array .char), .int, .int, (.object "java/lang/Void")], none⟩ := by decide +kernel
def w12 (hw : HW Z a0) := ow 12 hw rfl
theorem d115 : decode b5_ 9 = .ok (.return_, 1) := by decide +kernel
abbrev y9__init_ : MethodName := ⟨"java/lang/String", "<init>", "([C)V"⟩
def WS_r1__init_ (Z : State) (o0 : Addr) : List (Addr × Nat) := [(o0, (sl0 Z)), (o0, (sl1 Z))]
def Q_r1__init_ (Z : State) (o0 o1 : Addr) (i_1 i_2 i_3 i_4 i_5 : Int32) (k_o1 : ClassId) (i_6 : Int32) (h0 : Heap) (n0 : Nat) (v : Option Value) (h : Heap) (L : List Loc) : Prop := ∃ b1_9_7 : Addr, ∃ k1_9_7 : ClassId, v = none ∧ Fr n0 L ∧ KL h0 h (WS_r1__init_ Z o0) ∧ h0.size ≤ b1_9_7 ∧ Fd0 Z h o0 z0 ∧ Fd1 Z h o0 (.ref b1_9_7) ∧ Arv Z h b1_9_7 k1_9_7 .byte 5 [(.int (i_1.toInt8.toInt32)), (.int (i_2.toInt8.toInt32)), (.int (i_3.toInt8.toInt32)), (.int (i_4.toInt8.toInt32)), (.int (i_5.toInt8.toInt32))] z0
theorem ef_r1__init_ (o0 o1 : Addr) (m : MethodId) : entryFrame m #[(.ref o0), (.ref o1)] 2 = mkF m 0 #[.val (.ref o0), .val (.ref o1)] [] := by first | (simp [entryFrame, mkF, argsToLocals, Value.category]; done) | rfl
set_option maxRecDepth 65536 in
set_option maxHeartbeats 40000000 in
theorem r1__init_ (l : Launch) (Z : State) (a0 : Array Value) (hw : HW Z a0) (ws : List Jvm.Cond) (o0 o1 : Addr) (i_1 i_2 i_3 i_4 i_5 : Int32) (k_o1 : ClassId) (i_6 : Int32) (h0 : Heap) (n0 : Nat) (Z0 : n0 ≤ h0.size) (V_o1 : Arv Z h0 o1 k_o1 .char 5 [(.int i_1), (.int i_2), (.int i_3), (.int i_4), (.int i_5)] z0) (S_COMPACT_STRINGS : SCS Z i_6) (F_o0_coder : Fd0 Z h0 o0 z0) (E_o0 : Ex0 Z h0 o0) (F_o0_value : Fd1 Z h0 o0 .null) (O0 : Old Z n0 h0) (hp0 : ¬ (i_6 = (0 : Int32))) (hp1 : ¬ ((255 : Int32) < i_1)) (hp2 : ¬ ((255 : Int32) < i_2)) (hp3 : ¬ ((255 : Int32) < i_3)) (hp4 : ¬ ((255 : Int32) < i_4)) (hp5 : ¬ ((255 : Int32) < i_5)) (g_o0 : n0 ≤ o0) :
    MF l Z y9__init_ b5_ 2 none ws ⟨3, 1, 5, 52⟩ #[(.ref o0), (.ref o1)] h0 (Q_r1__init_ Z o0 o1 i_1 i_2 i_3 i_4 i_5 k_o1 i_6 h0 n0) := by
  refine own_body (plainFor_of_name pn_String564) (ef_r1__init_ o0 o1) (by decide) (by decide) ?_
  intro p e s m below meth c s₁ hx hby hml hown hnm hret hZ hh e0 X0
  have N0 := Fr.nil n0
  obtain ⟨_, T7, L7, X7, hQ7, st7⟩ := own_init X0 hx hZ rfl hown (w11 hw) (w12 hw) (w7 hw) (w14 hw) (by decide) (r2__init_ l Z a0 hw [] o0 o1 i_6 i_1 i_2 i_3 i_4 i_5 k_o1 h0 n0 Z0 S_COMPACT_STRINGS O0 hp0 V_o1 hp1 hp2 hp3 hp4 hp5 F_o0_coder E_o0 g_o0 F_o0_value) e0 (W := 0) (by decide) (g := (mkF m 6 #[vr o0, vr o1] [.null, (.int 5), z0, (.ref o1), (.ref o0)])) rfl (by rw [hml]; rfl) (argsL := [(.ref o1), z0, (.int 5), .null]) (rest := []) (lenOf pd_6 rfl) rfl rfl (own_wr rfl rfl) (hb hby d48)
  obtain ⟨b1_9_7, k1_9_7, rfl, N7q, K7, Q7_0, Q7_1, Q7_2, Q7_3⟩ := hQ7
  have N7 := Fr.app N0 N7q
  -- what was kept, from the start on
  have C0 := (KL.refl h0 (WS_r1__init_ Z o0)).trans K7 (naO (own_mi 0 rfl) (naO (own_mi 1 rfl) na0))
  refine ⟨T7, _, none, X7, (fun h => by cases h <;> rfl), ?_, fun fs hr => ?_⟩
  · show Q_r1__init_ Z o0 o1 i_1 i_2 i_3 i_4 i_5 k_o1 i_6 h0 n0 _ T7.heap _
    exact ⟨b1_9_7, k1_9_7, rfl, N7, C0, (Nat.le_trans (Nat.le_refl _) Q7_0), Q7_1, Q7_2, Q7_3⟩
  · refine t_aloadN 1 X0.here hx (hb hby d42) rfl rfl rfl ?_
    refine t_aloadN 2 X0.here hx (hb hby d43) rfl rfl rfl ?_
    refine t_iconst 3 (r := 0) X0.here hx (hb hby d44) (by decide) rfl ?_
    refine t_aloadN 4 X0.here hx (hb hby d45) rfl rfl rfl ?_
    refine own_arlen (pc' := 5) X0 hx hZ e0 V_o1 (hb hby d46) rfl ?_
    refine t_aconst_null 6 X0.here hx (hb hby d47) rfl ?_
    refine st7 _ ?_
    exact X7.returnOut hx hret (hb hby d115) hr
def w10 (hw : HW Z a0) := ow 10 hw rfl
theorem pd_7 : parseMethodDescriptor "([C)V" = some ⟨[(.array .char)], none⟩ := by decide +kernel
def w9 (hw : HW Z a0) := ow 9 hw rfl
def w34 (hw : HW Z a0) := ow 34 hw rfl
abbrev b10_ := prog_2_method_2_code
theorem d116 : decode b10_ 0 = .ok (.aload_n 0, 1) := by decide +kernel
theorem d117 : decode b10_ 1 = .ok (.bipush 58, 2) := by decide +kernel
theorem d118 : decode b10_ 3 = .ok (.invokevirtual 23, 3) := by decide +kernel
def w38 (hw : HW Z a0) := ow 38 hw rfl
def w41 (hw : HW Z a0) := ow 41 hw rfl
abbrev b11_ := jdk_42_method_79_code
theorem d119 : decode b11_ 0 = .ok (.aload_n 0, 1) := by decide +kernel
theorem d120 : decode b11_ 1 = .ok (.iload_n 1, 1) := by decide +kernel
theorem d121 : decode b11_ 2 = .ok (.iconst 0, 1) := by decide +kernel
theorem d122 : decode b11_ 3 = .ok (.invokevirtual 633, 3) := by decide +kernel
def w43 (hw : HW Z a0) := ow 43 hw rfl
def w46 (hw : HW Z a0) := ow 46 hw rfl
abbrev b12_ := jdk_42_method_80_code
theorem d123 : decode b12_ 0 = .ok (.aload_n 0, 1) := by decide +kernel
theorem d124 : decode b12_ 1 = .ok (.invokevirtual 492, 3) := by decide +kernel
def w48 (hw : HW Z a0) := ow 48 hw rfl
def w51 (hw : HW Z a0) := ow 51 hw rfl
abbrev b13_ := jdk_42_method_154_code
theorem d125 : decode b13_ 0 = .ok (.getstatic 38, 3) := by decide +kernel
theorem d126 : decode b13_ 3 = .ok (.ifCond .eq 14, 3) := by decide +kernel
theorem d127 : decode b13_ 6 = .ok (.aload_n 0, 1) := by decide +kernel
theorem d128 : decode b13_ 7 = .ok (.getfield 15, 3) := by decide +kernel
theorem d129 : decode b13_ 10 = .ok (.ifCond .ne 7, 3) := by decide +kernel
theorem d130 : decode b13_ 13 = .ok (.iconst 1, 1) := by decide +kernel
theorem d131 : decode b13_ 14 = .ok (.goto 4, 3) := by decide +kernel
theorem d132 : decode b13_ 18 = .ok (.ireturn, 1) := by decide +kernel
abbrev y10_isLatin1 : MethodName := ⟨"java/lang/String", "isLatin1", "()Z"⟩
def Q_r9_isLatin1 (Z : State) (o0 : Addr) (i_1 : Int32) (h0 : Heap) (n0 : Nat) (v : Option Value) (h : Heap) (L : List Loc) : Prop := v = some (.int 1) ∧ Fr n0 L ∧ h = h0
theorem ef_r9_isLatin1 (o0 : Addr) (m : MethodId) : entryFrame m #[(.ref o0)] 1 = mkF m 0 #[.val (.ref o0)] [] := by first | (simp [entryFrame, mkF, argsToLocals, Value.category]; done) | rfl
set_option maxRecDepth 65536 in
set_option maxHeartbeats 40000000 in
theorem r9_isLatin1 (l : Launch) (Z : State) (a0 : Array Value) (hw : HW Z a0) (ws : List Jvm.Cond) (o0 : Addr) (i_1 : Int32) (h0 : Heap) (n0 : Nat) (Z0 : n0 ≤ h0.size) (S_COMPACT_STRINGS : SCS Z i_1) (O0 : Old Z n0 h0) (hp0 : ¬ (i_1 = (0 : Int32))) (F_o0_coder : Fd0 Z h0 o0 z0) :
    MF l Z y10_isLatin1 b13_ 1 (some .boolean) ws ⟨0, 0, 0, 0⟩ #[(.ref o0)] h0 (Q_r9_isLatin1 Z o0 i_1 h0 n0) := by
  refine own_body (plainFor_of_name pn_String564) (ef_r9_isLatin1 o0) (by decide) (by decide) ?_
  intro p e s m below meth c s₁ hx hby hml hown hnm hret hZ hh e0 X0
  have N0 := Fr.nil n0
  obtain ⟨T2, X2, e2, st2⟩ := getS2 X0 hx hZ hown (host := "") (Or.inl (w18 hw)) Via.refl e0 (Sta.ext O0.2 S_COMPACT_STRINGS) (g := (mkF m 0 #[vr o0] [])) rfl (hb hby d125)
  obtain ⟨T3, X3, e3, st3⟩ := getF X2 hx hZ hown (host := "") (Or.inl (w30 hw)) Via.refl e2 F_o0_coder (g := (mkF m 7 #[vr o0] [(.ref o0)])) rfl rfl (hb hby d128)
  refine ⟨T3, _, some (.int 1), X3, (fun h => by cases h <;> rfl), ?_, fun fs hr => ?_⟩
  · show Q_r9_isLatin1 Z o0 i_1 h0 n0 _ T3.heap _
    rw [e3]
    exact ⟨rfl, N0, rfl⟩
  · refine st2 _ ?_
    refine t_ifNo 6 X2.here hx (hb hby d126) ((if0 _ _).trans (feq hp0).1) rfl ?_
    refine t_aloadN 7 X2.here hx (hb hby d127) rfl rfl rfl ?_
    refine st3 _ ?_
    refine t_ifNo 13 X3.here hx (hb hby d129) (by decide) rfl ?_
    refine t_iconst 14 (r := 1) X3.here hx (hb hby d130) (by decide) rfl ?_
    refine t_goto (pc := 14) 18 X3.here hx (hb hby d131) (by decide) (by decide) ?_
    exact retN X3 hx (t := .boolean) hret (by simp) (hb hby d132) hr
def w52 (hw : HW Z a0) := ow 52 hw rfl
theorem pd_8 : parseMethodDescriptor "()Z" = some ⟨[], some .boolean⟩ := by decide +kernel
def w49 (hw : HW Z a0) := ow 49 hw rfl
def w50 (hw : HW Z a0) := ow 50 hw rfl
theorem d133 : decode b12_ 4 = .ok (.ifCond .eq 19, 3) := by decide +kernel
theorem d134 : decode b12_ 7 = .ok (.aload_n 0, 1) := by decide +kernel
theorem d135 : decode b12_ 8 = .ok (.getfield 9, 3) := by decide +kernel
theorem d136 : decode b12_ 11 = .ok (.iload_n 1, 1) := by decide +kernel
theorem d137 : decode b12_ 12 = .ok (.iload_n 2, 1) := by decide +kernel
theorem d138 : decode b12_ 13 = .ok (.aload_n 0, 1) := by decide +kernel
theorem d139 : decode b12_ 14 = .ok (.invokevirtual 505, 3) := by decide +kernel
def w53 (hw : HW Z a0) := ow 53 hw rfl
def w56 (hw : HW Z a0) := ow 56 hw rfl
abbrev b14_ := jdk_42_method_54_code
theorem d140 : decode b14_ 0 = .ok (.aload_n 0, 1) := by decide +kernel
theorem d141 : decode b14_ 1 = .ok (.getfield 9, 3) := by decide +kernel
theorem d142 : decode b14_ 4 = .ok (.arraylength, 1) := by decide +kernel
theorem d143 : decode b14_ 5 = .ok (.aload_n 0, 1) := by decide +kernel
theorem d144 : decode b14_ 6 = .ok (.invokevirtual 335, 3) := by decide +kernel
def w58 (hw : HW Z a0) := ow 58 hw rfl
def w61 (hw : HW Z a0) := ow 61 hw rfl
abbrev b15_ := jdk_42_method_152_code
theorem d145 : decode b15_ 0 = .ok (.getstatic 38, 3) := by decide +kernel
theorem d146 : decode b15_ 3 = .ok (.ifCond .eq 10, 3) := by decide +kernel
theorem d147 : decode b15_ 6 = .ok (.aload_n 0, 1) := by decide +kernel
theorem d148 : decode b15_ 7 = .ok (.getfield 15, 3) := by decide +kernel
theorem d149 : decode b15_ 10 = .ok (.goto 4, 3) := by decide +kernel
theorem d150 : decode b15_ 14 = .ok (.ireturn, 1) := by decide +kernel
abbrev y11_coder : MethodName := ⟨"java/lang/String", "coder", "()B"⟩
def Q_r11_coder (Z : State) (o0 : Addr) (i_1 : Int32) (h0 : Heap) (n0 : Nat) (v : Option Value) (h : Heap) (L : List Loc) : Prop := v = some z0 ∧ Fr n0 L ∧ h = h0
theorem ef_r11_coder (o0 : Addr) (m : MethodId) : entryFrame m #[(.ref o0)] 1 = mkF m 0 #[.val (.ref o0)] [] := by first | (simp [entryFrame, mkF, argsToLocals, Value.category]; done) | rfl
set_option maxRecDepth 65536 in
set_option maxHeartbeats 40000000 in
theorem r11_coder (l : Launch) (Z : State) (a0 : Array Value) (hw : HW Z a0) (ws : List Jvm.Cond) (o0 : Addr) (i_1 : Int32) (h0 : Heap) (n0 : Nat) (Z0 : n0 ≤ h0.size) (S_COMPACT_STRINGS : SCS Z i_1) (O0 : Old Z n0 h0) (hp0 : ¬ (i_1 = (0 : Int32))) (F_o0_coder : Fd0 Z h0 o0 z0) :
    MF l Z y11_coder b15_ 1 (some .byte) ws ⟨0, 0, 0, 0⟩ #[(.ref o0)] h0 (Q_r11_coder Z o0 i_1 h0 n0) := by
  refine own_body (plainFor_of_name pn_String564) (ef_r11_coder o0) (by decide) (by decide) ?_
  intro p e s m below meth c s₁ hx hby hml hown hnm hret hZ hh e0 X0
  have N0 := Fr.nil n0
  obtain ⟨T2, X2, e2, st2⟩ := getS2 X0 hx hZ hown (host := "") (Or.inl (w18 hw)) Via.refl e0 (Sta.ext O0.2 S_COMPACT_STRINGS) (g := (mkF m 0 #[vr o0] [])) rfl (hb hby d145)
  obtain ⟨T3, X3, e3, st3⟩ := getF X2 hx hZ hown (host := "") (Or.inl (w30 hw)) Via.refl e2 F_o0_coder (g := (mkF m 7 #[vr o0] [(.ref o0)])) rfl rfl (hb hby d148)
  refine ⟨T3, _, some z0, X3, (fun h => by cases h <;> rfl), ?_, fun fs hr => ?_⟩
  · show Q_r11_coder Z o0 i_1 h0 n0 _ T3.heap _
    rw [e3]
    exact ⟨rfl, N0, rfl⟩
  · refine st2 _ ?_
    refine t_ifNo 6 X2.here hx (hb hby d146) ((if0 _ _).trans (feq hp0).1) rfl ?_
    refine t_aloadN 7 X2.here hx (hb hby d147) rfl rfl rfl ?_
    refine st3 _ ?_
    refine t_goto (pc := 10) 14 X3.here hx (hb hby d149) (by decide) (by decide) ?_
    exact retN X3 hx (t := .byte) hret (by simp) (hb hby d150) hr
def w62 (hw : HW Z a0) := ow 62 hw rfl
theorem pd_9 : parseMethodDescriptor "()B" = some ⟨[], some .byte⟩ := by decide +kernel
def w59 (hw : HW Z a0) := ow 59 hw rfl
def w60 (hw : HW Z a0) := ow 60 hw rfl
theorem d151 : decode b14_ 9 = .ok (.ishr, 1) := by decide +kernel
theorem d152 : decode b14_ 10 = .ok (.ireturn, 1) := by decide +kernel
abbrev y12_length : MethodName := ⟨"java/lang/String", "length", "()I"⟩
def Q_r10_length (Z : State) (o0 o_1 : Addr) (i_3 i_4 i_5 i_6 i_7 : Int32) (k_o_1 : ClassId) (i_8 : Int32) (h0 : Heap) (n0 : Nat) (v : Option Value) (h : Heap) (L : List Loc) : Prop := v = some (.int 5) ∧ Fr n0 L ∧ h = h0
theorem ef_r10_length (o0 : Addr) (m : MethodId) : entryFrame m #[(.ref o0)] 1 = mkF m 0 #[.val (.ref o0)] [] := by first | (simp [entryFrame, mkF, argsToLocals, Value.category]; done) | rfl
set_option maxRecDepth 65536 in
set_option maxHeartbeats 40000000 in
theorem r10_length (l : Launch) (Z : State) (a0 : Array Value) (hw : HW Z a0) (ws : List Jvm.Cond) (o0 o_1 : Addr) (i_3 i_4 i_5 i_6 i_7 : Int32) (k_o_1 : ClassId) (i_8 : Int32) (h0 : Heap) (n0 : Nat) (Z0 : n0 ≤ h0.size) (F_o0_value : Fd1 Z h0 o0 (.ref o_1)) (V_o_1 : Arv Z h0 o_1 k_o_1 .byte 5 [(.int i_3), (.int i_4), (.int i_5), (.int i_6), (.int i_7)] z0) (E_o0 : Ex0 Z h0 o0) (S_COMPACT_STRINGS : SCS Z i_8) (F_o0_coder : Fd0 Z h0 o0 z0) (O0 : Old Z n0 h0) (hp0 : ¬ (i_8 = (0 : Int32))) :
    MF l Z y12_length b14_ 1 (some .int) ws ⟨1, 0, 0, 13⟩ #[(.ref o0)] h0 (Q_r10_length Z o0 o_1 i_3 i_4 i_5 i_6 i_7 k_o_1 i_8 h0 n0) := by
  refine own_body (plainFor_of_name pn_String564) (ef_r10_length o0) (by decide) (by decide) ?_
  intro p e s m below meth c s₁ hx hby hml hown hnm hret hZ hh e0 X0
  have N0 := Fr.nil n0
  obtain ⟨T2, X2, e2, st2⟩ := getF X0 hx hZ hown (host := "") (Or.inl (w32 hw)) Via.refl e0 F_o0_value (g := (mkF m 1 #[vr o0] [(.ref o0)])) rfl rfl (hb hby d141)
  obtain ⟨_, T9, L9, X9, hQ9, st9⟩ := own_virtual X2 hx hZ hown (w58 hw) (w59 hw) (notFace_of_selects (args := #[]) (mvT hZ (w61 hw))) (w61 hw) (w60 hw) (w7 hw) (w62 hw) (by decide) (r11_coder l Z a0 hw [] o0 i_8 h0 n0 Z0 S_COMPACT_STRINGS O0 hp0 F_o0_coder) e2 E_o0 (W := 1) (by decide) (g := (mkF m 6 #[vr o0] [(.ref o0), (.int 5)])) rfl (by rw [hml]; rfl) (argsL := []) (rest := [(.int 5)]) (lenOf pd_9 rfl) rfl rfl (own_wr rfl rfl) (hb hby d144)
  obtain ⟨rfl, N9q, e9⟩ := hQ9
  have N9 := Fr.app N0 N9q
  refine ⟨T9, _, some (.int 5), X9, (fun h => by cases h <;> rfl), ?_, fun fs hr => ?_⟩
  · show Q_r10_length Z o0 o_1 i_3 i_4 i_5 i_6 i_7 k_o_1 i_8 h0 n0 _ T9.heap _
    rw [e9]
    exact ⟨rfl, N9, rfl⟩
  · refine t_aloadN 1 X0.here hx (hb hby d140) rfl rfl rfl ?_
    refine st2 _ ?_
    refine own_arlen (pc' := 5) X2 hx hZ e2 V_o_1 (hb hby d142) rfl ?_
    refine t_aloadN 6 X2.here hx (hb hby d143) rfl rfl rfl ?_
    refine st9 _ ?_
    refine t_ishr 10 (r := 5) X9.here hx (hb hby d151) (by decide : ((5 : Int32) >>> ((0 : Int32) &&& 31)) = (5 : Int32)) rfl ?_
    exact retI X9 hx hret (hb hby d152) hr
def w57 (hw : HW Z a0) := ow 57 hw rfl
theorem pd_10 : parseMethodDescriptor "()I" = some ⟨[], some .int⟩ := by decide +kernel
def w54 (hw : HW Z a0) := ow 54 hw rfl
def w55 (hw : HW Z a0) := ow 55 hw rfl
theorem d153 : decode b12_ 17 = .ok (.invokestatic 637, 3) := by decide +kernel
def w63 (hw : HW Z a0) := ow 63 hw rfl
abbrev b16_ := jdk_43_method_22_code
theorem d154 : decode b16_ 0 = .ok (.iload_n 1, 1) := by decide +kernel
theorem d155 : decode b16_ 1 = .ok (.invokestatic 88, 3) := by decide +kernel
def w67 (hw : HW Z a0) := ow 67 hw rfl
abbrev b17_ := jdk_43_method_4_code
theorem d156 : decode b17_ 0 = .ok (.iload_n 0, 1) := by decide +kernel
theorem d157 : decode b17_ 1 = .ok (.ifCond .lt 14, 3) := by decide +kernel
theorem d158 : decode b17_ 4 = .ok (.iload_n 0, 1) := by decide +kernel
theorem d159 : decode b17_ 5 = .ok (.sipush 255, 3) := by decide +kernel
theorem d160 : decode b17_ 8 = .ok (.if_icmp .gt 7, 3) := by decide +kernel
theorem d161 : decode b17_ 11 = .ok (.iconst 1, 1) := by decide +kernel
theorem d162 : decode b17_ 12 = .ok (.goto 4, 3) := by decide +kernel
theorem d163 : decode b17_ 16 = .ok (.ireturn, 1) := by decide +kernel
theorem pn_StringLatin1120 : plainName "java/lang/StringLatin1" = true := by first | (simp [plainName, overriddenIn]; done) | decide +kernel
abbrev y13_canEncode : MethodName := ⟨"java/lang/StringLatin1", "canEncode", "(I)Z"⟩
def Q_r13_canEncode (Z : State)  (h0 : Heap) (n0 : Nat) (v : Option Value) (h : Heap) (L : List Loc) : Prop := v = some (.int 1) ∧ Fr n0 L ∧ h = h0
theorem ef_r13_canEncode (m : MethodId) : entryFrame m #[(.int 58)] 1 = mkF m 0 #[.val (.int 58)] [] := by first | (simp [entryFrame, mkF, argsToLocals, Value.category]; done) | rfl
set_option maxRecDepth 65536 in
set_option maxHeartbeats 40000000 in
theorem r13_canEncode (l : Launch) (Z : State) (a0 : Array Value) (hw : HW Z a0) (ws : List Jvm.Cond)  (h0 : Heap) (n0 : Nat) (Z0 : n0 ≤ h0.size) :
    MF l Z y13_canEncode b17_ 1 (some .boolean) ws ⟨0, 0, 0, 0⟩ #[(.int 58)] h0 (Q_r13_canEncode Z  h0 n0) := by
  refine own_body (plainFor_of_name pn_StringLatin1120) (ef_r13_canEncode) (by decide) (by decide) ?_
  intro p e s m below meth c s₁ hx hby hml hown hnm hret hZ hh e0 X0
  have N0 := Fr.nil n0
  refine ⟨s₁, _, some (.int 1), X0, (fun h => by cases h <;> rfl), ?_, fun fs hr => ?_⟩
  · show Q_r13_canEncode Z  h0 n0 _ s₁.heap _
    rw [e0]
    exact ⟨rfl, N0, rfl⟩
  · refine t_iloadN 1 X0.here hx (hb hby d156) rfl rfl ?_
    refine t_ifNo 4 X0.here hx (hb hby d157) (by decide) rfl ?_
    refine t_iloadN 5 X0.here hx (hb hby d158) rfl rfl ?_
    refine t_sipush 8 (r := 255) X0.here hx (hb hby d159) (by decide) rfl ?_
    refine t_icmpNo 11 X0.here hx (hb hby d160) (by decide) rfl ?_
    refine t_iconst 12 (r := 1) X0.here hx (hb hby d161) (by decide) rfl ?_
    refine t_goto (pc := 12) 16 X0.here hx (hb hby d162) (by decide) (by decide) ?_
    exact retN X0 hx (t := .boolean) hret (by simp) (hb hby d163) hr
def w69 (hw : HW Z a0) := ow 69 hw rfl
def w65 (hw : HW Z a0) := ow 65 hw rfl
theorem pd_11 : parseMethodDescriptor "(I)Z" = some ⟨[.int], some .boolean⟩ := by decide +kernel
def w68 (hw : HW Z a0) := ow 68 hw rfl
theorem d164 : decode b16_ 4 = .ok (.ifCond .ne 5, 3) := by decide +kernel
theorem d165 : decode b16_ 9 = .ok (.iload_n 2, 1) := by decide +kernel
theorem d166 : decode b16_ 10 = .ok (.iconst 0, 1) := by decide +kernel
theorem d167 : decode b16_ 11 = .ok (.invokestatic 92, 3) := by decide +kernel
def w70 (hw : HW Z a0) := ow 70 hw rfl
abbrev b18_ := jdk_29_method_65_code
theorem d168 : decode b18_ 0 = .ok (.iload_n 0, 1) := by decide +kernel
theorem d169 : decode b18_ 1 = .ok (.iload_n 1, 1) := by decide +kernel
theorem d170 : decode b18_ 2 = .ok (.if_icmp .lt 7, 3) := by decide +kernel
theorem d171 : decode b18_ 5 = .ok (.iload_n 0, 1) := by decide +kernel
theorem d172 : decode b18_ 6 = .ok (.goto 4, 3) := by decide +kernel
theorem d173 : decode b18_ 10 = .ok (.ireturn, 1) := by decide +kernel
abbrev y14_max : MethodName := ⟨"java/lang/Math", "max", "(II)I"⟩
def Q_r14_max (Z : State)  (h0 : Heap) (n0 : Nat) (v : Option Value) (h : Heap) (L : List Loc) : Prop := v = some z0 ∧ Fr n0 L ∧ h = h0
theorem ef_r14_max (m : MethodId) : entryFrame m #[(.int 0), (.int 0)] 2 = mkF m 0 #[.val (.int 0), .val (.int 0)] [] := by first | (simp [entryFrame, mkF, argsToLocals, Value.category]; done) | rfl
set_option maxRecDepth 65536 in
set_option maxHeartbeats 40000000 in
theorem r14_max (l : Launch) (Z : State) (a0 : Array Value) (hw : HW Z a0) (ws : List Jvm.Cond)  (h0 : Heap) (n0 : Nat) (Z0 : n0 ≤ h0.size) :
    MF l Z y14_max b18_ 2 (some .int) ws ⟨0, 0, 0, 0⟩ #[z0, z0] h0 (Q_r14_max Z  h0 n0) := by
  refine own_body (Jvm.Free.JP.mathPlain rfl (by decide +kernel)) (ef_r14_max) (by decide) (by decide) ?_
  intro p e s m below meth c s₁ hx hby hml hown hnm hret hZ hh e0 X0
  have N0 := Fr.nil n0
  refine ⟨s₁, _, some z0, X0, (fun h => by cases h <;> rfl), ?_, fun fs hr => ?_⟩
  · show Q_r14_max Z  h0 n0 _ s₁.heap _
    rw [e0]
    exact ⟨rfl, N0, rfl⟩
  · refine t_iloadN 1 X0.here hx (hb hby d168) rfl rfl ?_
    refine t_iloadN 2 X0.here hx (hb hby d169) rfl rfl ?_
    refine t_icmpNo 5 X0.here hx (hb hby d170) (by decide) rfl ?_
    refine t_iloadN 6 X0.here hx (hb hby d171) rfl rfl ?_
    refine t_goto (pc := 6) 10 X0.here hx (hb hby d172) (by decide) (by decide) ?_
    exact retI X0 hx hret (hb hby d173) hr
def w73 (hw : HW Z a0) := ow 73 hw rfl
def w72 (hw : HW Z a0) := ow 72 hw rfl
theorem pd_12 : parseMethodDescriptor "(II)I" = some ⟨[.int, .int], some .int⟩ := by decide +kernel
def w71 (hw : HW Z a0) := ow 71 hw rfl
theorem d174 : decode b16_ 14 = .ok (.istore_n 2, 1) := by decide +kernel
theorem d175 : decode b16_ 15 = .ok (.iload_n 3, 1) := by decide +kernel
theorem d176 : decode b16_ 16 = .ok (.aload_n 0, 1) := by decide +kernel
theorem d177 : decode b16_ 17 = .ok (.arraylength, 1) := by decide +kernel
theorem d178 : decode b16_ 18 = .ok (.invokestatic 38, 3) := by decide +kernel
def w74 (hw : HW Z a0) := ow 74 hw rfl
abbrev b19_ := jdk_29_method_69_code
theorem d179 : decode b19_ 0 = .ok (.iload_n 0, 1) := by decide +kernel
theorem d180 : decode b19_ 1 = .ok (.iload_n 1, 1) := by decide +kernel
theorem d181 : decode b19_ 2 = .ok (.if_icmp .gt 7, 3) := by decide +kernel
theorem d182 : decode b19_ 5 = .ok (.iload_n 0, 1) := by decide +kernel
theorem d183 : decode b19_ 6 = .ok (.goto 4, 3) := by decide +kernel
theorem d184 : decode b19_ 10 = .ok (.ireturn, 1) := by decide +kernel
abbrev y15_min : MethodName := ⟨"java/lang/Math", "min", "(II)I"⟩
def Q_r15_min (Z : State)  (h0 : Heap) (n0 : Nat) (v : Option Value) (h : Heap) (L : List Loc) : Prop := v = some (.int 5) ∧ Fr n0 L ∧ h = h0
theorem ef_r15_min (m : MethodId) : entryFrame m #[(.int 5), (.int 5)] 2 = mkF m 0 #[.val (.int 5), .val (.int 5)] [] := by first | (simp [entryFrame, mkF, argsToLocals, Value.category]; done) | rfl
set_option maxRecDepth 65536 in
set_option maxHeartbeats 40000000 in
theorem r15_min (l : Launch) (Z : State) (a0 : Array Value) (hw : HW Z a0) (ws : List Jvm.Cond)  (h0 : Heap) (n0 : Nat) (Z0 : n0 ≤ h0.size) :
    MF l Z y15_min b19_ 2 (some .int) ws ⟨0, 0, 0, 0⟩ #[(.int 5), (.int 5)] h0 (Q_r15_min Z  h0 n0) := by
  refine own_body (Jvm.Free.JP.mathPlain rfl (by decide +kernel)) (ef_r15_min) (by decide) (by decide) ?_
  intro p e s m below meth c s₁ hx hby hml hown hnm hret hZ hh e0 X0
  have N0 := Fr.nil n0
  refine ⟨s₁, _, some (.int 5), X0, (fun h => by cases h <;> rfl), ?_, fun fs hr => ?_⟩
  · show Q_r15_min Z  h0 n0 _ s₁.heap _
    rw [e0]
    exact ⟨rfl, N0, rfl⟩
  · refine t_iloadN 1 X0.here hx (hb hby d179) rfl rfl ?_
    refine t_iloadN 2 X0.here hx (hb hby d180) rfl rfl ?_
    refine t_icmpNo 5 X0.here hx (hb hby d181) (by decide) rfl ?_
    refine t_iloadN 6 X0.here hx (hb hby d182) rfl rfl ?_
    refine t_goto (pc := 6) 10 X0.here hx (hb hby d183) (by decide) (by decide) ?_
    exact retI X0 hx hret (hb hby d184) hr
def w76 (hw : HW Z a0) := ow 76 hw rfl
def w75 (hw : HW Z a0) := ow 75 hw rfl
theorem d185 : decode b16_ 21 = .ok (.istore_n 3, 1) := by decide +kernel
theorem d186 : decode b16_ 22 = .ok (.iload_n 2, 1) := by decide +kernel
theorem d187 : decode b16_ 23 = .ok (.iload_n 3, 1) := by decide +kernel
theorem d188 : decode b16_ 24 = .ok (.if_icmp .lt 5, 3) := by decide +kernel
theorem d189 : decode b16_ 29 = .ok (.aload_n 0, 1) := by decide +kernel
theorem d190 : decode b16_ 30 = .ok (.iload_n 1, 1) := by decide +kernel
theorem d191 : decode b16_ 31 = .ok (.iload_n 2, 1) := by decide +kernel
theorem d192 : decode b16_ 32 = .ok (.iload_n 3, 1) := by decide +kernel
theorem d193 : decode b16_ 33 = .ok (.invokestatic 95, 3) := by decide +kernel
def w77 (hw : HW Z a0) := ow 77 hw rfl
abbrev b20_ := jdk_43_method_23_code
theorem d194 : decode b20_ 0 = .ok (.iload_n 1, 1) := by decide +kernel
theorem d195 : decode b20_ 1 = .ok (.i2b, 1) := by decide +kernel
theorem d196 : decode b20_ 2 = .ok (.istore 4, 2) := by decide +kernel
theorem d197 : decode b20_ 4 = .ok (.iload_n 2, 1) := by decide +kernel
theorem d198 : decode b20_ 5 = .ok (.istore 5, 2) := by decide +kernel
theorem d199 : decode b20_ 7 = .ok (.iload 5, 2) := by decide +kernel
theorem d200 : decode b20_ 9 = .ok (.iload_n 3, 1) := by decide +kernel
theorem d201 : decode b20_ 10 = .ok (.if_icmp .ge 21, 3) := by decide +kernel
theorem d202 : decode b20_ 13 = .ok (.aload_n 0, 1) := by decide +kernel
theorem d203 : decode b20_ 14 = .ok (.iload 5, 2) := by decide +kernel
theorem d204 : decode b20_ 16 = .ok (.baload, 1) := by decide +kernel
theorem d205 : decode b20_ 17 = .ok (.iload 4, 2) := by decide +kernel
theorem d206 : decode b20_ 19 = .ok (.if_icmp .ne 6, 3) := by decide +kernel
theorem d207 : decode b20_ 25 = .ok (.iinc 5 1, 3) := by decide +kernel
theorem d208 : decode b20_ 28 = .ok (.goto (-21), 3) := by decide +kernel
theorem d209 : decode b20_ 22 = .ok (.iload 5, 2) := by decide +kernel
theorem d210 : decode b20_ 24 = .ok (.ireturn, 1) := by decide +kernel
abbrev y16_indexOfChar : MethodName := ⟨"java/lang/StringLatin1", "indexOfChar", "([BIII)I"⟩
def Q_r16_indexOfChar (Z : State) (o0 : Addr) (i_1 i_2 i_3 i_4 i_5 : Int32) (k_o0 : ClassId) (h0 : Heap) (n0 : Nat) (v : Option Value) (h : Heap) (L : List Loc) : Prop := v = some (.int 1) ∧ Fr n0 L ∧ h = h0
theorem ef_r16_indexOfChar (o0 : Addr) (m : MethodId) : entryFrame m #[(.ref o0), (.int 58), (.int 0), (.int 5)] 6 = mkF m 0 #[.val (.ref o0), .val (.int 58), .val (.int 0), .val (.int 5), .unset, .unset] [] := by first | (simp [entryFrame, mkF, argsToLocals, Value.category]; done) | rfl
set_option maxRecDepth 65536 in
set_option maxHeartbeats 40000000 in
theorem r16_indexOfChar (l : Launch) (Z : State) (a0 : Array Value) (hw : HW Z a0) (ws : List Jvm.Cond) (o0 : Addr) (i_1 i_2 i_3 i_4 i_5 : Int32) (k_o0 : ClassId) (h0 : Heap) (n0 : Nat) (Z0 : n0 ≤ h0.size) (V_o0 : Arv Z h0 o0 k_o0 .byte 5 [(.int i_1), (.int i_2), (.int i_3), (.int i_4), (.int i_5)] z0) (hp0 : ¬ (i_1 = (58 : Int32))) (hp1 : i_2 = (58 : Int32)) :
    MF l Z y16_indexOfChar b20_ 6 (some .int) ws ⟨0, 0, 0, 0⟩ #[(.ref o0), (.int 58), z0, (.int 5)] h0 (Q_r16_indexOfChar Z o0 i_1 i_2 i_3 i_4 i_5 k_o0 h0 n0) := by
  refine own_body (plainFor_of_name pn_StringLatin1120) (ef_r16_indexOfChar o0) (by decide) (by decide) ?_
  intro p e s m below meth c s₁ hx hby hml hown hnm hret hZ hh e0 X0
  have N0 := Fr.nil n0
  refine ⟨s₁, _, some (.int 1), X0, (fun h => by cases h <;> rfl), ?_, fun fs hr => ?_⟩
  · show Q_r16_indexOfChar Z o0 i_1 i_2 i_3 i_4 i_5 k_o0 h0 n0 _ s₁.heap _
    rw [e0]
    exact ⟨rfl, N0, rfl⟩
  · refine t_iloadN 1 X0.here hx (hb hby d194) rfl rfl ?_
    refine t_i2b 2 (r := 58) X0.here hx (hb hby d195) (by decide : ((58 : Int32).toInt8.toInt32) = (58 : Int32)) rfl ?_
    refine t_istore (pc' := 4) (L' := #[vr o0, vi 58, vi 0, vi 5, vi 58, .unset]) X0.here hx (hb hby d196) rfl rfl ?_
    refine t_iloadN 5 X0.here hx (hb hby d197) rfl rfl ?_
    refine t_istore (pc' := 7) (L' := #[vr o0, vi 58, vi 0, vi 5, vi 58, vi 0]) X0.here hx (hb hby d198) rfl rfl ?_
    refine t_iload 9 X0.here hx (hb hby d199) rfl rfl ?_
    refine t_iloadN 10 X0.here hx (hb hby d200) rfl rfl ?_
    refine t_icmpNo 13 X0.here hx (hb hby d201) (by decide) rfl ?_
    refine t_aloadN 14 X0.here hx (hb hby d202) rfl rfl rfl ?_
    refine t_iload 16 X0.here hx (hb hby d203) rfl rfl ?_
    refine own_aldB (pc' := 17) X0 hx hZ e0 V_o0 (j := 0) (v := (.int i_1)) (by decide) rfl (hb hby d204) rfl ?_
    refine t_iload 19 X0.here hx (hb hby d205) rfl rfl ?_
    refine t_icmpYes (pc := 19) 25 X0.here hx (hb hby d206) (feq hp0).2 (by decide) (by decide) ?_
    refine t_iinc (pc' := 28) (L' := #[vr o0, vi 58, vi 0, vi 5, vi 58, vi 1]) X0.here hx (hb hby d207) rfl (by first | rfl | decide) rfl ?_
    refine t_goto (pc := 28) 7 X0.here hx (hb hby d208) (by decide) (by decide) ?_
    refine t_iload 9 X0.here hx (hb hby d199) rfl rfl ?_
    refine t_iloadN 10 X0.here hx (hb hby d200) rfl rfl ?_
    refine t_icmpNo 13 X0.here hx (hb hby d201) (by decide) rfl ?_
    refine t_aloadN 14 X0.here hx (hb hby d202) rfl rfl rfl ?_
    refine t_iload 16 X0.here hx (hb hby d203) rfl rfl ?_
    refine own_aldB (pc' := 17) X0 hx hZ e0 V_o0 (j := 1) (v := (.int i_2)) (by decide) rfl (hb hby d204) rfl ?_
    refine t_iload 19 X0.here hx (hb hby d205) rfl rfl ?_
    refine t_icmpNo 22 X0.here hx (hb hby d206) (teq hp1).2 rfl ?_
    refine t_iload 24 X0.here hx (hb hby d209) rfl rfl ?_
    exact retI X0 hx hret (hb hby d210) hr
def w79 (hw : HW Z a0) := ow 79 hw rfl
theorem pd_13 : parseMethodDescriptor "([BIII)I" = some ⟨[(.array .byte), .int, .int, .int], some .int⟩ := by decide +kernel
def w78 (hw : HW Z a0) := ow 78 hw rfl
theorem d211 : decode b16_ 36 = .ok (.ireturn, 1) := by decide +kernel
abbrev y17_indexOf : MethodName := ⟨"java/lang/StringLatin1", "indexOf", "([BIII)I"⟩
def Q_r12_indexOf (Z : State) (o0 : Addr) (i_3 i_4 i_5 i_6 i_7 : Int32) (k_o0 : ClassId) (h0 : Heap) (n0 : Nat) (v : Option Value) (h : Heap) (L : List Loc) : Prop := v = some (.int 1) ∧ Fr n0 L ∧ h = h0
theorem ef_r12_indexOf (o0 : Addr) (m : MethodId) : entryFrame m #[(.ref o0), (.int 58), (.int 0), (.int 5)] 4 = mkF m 0 #[.val (.ref o0), .val (.int 58), .val (.int 0), .val (.int 5)] [] := by first | (simp [entryFrame, mkF, argsToLocals, Value.category]; done) | rfl
set_option maxRecDepth 65536 in
set_option maxHeartbeats 40000000 in
theorem r12_indexOf (l : Launch) (Z : State) (a0 : Array Value) (hw : HW Z a0) (ws : List Jvm.Cond) (o0 : Addr) (i_3 i_4 i_5 i_6 i_7 : Int32) (k_o0 : ClassId) (h0 : Heap) (n0 : Nat) (Z0 : n0 ≤ h0.size) (V_o0 : Arv Z h0 o0 k_o0 .byte 5 [(.int i_3), (.int i_4), (.int i_5), (.int i_6), (.int i_7)] z0) (hp0 : ¬ (i_3 = (58 : Int32))) (hp1 : i_4 = (58 : Int32)) :
    MF l Z y17_indexOf b16_ 4 (some .int) ws ⟨1, 0, 0, 17⟩ #[(.ref o0), (.int 58), z0, (.int 5)] h0 (Q_r12_indexOf Z o0 i_3 i_4 i_5 i_6 i_7 k_o0 h0 n0) := by
  refine own_body (plainFor_of_name pn_StringLatin1120) (ef_r12_indexOf o0) (by decide) (by decide) ?_
  intro p e s m below meth c s₁ hx hby hml hown hnm hret hZ hh e0 X0
  have N0 := Fr.nil n0
  obtain ⟨_, T1, L1, X1, hQ1, st1⟩ := own_static X0 hx hZ hown (w67 hw) (w68 hw) (w65 hw) (w69 hw) (by decide) (r13_canEncode l Z a0 hw []  h0 n0 Z0) e0 (W := 0) (by decide) (g := (mkF m 1 #[vr o0, vi 58, vi 0, vi 5] [(.int 58)])) rfl (by rw [hml]; rfl) (argsL := [(.int 58)]) (rest := []) (lenOf pd_11 rfl) rfl rfl (own_wr rfl rfl) (hb hby d155)
  obtain ⟨rfl, N1q, e1⟩ := hQ1
  have N1 := Fr.app N0 N1q
  obtain ⟨_, T2, L2, X2, hQ2, st2⟩ := own_static X1 hx hZ hown (w70 hw) (w71 hw) (w72 hw) (w73 hw) (by decide) (r14_max l Z a0 hw []  h0 n0 Z0) e1 (W := 0) (by decide) (g := (mkF m 11 #[vr o0, vi 58, vi 0, vi 5] [z0, z0])) rfl (by rw [hml]; rfl) (argsL := [z0, z0]) (rest := []) (lenOf pd_12 rfl) rfl rfl (own_wr rfl rfl) (hb hby d167)
  obtain ⟨rfl, N2q, e2⟩ := hQ2
  have N2 := Fr.app N1 N2q
  obtain ⟨_, T8, L8, X8, hQ8, st8⟩ := own_static X2 hx hZ hown (w74 hw) (w75 hw) (w72 hw) (w76 hw) (by decide) (r15_min l Z a0 hw []  h0 n0 Z0) e2 (W := 0) (by decide) (g := (mkF m 18 #[vr o0, vi 58, vi 0, vi 5] [(.int 5), (.int 5)])) rfl (by rw [hml]; rfl) (argsL := [(.int 5), (.int 5)]) (rest := []) (lenOf pd_12 rfl) rfl rfl (own_wr rfl rfl) (hb hby d178)
  obtain ⟨rfl, N8q, e8⟩ := hQ8
  have N8 := Fr.app N2 N8q
  obtain ⟨_, T9, L9, X9, hQ9, st9⟩ := own_static X8 hx hZ hown (w77 hw) (w78 hw) (w65 hw) (w79 hw) (by decide) (r16_indexOfChar l Z a0 hw [] o0 i_3 i_4 i_5 i_6 i_7 k_o0 h0 n0 Z0 V_o0 hp0 hp1) e8 (W := 0) (by decide) (g := (mkF m 33 #[vr o0, vi 58, vi 0, vi 5] [(.int 5), z0, (.int 58), (.ref o0)])) rfl (by rw [hml]; rfl) (argsL := [(.ref o0), (.int 58), z0, (.int 5)]) (rest := []) (lenOf pd_13 rfl) rfl rfl (own_wr rfl rfl) (hb hby d193)
  obtain ⟨rfl, N9q, e9⟩ := hQ9
  have N9 := Fr.app N8 N9q
  refine ⟨T9, _, some (.int 1), X9, (fun h => by cases h <;> rfl), ?_, fun fs hr => ?_⟩
  · show Q_r12_indexOf Z o0 i_3 i_4 i_5 i_6 i_7 k_o0 h0 n0 _ T9.heap _
    rw [e9]
    exact ⟨rfl, N9, rfl⟩
  · refine t_iloadN 1 X0.here hx (hb hby d154) rfl rfl ?_
    refine st1 _ ?_
    refine t_ifYes (pc := 4) 9 X1.here hx (hb hby d164) (by decide) (by decide) (by decide) ?_
    refine t_iloadN 10 X1.here hx (hb hby d165) rfl rfl ?_
    refine t_iconst 11 (r := 0) X1.here hx (hb hby d166) (by decide) rfl ?_
    refine st2 _ ?_
    refine t_istoreN (pc' := 15) (L' := #[vr o0, vi 58, vi 0, vi 5]) X2.here hx (hb hby d174) rfl rfl ?_
    refine t_iloadN 16 X2.here hx (hb hby d175) rfl rfl ?_
    refine t_aloadN 17 X2.here hx (hb hby d176) rfl rfl rfl ?_
    refine own_arlen (pc' := 18) X2 hx hZ e2 V_o0 (hb hby d177) rfl ?_
    refine st8 _ ?_
    refine t_istoreN (pc' := 22) (L' := #[vr o0, vi 58, vi 0, vi 5]) X8.here hx (hb hby d185) rfl rfl ?_
    refine t_iloadN 23 X8.here hx (hb hby d186) rfl rfl ?_
    refine t_iloadN 24 X8.here hx (hb hby d187) rfl rfl ?_
    refine t_icmpYes (pc := 24) 29 X8.here hx (hb hby d188) (by decide) (by decide) (by decide) ?_
    refine t_aloadN 30 X8.here hx (hb hby d189) rfl rfl rfl ?_
    refine t_iloadN 31 X8.here hx (hb hby d190) rfl rfl ?_
    refine t_iloadN 32 X8.here hx (hb hby d191) rfl rfl ?_
    refine t_iloadN 33 X8.here hx (hb hby d192) rfl rfl ?_
    refine st9 _ ?_
    exact retI X9 hx hret (hb hby d211) hr
def w66 (hw : HW Z a0) := ow 66 hw rfl
def w64 (hw : HW Z a0) := ow 64 hw rfl
theorem d212 : decode b12_ 20 = .ok (.goto 16, 3) := by decide +kernel
theorem d213 : decode b12_ 36 = .ok (.ireturn, 1) := by decide +kernel
abbrev y18_indexOf : MethodName := ⟨"java/lang/String", "indexOf", "(II)I"⟩
def Q_r8_indexOf (Z : State) (o0 : Addr) (i_1 : Int32) (o_3 : Addr) (i_5 i_6 i_7 i_8 i_9 : Int32) (k_o_3 : ClassId) (h0 : Heap) (n0 : Nat) (v : Option Value) (h : Heap) (L : List Loc) : Prop := v = some (.int 1) ∧ Fr n0 L ∧ h = h0
theorem ef_r8_indexOf (o0 : Addr) (m : MethodId) : entryFrame m #[(.ref o0), (.int 58), (.int 0)] 3 = mkF m 0 #[.val (.ref o0), .val (.int 58), .val (.int 0)] [] := by first | (simp [entryFrame, mkF, argsToLocals, Value.category]; done) | rfl
set_option maxRecDepth 65536 in
set_option maxHeartbeats 40000000 in
theorem r8_indexOf (l : Launch) (Z : State) (a0 : Array Value) (hw : HW Z a0) (ws : List Jvm.Cond) (o0 : Addr) (i_1 : Int32) (o_3 : Addr) (i_5 i_6 i_7 i_8 i_9 : Int32) (k_o_3 : ClassId) (h0 : Heap) (n0 : Nat) (Z0 : n0 ≤ h0.size) (E_o0 : Ex0 Z h0 o0) (S_COMPACT_STRINGS : SCS Z i_1) (F_o0_coder : Fd0 Z h0 o0 z0) (O0 : Old Z n0 h0) (hp0 : ¬ (i_1 = (0 : Int32))) (F_o0_value : Fd1 Z h0 o0 (.ref o_3)) (V_o_3 : Arv Z h0 o_3 k_o_3 .byte 5 [(.int i_5), (.int i_6), (.int i_7), (.int i_8), (.int i_9)] z0) (hp1 : ¬ (i_5 = (58 : Int32))) (hp2 : i_6 = (58 : Int32)) :
    MF l Z y18_indexOf b12_ 3 (some .int) ws ⟨2, 0, 0, 32⟩ #[(.ref o0), (.int 58), z0] h0 (Q_r8_indexOf Z o0 i_1 o_3 i_5 i_6 i_7 i_8 i_9 k_o_3 h0 n0) := by
  refine own_body (plainFor_of_name pn_String564) (ef_r8_indexOf o0) (by decide) (by decide) ?_
  intro p e s m below meth c s₁ hx hby hml hown hnm hret hZ hh e0 X0
  have N0 := Fr.nil n0
  obtain ⟨_, T2, L2, X2, hQ2, st2⟩ := own_virtual X0 hx hZ hown (w48 hw) (w49 hw) (notFace_of_selects (args := #[]) (mvT hZ (w51 hw))) (w51 hw) (w50 hw) (w7 hw) (w52 hw) (by decide) (r9_isLatin1 l Z a0 hw [] o0 i_1 h0 n0 Z0 S_COMPACT_STRINGS O0 hp0 F_o0_coder) e0 E_o0 (W := 0) (by decide) (g := (mkF m 1 #[vr o0, vi 58, vi 0] [(.ref o0)])) rfl (by rw [hml]; rfl) (argsL := []) (rest := []) (lenOf pd_8 rfl) rfl rfl (own_wr rfl rfl) (hb hby d124)
  obtain ⟨rfl, N2q, e2⟩ := hQ2
  have N2 := Fr.app N0 N2q
  obtain ⟨T4, X4, e4, st4⟩ := getF X2 hx hZ hown (host := "") (Or.inl (w32 hw)) Via.refl e2 F_o0_value (g := (mkF m 8 #[vr o0, vi 58, vi 0] [(.ref o0)])) rfl rfl (hb hby d135)
  obtain ⟨_, T10, L10, X10, hQ10, st10⟩ := own_virtual X4 hx hZ hown (w53 hw) (w54 hw) (notFace_of_selects (args := #[]) (mvT hZ (w56 hw))) (w56 hw) (w55 hw) (w7 hw) (w57 hw) (by decide) (r10_length l Z a0 hw [] o0 o_3 i_5 i_6 i_7 i_8 i_9 k_o_3 i_1 h0 n0 Z0 F_o0_value V_o_3 E_o0 S_COMPACT_STRINGS F_o0_coder O0 hp0) e4 E_o0 (W := 3) (by decide) (g := (mkF m 14 #[vr o0, vi 58, vi 0] [(.ref o0), z0, (.int 58), (.ref o_3)])) rfl (by rw [hml]; rfl) (argsL := []) (rest := [z0, (.int 58), (.ref o_3)]) (lenOf pd_10 rfl) rfl rfl (own_wr rfl rfl) (hb hby d139)
  obtain ⟨rfl, N10q, e10⟩ := hQ10
  have N10 := Fr.app N2 N10q
  obtain ⟨_, T11, L11, X11, hQ11, st11⟩ := own_static X10 hx hZ hown (w63 hw) (w64 hw) (w65 hw) (w66 hw) (by decide) (r12_indexOf l Z a0 hw [] o_3 i_5 i_6 i_7 i_8 i_9 k_o_3 h0 n0 Z0 V_o_3 hp1 hp2) e10 (W := 0) (by decide) (g := (mkF m 17 #[vr o0, vi 58, vi 0] [(.int 5), z0, (.int 58), (.ref o_3)])) rfl (by rw [hml]; rfl) (argsL := [(.ref o_3), (.int 58), z0, (.int 5)]) (rest := []) (lenOf pd_13 rfl) rfl rfl (own_wr rfl rfl) (hb hby d153)
  obtain ⟨rfl, N11q, e11⟩ := hQ11
  have N11 := Fr.app N10 N11q
  refine ⟨T11, _, some (.int 1), X11, (fun h => by cases h <;> rfl), ?_, fun fs hr => ?_⟩
  · show Q_r8_indexOf Z o0 i_1 o_3 i_5 i_6 i_7 i_8 i_9 k_o_3 h0 n0 _ T11.heap _
    rw [e11]
    exact ⟨rfl, N11, rfl⟩
  · refine t_aloadN 1 X0.here hx (hb hby d123) rfl rfl rfl ?_
    refine st2 _ ?_
    refine t_ifNo 7 X2.here hx (hb hby d133) (by decide) rfl ?_
    refine t_aloadN 8 X2.here hx (hb hby d134) rfl rfl rfl ?_
    refine st4 _ ?_
    refine t_iloadN 12 X4.here hx (hb hby d136) rfl rfl ?_
    refine t_iloadN 13 X4.here hx (hb hby d137) rfl rfl ?_
    refine t_aloadN 14 X4.here hx (hb hby d138) rfl rfl rfl ?_
    refine st10 _ ?_
    refine st11 _ ?_
    refine t_goto (pc := 20) 36 X11.here hx (hb hby d212) (by decide) (by decide) ?_
    exact retI X11 hx hret (hb hby d213) hr
def w47 (hw : HW Z a0) := ow 47 hw rfl
def w44 (hw : HW Z a0) := ow 44 hw rfl
def w45 (hw : HW Z a0) := ow 45 hw rfl
theorem d214 : decode b11_ 6 = .ok (.ireturn, 1) := by decide +kernel
abbrev y19_indexOf : MethodName := ⟨"java/lang/String", "indexOf", "(I)I"⟩
def Q_r7_indexOf (Z : State) (o0 : Addr) (i_1 : Int32) (o_2 : Addr) (i_3 i_4 i_5 i_6 i_7 : Int32) (k_o_2 : ClassId) (h0 : Heap) (n0 : Nat) (v : Option Value) (h : Heap) (L : List Loc) : Prop := v = some (.int 1) ∧ Fr n0 L ∧ h = h0
theorem ef_r7_indexOf (o0 : Addr) (m : MethodId) : entryFrame m #[(.ref o0), (.int 58)] 2 = mkF m 0 #[.val (.ref o0), .val (.int 58)] [] := by first | (simp [entryFrame, mkF, argsToLocals, Value.category]; done) | rfl
set_option maxRecDepth 65536 in
set_option maxHeartbeats 40000000 in
theorem r7_indexOf (l : Launch) (Z : State) (a0 : Array Value) (hw : HW Z a0) (ws : List Jvm.Cond) (o0 : Addr) (i_1 : Int32) (o_2 : Addr) (i_3 i_4 i_5 i_6 i_7 : Int32) (k_o_2 : ClassId) (h0 : Heap) (n0 : Nat) (Z0 : n0 ≤ h0.size) (E_o0 : Ex0 Z h0 o0) (S_COMPACT_STRINGS : SCS Z i_1) (F_o0_coder : Fd0 Z h0 o0 z0) (F_o0_value : Fd1 Z h0 o0 (.ref o_2)) (V_o_2 : Arv Z h0 o_2 k_o_2 .byte 5 [(.int i_3), (.int i_4), (.int i_5), (.int i_6), (.int i_7)] z0) (O0 : Old Z n0 h0) (hp0 : ¬ (i_1 = (0 : Int32))) (hp1 : ¬ (i_3 = (58 : Int32))) (hp2 : i_4 = (58 : Int32)) :
    MF l Z y19_indexOf b11_ 2 (some .int) ws ⟨3, 0, 0, 46⟩ #[(.ref o0), (.int 58)] h0 (Q_r7_indexOf Z o0 i_1 o_2 i_3 i_4 i_5 i_6 i_7 k_o_2 h0 n0) := by
  refine own_body (plainFor_of_name pn_String564) (ef_r7_indexOf o0) (by decide) (by decide) ?_
  intro p e s m below meth c s₁ hx hby hml hown hnm hret hZ hh e0 X0
  have N0 := Fr.nil n0
  obtain ⟨_, T8, L8, X8, hQ8, st8⟩ := own_virtual X0 hx hZ hown (w43 hw) (w44 hw) (notFace_of_selects (args := #[]) (mvT hZ (w46 hw))) (w46 hw) (w45 hw) (w7 hw) (w47 hw) (by decide) (r8_indexOf l Z a0 hw [] o0 i_1 o_2 i_3 i_4 i_5 i_6 i_7 k_o_2 h0 n0 Z0 E_o0 S_COMPACT_STRINGS F_o0_coder O0 hp0 F_o0_value V_o_2 hp1 hp2) e0 E_o0 (W := 0) (by decide) (g := (mkF m 3 #[vr o0, vi 58] [z0, (.int 58), (.ref o0)])) rfl (by rw [hml]; rfl) (argsL := [(.int 58), z0]) (rest := []) (lenOf pd_12 rfl) rfl rfl (own_wr rfl rfl) (hb hby d122)
  obtain ⟨rfl, N8q, e8⟩ := hQ8
  have N8 := Fr.app N0 N8q
  refine ⟨T8, _, some (.int 1), X8, (fun h => by cases h <;> rfl), ?_, fun fs hr => ?_⟩
  · show Q_r7_indexOf Z o0 i_1 o_2 i_3 i_4 i_5 i_6 i_7 k_o_2 h0 n0 _ T8.heap _
    rw [e8]
    exact ⟨rfl, N8, rfl⟩
  · refine t_aloadN 1 X0.here hx (hb hby d119) rfl rfl rfl ?_
    refine t_iloadN 2 X0.here hx (hb hby d120) rfl rfl ?_
    refine t_iconst 3 (r := 0) X0.here hx (hb hby d121) (by decide) rfl ?_
    refine st8 _ ?_
    exact retI X8 hx hret (hb hby d214) hr
def w42 (hw : HW Z a0) := ow 42 hw rfl
theorem pd_14 : parseMethodDescriptor "(I)I" = some ⟨[.int], some .int⟩ := by decide +kernel
def w39 (hw : HW Z a0) := ow 39 hw rfl
def w40 (hw : HW Z a0) := ow 40 hw rfl
theorem d215 : decode b10_ 6 = .ok (.istore_n 1, 1) := by decide +kernel
theorem d216 : decode b10_ 7 = .ok (.iload_n 1, 1) := by decide +kernel
theorem d217 : decode b10_ 8 = .ok (.ifCond .ge 17, 3) := by decide +kernel
theorem d218 : decode b10_ 25 = .ok (.new 39, 3) := by decide +kernel
def w80 (hw : HW Z a0) := ow 80 hw rfl
def w81 (hw : HW Z a0) := ow 81 hw rfl
def w36 (hw : HW Z a0) := ow 36 hw rfl
def w146 (hw : HW Z a0) := ow 146 hw rfl
abbrev Fd2 (Z : State) (h : Heap) (a : Addr) (v : Value) : Prop := Fld Z h a "com/example/keen_roster/keenroster/core/Identifier" "system" "Ljava/lang/String;" v
abbrev sl2 (Z : State) : Nat := Jvm.RoadKit.slotOf Z "com/example/keen_roster/keenroster/core/Identifier" "system" "Ljava/lang/String;"
def w148 (hw : HW Z a0) := ow 148 hw rfl
abbrev Fd3 (Z : State) (h : Heap) (a : Addr) (v : Value) : Prop := Fld Z h a "com/example/keen_roster/keenroster/core/Identifier" "id" "Ljava/lang/String;" v
abbrev sl3 (Z : State) : Nat := Jvm.RoadKit.slotOf Z "com/example/keen_roster/keenroster/core/Identifier" "id" "Ljava/lang/String;"
theorem d219 : decode b10_ 28 = .ok (.dup, 1) := by decide +kernel
theorem d220 : decode b10_ 29 = .ok (.aload_n 0, 1) := by decide +kernel
theorem d221 : decode b10_ 30 = .ok (.iconst 0, 1) := by decide +kernel
theorem d222 : decode b10_ 31 = .ok (.iload_n 1, 1) := by decide +kernel
theorem d223 : decode b10_ 32 = .ok (.invokevirtual 46, 3) := by decide +kernel
def w82 (hw : HW Z a0) := ow 82 hw rfl
def w85 (hw : HW Z a0) := ow 85 hw rfl
abbrev b21_ := jdk_42_method_92_code
theorem d224 : decode b21_ 0 = .ok (.aload_n 0, 1) := by decide +kernel
theorem d225 : decode b21_ 1 = .ok (.invokevirtual 505, 3) := by decide +kernel
theorem d226 : decode b21_ 4 = .ok (.istore_n 3, 1) := by decide +kernel
theorem d227 : decode b21_ 5 = .ok (.iload_n 1, 1) := by decide +kernel
theorem d228 : decode b21_ 6 = .ok (.iload_n 2, 1) := by decide +kernel
theorem d229 : decode b21_ 7 = .ok (.iload_n 3, 1) := by decide +kernel
theorem d230 : decode b21_ 8 = .ok (.invokestatic 521, 3) := by decide +kernel
def w87 (hw : HW Z a0) := ow 87 hw rfl
def w89 (hw : HW Z a0) := ow 89 hw rfl
theorem pd_15 : parseMethodDescriptor "(III)V" = some ⟨[.int, .int, .int], none⟩ := by decide +kernel
def w88 (hw : HW Z a0) := ow 88 hw rfl
theorem d231 : decode b21_ 11 = .ok (.iload_n 1, 1) := by decide +kernel
theorem d232 : decode b21_ 12 = .ok (.ifCond .ne 10, 3) := by decide +kernel
theorem d233 : decode b21_ 15 = .ok (.iload_n 2, 1) := by decide +kernel
theorem d234 : decode b21_ 16 = .ok (.iload_n 3, 1) := by decide +kernel
theorem d235 : decode b21_ 17 = .ok (.if_icmp .ne 5, 3) := by decide +kernel
theorem d236 : decode b21_ 22 = .ok (.iload_n 2, 1) := by decide +kernel
theorem d237 : decode b21_ 23 = .ok (.iload_n 1, 1) := by decide +kernel
theorem d238 : decode b21_ 24 = .ok (.isub, 1) := by decide +kernel
theorem d239 : decode b21_ 25 = .ok (.istore 4, 2) := by decide +kernel
theorem d240 : decode b21_ 27 = .ok (.aload_n 0, 1) := by decide +kernel
theorem d241 : decode b21_ 28 = .ok (.invokevirtual 492, 3) := by decide +kernel
theorem d242 : decode b21_ 31 = .ok (.ifCond .eq 16, 3) := by decide +kernel
theorem d243 : decode b21_ 34 = .ok (.aload_n 0, 1) := by decide +kernel
theorem d244 : decode b21_ 35 = .ok (.getfield 9, 3) := by decide +kernel
theorem d245 : decode b21_ 38 = .ok (.iload_n 1, 1) := by decide +kernel
theorem d246 : decode b21_ 39 = .ok (.iload 4, 2) := by decide +kernel
theorem d247 : decode b21_ 41 = .ok (.invokestatic 685, 3) := by decide +kernel
def w95 (hw : HW Z a0) := ow 95 hw rfl
abbrev b22_ := jdk_43_method_47_code
theorem d248 : decode b22_ 0 = .ok (.iload_n 2, 1) := by decide +kernel
theorem d249 : decode b22_ 1 = .ok (.ifCond .ne 6, 3) := by decide +kernel
theorem d250 : decode b22_ 7 = .ok (.new 1, 3) := by decide +kernel
def w98 (hw : HW Z a0) := ow 98 hw rfl
theorem d251 : decode b22_ 10 = .ok (.dup, 1) := by decide +kernel
theorem d252 : decode b22_ 11 = .ok (.aload_n 0, 1) := by decide +kernel
theorem d253 : decode b22_ 12 = .ok (.iload_n 1, 1) := by decide +kernel
theorem d254 : decode b22_ 13 = .ok (.iload_n 1, 1) := by decide +kernel
theorem d255 : decode b22_ 14 = .ok (.iload_n 2, 1) := by decide +kernel
theorem d256 : decode b22_ 15 = .ok (.iadd, 1) := by decide +kernel
theorem d257 : decode b22_ 16 = .ok (.invokestatic 232, 3) := by decide +kernel
def w99 (hw : HW Z a0) := ow 99 hw rfl
abbrev b23_ := jdk_65_method_132_code
theorem d258 : decode b23_ 0 = .ok (.iload_n 1, 1) := by decide +kernel
theorem d259 : decode b23_ 1 = .ok (.ifCond .ne 9, 3) := by decide +kernel
theorem d260 : decode b23_ 4 = .ok (.iload_n 2, 1) := by decide +kernel
theorem d261 : decode b23_ 5 = .ok (.aload_n 0, 1) := by decide +kernel
theorem d262 : decode b23_ 6 = .ok (.arraylength, 1) := by decide +kernel
theorem d263 : decode b23_ 7 = .ok (.if_icmp .eq 10, 3) := by decide +kernel
theorem d264 : decode b23_ 10 = .ok (.aload_n 0, 1) := by decide +kernel
theorem d265 : decode b23_ 11 = .ok (.iload_n 1, 1) := by decide +kernel
theorem d266 : decode b23_ 12 = .ok (.iload_n 2, 1) := by decide +kernel
theorem d267 : decode b23_ 13 = .ok (.invokestatic 339, 3) := by decide +kernel
def w103 (hw : HW Z a0) := ow 103 hw rfl
abbrev b24_ := jdk_65_method_133_code
theorem d268 : decode b24_ 0 = .ok (.iload_n 1, 1) := by decide +kernel
theorem d269 : decode b24_ 1 = .ok (.iload_n 2, 1) := by decide +kernel
theorem d270 : decode b24_ 2 = .ok (.invokestatic 343, 3) := by decide +kernel
def w106 (hw : HW Z a0) := ow 106 hw rfl
abbrev b25_ := jdk_65_method_131_code
theorem d271 : decode b25_ 0 = .ok (.iload_n 1, 1) := by decide +kernel
theorem d272 : decode b25_ 1 = .ok (.iload_n 0, 1) := by decide +kernel
theorem d273 : decode b25_ 2 = .ok (.if_icmp .ge 35, 3) := by decide +kernel
theorem d274 : decode b25_ 37 = .ok (.return_, 1) := by decide +kernel
theorem pn_Arrays587 : plainName "java/util/Arrays" = true := by first | (simp [plainName, overriddenIn]; done) | decide +kernel
abbrev y20_checkLength : MethodName := ⟨"java/util/Arrays", "checkLength", "(II)V"⟩
def Q_r21_checkLength (Z : State)  (h0 : Heap) (n0 : Nat) (v : Option Value) (h : Heap) (L : List Loc) : Prop := v = none ∧ Fr n0 L ∧ h = h0
theorem ef_r21_checkLength (m : MethodId) : entryFrame m #[(.int 0), (.int 1)] 2 = mkF m 0 #[.val (.int 0), .val (.int 1)] [] := by first | (simp [entryFrame, mkF, argsToLocals, Value.category]; done) | rfl
set_option maxRecDepth 65536 in
set_option maxHeartbeats 40000000 in
theorem r21_checkLength (l : Launch) (Z : State) (a0 : Array Value) (hw : HW Z a0) (ws : List Jvm.Cond)  (h0 : Heap) (n0 : Nat) (Z0 : n0 ≤ h0.size) :
    MF l Z y20_checkLength b25_ 2 none ws ⟨0, 0, 0, 0⟩ #[z0, (.int 1)] h0 (Q_r21_checkLength Z  h0 n0) := by
  refine own_body (plainFor_of_name pn_Arrays587) (ef_r21_checkLength) (by decide) (by decide) ?_
  intro p e s m below meth c s₁ hx hby hml hown hnm hret hZ hh e0 X0
  have N0 := Fr.nil n0
  refine ⟨s₁, _, none, X0, (fun h => by cases h <;> rfl), ?_, fun fs hr => ?_⟩
  · show Q_r21_checkLength Z  h0 n0 _ s₁.heap _
    rw [e0]
    exact ⟨rfl, N0, rfl⟩
  · refine t_iloadN 1 X0.here hx (hb hby d271) rfl rfl ?_
    refine t_iloadN 2 X0.here hx (hb hby d272) rfl rfl ?_
    refine t_icmpYes (pc := 2) 37 X0.here hx (hb hby d273) (by decide) (by decide) (by decide) ?_
    exact X0.returnOut hx hret (hb hby d274) hr
def w108 (hw : HW Z a0) := ow 108 hw rfl
def w101 (hw : HW Z a0) := ow 101 hw rfl
theorem pd_16 : parseMethodDescriptor "(II)V" = some ⟨[.int, .int], none⟩ := by decide +kernel
def w107 (hw : HW Z a0) := ow 107 hw rfl
theorem d275 : decode b24_ 5 = .ok (.iload_n 2, 1) := by decide +kernel
theorem d276 : decode b24_ 6 = .ok (.iload_n 1, 1) := by decide +kernel
theorem d277 : decode b24_ 7 = .ok (.isub, 1) := by decide +kernel
theorem d278 : decode b24_ 8 = .ok (.istore_n 3, 1) := by decide +kernel
theorem d279 : decode b24_ 9 = .ok (.iload_n 3, 1) := by decide +kernel
theorem d280 : decode b24_ 10 = .ok (.newarray .byte, 2) := by decide +kernel
theorem d281 : decode b24_ 12 = .ok (.astore 4, 2) := by decide +kernel
theorem d282 : decode b24_ 14 = .ok (.aload_n 0, 1) := by decide +kernel
theorem d283 : decode b24_ 15 = .ok (.iload_n 1, 1) := by decide +kernel
theorem d284 : decode b24_ 16 = .ok (.aload 4, 2) := by decide +kernel
theorem d285 : decode b24_ 18 = .ok (.iconst 0, 1) := by decide +kernel
theorem d286 : decode b24_ 19 = .ok (.aload_n 0, 1) := by decide +kernel
theorem d287 : decode b24_ 20 = .ok (.arraylength, 1) := by decide +kernel
theorem d288 : decode b24_ 21 = .ok (.iload_n 1, 1) := by decide +kernel
theorem d289 : decode b24_ 22 = .ok (.isub, 1) := by decide +kernel
theorem d290 : decode b24_ 23 = .ok (.iload_n 3, 1) := by decide +kernel
theorem d291 : decode b24_ 24 = .ok (.invokestatic 304, 3) := by decide +kernel
def w109 (hw : HW Z a0) := ow 109 hw rfl
theorem d292 : decode b19_ 9 = .ok (.iload_n 1, 1) := by decide +kernel
def Q_r22_min (Z : State)  (h0 : Heap) (n0 : Nat) (v : Option Value) (h : Heap) (L : List Loc) : Prop := v = some (.int 1) ∧ Fr n0 L ∧ h = h0
theorem ef_r22_min (m : MethodId) : entryFrame m #[(.int 5), (.int 1)] 2 = mkF m 0 #[.val (.int 5), .val (.int 1)] [] := by first | (simp [entryFrame, mkF, argsToLocals, Value.category]; done) | rfl
set_option maxRecDepth 65536 in
set_option maxHeartbeats 40000000 in
theorem r22_min (l : Launch) (Z : State) (a0 : Array Value) (hw : HW Z a0) (ws : List Jvm.Cond)  (h0 : Heap) (n0 : Nat) (Z0 : n0 ≤ h0.size) :
    MF l Z y15_min b19_ 2 (some .int) ws ⟨0, 0, 0, 0⟩ #[(.int 5), (.int 1)] h0 (Q_r22_min Z  h0 n0) := by
  refine own_body (Jvm.Free.JP.mathPlain rfl (by decide +kernel)) (ef_r22_min) (by decide) (by decide) ?_
  intro p e s m below meth c s₁ hx hby hml hown hnm hret hZ hh e0 X0
  have N0 := Fr.nil n0
  refine ⟨s₁, _, some (.int 1), X0, (fun h => by cases h <;> rfl), ?_, fun fs hr => ?_⟩
  · show Q_r22_min Z  h0 n0 _ s₁.heap _
    rw [e0]
    exact ⟨rfl, N0, rfl⟩
  · refine t_iloadN 1 X0.here hx (hb hby d179) rfl rfl ?_
    refine t_iloadN 2 X0.here hx (hb hby d180) rfl rfl ?_
    refine t_icmpYes (pc := 2) 9 X0.here hx (hb hby d181) (by decide) (by decide) (by decide) ?_
    refine t_iloadN 10 X0.here hx (hb hby d292) rfl rfl ?_
    exact retI X0 hx hret (hb hby d184) hr
theorem d293 : decode b24_ 27 = .ok (.invokestatic 150, 3) := by decide +kernel
def w110 (hw : HW Z a0) := ow 110 hw rfl
def w113 (hw : HW Z a0) := ow 113 hw rfl
def w111 (hw : HW Z a0) := ow 111 hw rfl
def w112 (hw : HW Z a0) := ow 112 hw rfl
theorem d294 : decode b24_ 30 = .ok (.aload 4, 2) := by decide +kernel
theorem d295 : decode b24_ 32 = .ok (.areturn, 1) := by decide +kernel
abbrev y21_copyOfRangeByte : MethodName := ⟨"java/util/Arrays", "copyOfRangeByte", "([BII)[B"⟩
def Q_r20_copyOfRangeByte (Z : State) (o0 : Addr) (i_3 i_4 i_5 i_6 i_7 : Int32) (k_o0 : ClassId) (h0 : Heap) (n0 : Nat) (v : Option Value) (h : Heap) (L : List Loc) : Prop := ∃ b2 : Addr, ∃ k2 : ClassId, v = some (.ref b2) ∧ Fr n0 L ∧ KL h0 h [] ∧ h0.size ≤ b2 ∧ Arv Z h b2 k2 .byte 1 [(.int i_3)] z0
theorem ef_r20_copyOfRangeByte (o0 : Addr) (m : MethodId) : entryFrame m #[(.ref o0), (.int 0), (.int 1)] 5 = mkF m 0 #[.val (.ref o0), .val (.int 0), .val (.int 1), .unset, .unset] [] := by first | (simp [entryFrame, mkF, argsToLocals, Value.category]; done) | rfl
set_option maxRecDepth 65536 in
set_option maxHeartbeats 40000000 in
theorem r20_copyOfRangeByte (l : Launch) (Z : State) (a0 : Array Value) (hw : HW Z a0) (ws : List Jvm.Cond) (o0 : Addr) (i_3 i_4 i_5 i_6 i_7 : Int32) (k_o0 : ClassId) (h0 : Heap) (n0 : Nat) (Z0 : n0 ≤ h0.size) (V_o0 : Arv Z h0 o0 k_o0 .byte 5 [(.int i_3), (.int i_4), (.int i_5), (.int i_6), (.int i_7)] z0) :
    MF l Z y21_copyOfRangeByte b24_ 5 (some (.array .byte)) ws ⟨1, 1, 1, 18⟩ #[(.ref o0), z0, (.int 1)] h0 (Q_r20_copyOfRangeByte Z o0 i_3 i_4 i_5 i_6 i_7 k_o0 h0 n0) := by
  refine own_body (plainFor_of_name pn_Arrays587) (ef_r20_copyOfRangeByte o0) (by decide) (by decide) ?_
  intro p e s m below meth c s₁ hx hby hml hown hnm hret hZ hh e0 X0
  have N0 := Fr.nil n0
  obtain ⟨_, T1, L1, X1, hQ1, st1⟩ := own_static X0 hx hZ hown (w106 hw) (w107 hw) (w101 hw) (w108 hw) (by decide) (r21_checkLength l Z a0 hw []  h0 n0 Z0) e0 (W := 0) (by decide) (g := (mkF m 2 #[vr o0, vi 0, vi 1, .unset, .unset] [(.int 1), z0])) rfl (by rw [hml]; rfl) (argsL := [z0, (.int 1)]) (rest := []) (lenOf pd_16 rfl) rfl rfl (own_wr rfl rfl) (hb hby d270)
  obtain ⟨rfl, N1q, e1⟩ := hQ1
  have N1 := Fr.app N0 N1q
  obtain ⟨T2, h2, k2, X2, e2, E2, A2, st2⟩ := newP (aty := .byte) X1 hx hZ (w23 hw) e1 (g := (mkF m 10 #[vr o0, vi 0, vi 1, vi 1, .unset] [(.int 1)])) rfl (hb hby d280) rfl (by decide) (cap := 1) (by decide) (by decide) (by decide) (by decide)
  obtain ⟨b2, g2⟩ : ∃ z, z = h0.size := ⟨_, rfl⟩
  rw [← g2] at A2 st2
  have ge_b2 : h0.size ≤ b2 := Nat.le_of_eq g2.symm
  have K2 := KL.ofE E2
  have V2 : Arv Z h2 b2 k2 .byte 1 [z0] z0 := (Arv.new A2 (by decide)).pad (pad_rep [] z0 1)
  have f8 := (kArv K2 V_o0 na0)
  obtain ⟨_, T9, L9, X9, hQ9, st9⟩ := own_static X2 hx hZ hown (w109 hw) (w75 hw) (w72 hw) (w76 hw) (by decide) (r22_min l Z a0 hw []  h2 n0 (Nat.le_trans Z0 K2.1)) e2 (W := 4) (by decide) (g := (mkF m 24 #[vr o0, vi 0, vi 1, vi 1, vr b2] [(.int 1), (.int 5), z0, (.ref b2), z0, (.ref o0)])) rfl (by rw [hml]; rfl) (argsL := [(.int 5), (.int 1)]) (rest := [z0, (.ref b2), z0, (.ref o0)]) (lenOf pd_12 rfl) rfl rfl (own_wr rfl rfl) (hb hby d291)
  obtain ⟨rfl, N9q, e9⟩ := hQ9
  have N9 := Fr.app N1 N9q
  obtain ⟨T10, h10, L10, X10, e10, N10, Kp10, V10, st10⟩ := cpA X9 hx hZ hown (w110 hw) (w113 hw) (w111 hw) (w112 hw) e9 (us := [(.int i_3)]) f8 V2 (Or.inl ⟨rfl, rfl⟩) (by decide) (by decide) (by decide) (by decide) (by decide) rfl (by decide) N9 (Nat.le_trans Z0 (Nat.le_trans (Nat.le_refl _) ge_b2)) (g := (mkF m 27 #[vr o0, vi 0, vi 1, vi 1, vr b2] [(.int 1), z0, (.ref b2), z0, (.ref o0)])) rfl (by rw [hml]; rfl) rfl (hb hby d293) (by decide) (W := 0) (by show 2 * 0 + _ ≤ _; exact Nat.le_of_eq rfl) (by decide)
  have K10 : KL h2 h10 [(b2, 0)] := own_kcp Kp10 V2 (n := 1) rfl ⟨_, rfl⟩
  replace V10 : Arv Z h10 b2 k2 .byte 1 [(.int i_3)] z0 := V10
  -- what was kept, from the start on
  have C0 := (KL.refl h0 []).trans K2 na0
  have C1 := C0.trans K10 (naO (Or.inr (Nat.le_trans (Nat.le_refl _) ge_b2)) na0)
  refine ⟨T10, _, some (.ref b2), X10, (fun h => by cases h <;> rfl), ?_, fun fs hr => ?_⟩
  · show Q_r20_copyOfRangeByte Z o0 i_3 i_4 i_5 i_6 i_7 k_o0 h0 n0 _ T10.heap _
    rw [e10]
    exact ⟨b2, k2, rfl, N10, C1, (Nat.le_trans (Nat.le_refl _) ge_b2), V10⟩
  · refine t_iloadN 1 X0.here hx (hb hby d268) rfl rfl ?_
    refine t_iloadN 2 X0.here hx (hb hby d269) rfl rfl ?_
    refine st1 _ ?_
    refine t_iloadN 6 X1.here hx (hb hby d275) rfl rfl ?_
    refine t_iloadN 7 X1.here hx (hb hby d276) rfl rfl ?_
    refine t_isub 8 (r := 1) X1.here hx (hb hby d277) (by decide : ((1 : Int32) - (0 : Int32)) = (1 : Int32)) rfl ?_
    refine t_istoreN (pc' := 9) (L' := #[vr o0, vi 0, vi 1, vi 1, .unset]) X1.here hx (hb hby d278) rfl rfl ?_
    refine t_iloadN 10 X1.here hx (hb hby d279) rfl rfl ?_
    refine st2 _ ?_
    refine t_astore (pc' := 14) (L' := #[vr o0, vi 0, vi 1, vi 1, vr b2]) X2.here hx (hb hby d281) rfl rfl rfl ?_
    refine t_aloadN 15 X2.here hx (hb hby d282) rfl rfl rfl ?_
    refine t_iloadN 16 X2.here hx (hb hby d283) rfl rfl ?_
    refine t_aload 18 X2.here hx (hb hby d284) rfl rfl rfl ?_
    refine t_iconst 19 (r := 0) X2.here hx (hb hby d285) (by decide) rfl ?_
    refine t_aloadN 20 X2.here hx (hb hby d286) rfl rfl rfl ?_
    refine own_arlen (pc' := 21) X2 hx hZ e2 f8 (hb hby d287) rfl ?_
    refine t_iloadN 22 X2.here hx (hb hby d288) rfl rfl ?_
    refine t_isub 23 (r := 5) X2.here hx (hb hby d289) (by decide : ((5 : Int32) - (0 : Int32)) = (5 : Int32)) rfl ?_
    refine t_iloadN 24 X2.here hx (hb hby d290) rfl rfl ?_
    refine st9 _ ?_
    refine st10 _ ?_
    refine t_aload 32 X10.here hx (hb hby d294) rfl rfl rfl ?_
    jvm_step X10.here [X10.here.top, hx, (hb hby d295), X10.method', hret, Value.isRef, FieldType.isReference]
    first | (intro acts; rw [hr _ acts rfl rfl rfl]) | rw [hr _ _ rfl rfl rfl]
    exact Steps.refl _
def w105 (hw : HW Z a0) := ow 105 hw rfl
theorem pd_17 : parseMethodDescriptor "([BII)[B" = some ⟨[(.array .byte), .int, .int], some (.array .byte)⟩ := by decide +kernel
def w104 (hw : HW Z a0) := ow 104 hw rfl
theorem d296 : decode b23_ 16 = .ok (.areturn, 1) := by decide +kernel
abbrev y22_copyOfRange : MethodName := ⟨"java/util/Arrays", "copyOfRange", "([BII)[B"⟩
def Q_r19_copyOfRange (Z : State) (o0 : Addr) (i_1 i_2 i_3 i_4 i_5 : Int32) (k_o0 : ClassId) (h0 : Heap) (n0 : Nat) (v : Option Value) (h : Heap) (L : List Loc) : Prop := ∃ b2_6 : Addr, ∃ k2_6 : ClassId, v = some (.ref b2_6) ∧ Fr n0 L ∧ KL h0 h [] ∧ h0.size ≤ b2_6 ∧ Arv Z h b2_6 k2_6 .byte 1 [(.int i_1)] z0
theorem ef_r19_copyOfRange (o0 : Addr) (m : MethodId) : entryFrame m #[(.ref o0), (.int 0), (.int 1)] 3 = mkF m 0 #[.val (.ref o0), .val (.int 0), .val (.int 1)] [] := by first | (simp [entryFrame, mkF, argsToLocals, Value.category]; done) | rfl
set_option maxRecDepth 65536 in
set_option maxHeartbeats 40000000 in
theorem r19_copyOfRange (l : Launch) (Z : State) (a0 : Array Value) (hw : HW Z a0) (ws : List Jvm.Cond) (o0 : Addr) (i_1 i_2 i_3 i_4 i_5 : Int32) (k_o0 : ClassId) (h0 : Heap) (n0 : Nat) (Z0 : n0 ≤ h0.size) (V_o0 : Arv Z h0 o0 k_o0 .byte 5 [(.int i_1), (.int i_2), (.int i_3), (.int i_4), (.int i_5)] z0) :
    MF l Z y22_copyOfRange b23_ 3 (some (.array .byte)) ws ⟨2, 1, 1, 34⟩ #[(.ref o0), z0, (.int 1)] h0 (Q_r19_copyOfRange Z o0 i_1 i_2 i_3 i_4 i_5 k_o0 h0 n0) := by
  refine own_body (plainFor_of_name pn_Arrays587) (ef_r19_copyOfRange o0) (by decide) (by decide) ?_
  intro p e s m below meth c s₁ hx hby hml hown hnm hret hZ hh e0 X0
  have N0 := Fr.nil n0
  obtain ⟨_, T6, L6, X6, hQ6, st6⟩ := own_static X0 hx hZ hown (w103 hw) (w104 hw) (w101 hw) (w105 hw) (by decide) (r20_copyOfRangeByte l Z a0 hw [] o0 i_1 i_2 i_3 i_4 i_5 k_o0 h0 n0 Z0 V_o0) e0 (W := 0) (by decide) (g := (mkF m 13 #[vr o0, vi 0, vi 1] [(.int 1), z0, (.ref o0)])) rfl (by rw [hml]; rfl) (argsL := [(.ref o0), z0, (.int 1)]) (rest := []) (lenOf pd_17 rfl) rfl rfl (own_wr rfl rfl) (hb hby d267)
  obtain ⟨b2_6, k2_6, rfl, N6q, K6, Q6_0, Q6_1⟩ := hQ6
  have N6 := Fr.app N0 N6q
  -- what was kept, from the start on
  have C0 := (KL.refl h0 []).trans K6 na0
  refine ⟨T6, _, some (.ref b2_6), X6, (fun h => by cases h <;> rfl), ?_, fun fs hr => ?_⟩
  · show Q_r19_copyOfRange Z o0 i_1 i_2 i_3 i_4 i_5 k_o0 h0 n0 _ T6.heap _
    exact ⟨b2_6, k2_6, rfl, N6, C0, (Nat.le_trans (Nat.le_refl _) Q6_0), Q6_1⟩
  · refine t_iloadN 1 X0.here hx (hb hby d258) rfl rfl ?_
    refine t_ifNo 4 X0.here hx (hb hby d259) (by decide) rfl ?_
    refine t_iloadN 5 X0.here hx (hb hby d260) rfl rfl ?_
    refine t_aloadN 6 X0.here hx (hb hby d261) rfl rfl rfl ?_
    refine own_arlen (pc' := 7) X0 hx hZ e0 V_o0 (hb hby d262) rfl ?_
    refine t_icmpNo 10 X0.here hx (hb hby d263) (by decide) rfl ?_
    refine t_aloadN 11 X0.here hx (hb hby d264) rfl rfl rfl ?_
    refine t_iloadN 12 X0.here hx (hb hby d265) rfl rfl ?_
    refine t_iloadN 13 X0.here hx (hb hby d266) rfl rfl ?_
    refine st6 _ ?_
    jvm_step X6.here [X6.here.top, hx, (hb hby d296), X6.method', hret, Value.isRef, FieldType.isReference]
    first | (intro acts; rw [hr _ acts rfl rfl rfl]) | rw [hr _ _ rfl rfl rfl]
    exact Steps.refl _
def w102 (hw : HW Z a0) := ow 102 hw rfl
def w100 (hw : HW Z a0) := ow 100 hw rfl
theorem d297 : decode b22_ 19 = .ok (.iconst 0, 1) := by decide +kernel
theorem d298 : decode b22_ 20 = .ok (.invokespecial 112, 3) := by decide +kernel
def w114 (hw : HW Z a0) := ow 114 hw rfl
abbrev b26_ := jdk_42_method_151_code
theorem d299 : decode b26_ 0 = .ok (.aload_n 0, 1) := by decide +kernel
theorem d300 : decode b26_ 1 = .ok (.invokespecial 1, 3) := by decide +kernel
theorem d301 : decode b26_ 4 = .ok (.aload_n 0, 1) := by decide +kernel
theorem d302 : decode b26_ 5 = .ok (.aload_n 1, 1) := by decide +kernel
theorem d303 : decode b26_ 6 = .ok (.putfield 9, 3) := by decide +kernel
theorem d304 : decode b26_ 9 = .ok (.aload_n 0, 1) := by decide +kernel
theorem d305 : decode b26_ 10 = .ok (.iload_n 2, 1) := by decide +kernel
theorem d306 : decode b26_ 11 = .ok (.putfield 15, 3) := by decide +kernel
theorem d307 : decode b26_ 14 = .ok (.return_, 1) := by decide +kernel
abbrev y23__init_ : MethodName := ⟨"java/lang/String", "<init>", "([BB)V"⟩
def WS_r23__init_ (Z : State) (o0 : Addr) : List (Addr × Nat) := [(o0, (sl1 Z)), (o0, (sl0 Z))]
def Q_r23__init_ (Z : State) (o0 o1 : Addr) (h0 : Heap) (n0 : Nat) (v : Option Value) (h : Heap) (L : List Loc) : Prop := v = none ∧ Fr n0 L ∧ KL h0 h (WS_r23__init_ Z o0) ∧ Fd1 Z h o0 (.ref o1) ∧ Fd0 Z h o0 z0
theorem ef_r23__init_ (o0 o1 : Addr) (m : MethodId) : entryFrame m #[(.ref o0), (.ref o1), (.int 0)] 3 = mkF m 0 #[.val (.ref o0), .val (.ref o1), .val (.int 0)] [] := by first | (simp [entryFrame, mkF, argsToLocals, Value.category]; done) | rfl
set_option maxRecDepth 65536 in
set_option maxHeartbeats 40000000 in
theorem r23__init_ (l : Launch) (Z : State) (a0 : Array Value) (hw : HW Z a0) (ws : List Jvm.Cond) (o0 o1 : Addr) (h0 : Heap) (n0 : Nat) (Z0 : n0 ≤ h0.size) (F_o0_value : Fd1 Z h0 o0 .null) (E_o0 : Ex0 Z h0 o0) (g_o0 : n0 ≤ o0) (F_o0_coder : Fd0 Z h0 o0 z0) :
    MF l Z y23__init_ b26_ 3 none ws ⟨1, 0, 0, 12⟩ #[(.ref o0), (.ref o1), z0] h0 (Q_r23__init_ Z o0 o1 h0 n0) := by
  refine own_body (plainFor_of_name pn_String564) (ef_r23__init_ o0 o1) (by decide) (by decide) ?_
  intro p e s m below meth c s₁ hx hby hml hown hnm hret hZ hh e0 X0
  have N0 := Fr.nil n0
  obtain ⟨T1, X1, e1, st1⟩ := initO X0 hx hZ hown (w15 hw) (w16 hw) (w17 hw) e0 (g := (mkF m 1 #[vr o0, vr o1, vi 0] [(.ref o0)])) rfl (by rw [hml]; rfl) rfl (hb hby d300) (by decide) (W := 0) (by show 2 * 0 + _ ≤ _; exact Nat.le_of_eq rfl) (by decide)
  obtain ⟨T2, h2, X2, e2, W2, st2⟩ := putF X1 hx hZ hown (host := "") (Or.inl (w32 hw)) Via.refl e1 F_o0_value E_o0 (Or.inr ⟨(w33 hw), rfl, hnm⟩) (w6 hw) (ty := (.array .byte)) (by decide) rfl rfl (g := (mkF m 6 #[vr o0, vr o1, vi 0] [(.ref o1), (.ref o0)])) rfl rfl (hb hby d303)
  have K2 := KL.ofW W2
  have Fw2 : Fd1 Z h2 o0 (.ref o1) := Fld.same W2 F_o0_value
  have N2 := Fr.snoc X2 N0 g_o0
  have f3 := (kFld K2 F_o0_coder (nwS (Or.inr (sn_1 hw)) nw0))
  have f4 := (kExa K2 E_o0)
  obtain ⟨T5, h5, X5, e5, W5, st5⟩ := putF X2 hx hZ hown (host := "") (Or.inl (w30 hw)) Via.refl e2 f3 f4 (Or.inr ⟨(w31 hw), rfl, hnm⟩) (w6 hw) (ty := .byte) (by decide) (by decide) (by decide) (g := (mkF m 11 #[vr o0, vr o1, vi 0] [z0, (.ref o0)])) rfl rfl (hb hby d306)
  have K5 := KL.ofW W5
  have Fw5 : Fd0 Z h5 o0 z0 := Fld.same W5 f3
  have N5 := Fr.snoc X5 N2 g_o0
  -- what was kept, from the start on
  have C0 := (KL.refl h0 (WS_r23__init_ Z o0)).trans K2 (naO (own_mi 0 rfl) na0)
  have C1 := C0.trans K5 (naO (own_mi 1 rfl) na0)
  have f6 := (kFld K5 Fw2 (nwS (Or.inr (sn_0 hw)) nw0))
  refine ⟨T5, _, none, X5, (fun h => by cases h <;> rfl), ?_, fun fs hr => ?_⟩
  · show Q_r23__init_ Z o0 o1 h0 n0 _ T5.heap _
    rw [e5]
    exact ⟨rfl, N5, C1, f6, Fw5⟩
  · refine t_aloadN 1 X0.here hx (hb hby d299) rfl rfl rfl ?_
    refine st1 _ ?_
    refine t_aloadN 5 X1.here hx (hb hby d301) rfl rfl rfl ?_
    refine t_aloadN 6 X1.here hx (hb hby d302) rfl rfl rfl ?_
    refine st2 _ ?_
    refine t_aloadN 10 X2.here hx (hb hby d304) rfl rfl rfl ?_
    refine t_iloadN 11 X2.here hx (hb hby d305) rfl rfl ?_
    refine st5 _ ?_
    exact X5.returnOut hx hret (hb hby d307) hr
def w116 (hw : HW Z a0) := ow 116 hw rfl
theorem pd_18 : parseMethodDescriptor "([BB)V" = some ⟨[(.array .byte), .byte], none⟩ := by decide +kernel
def w115 (hw : HW Z a0) := ow 115 hw rfl
theorem d308 : decode b22_ 23 = .ok (.areturn, 1) := by decide +kernel
abbrev y24_newString : MethodName := ⟨"java/lang/StringLatin1", "newString", "([BII)Ljava/lang/String;"⟩
def Q_r18_newString (Z : State) (o0 : Addr) (i_2 i_3 i_4 i_5 i_6 : Int32) (k_o0 : ClassId) (h0 : Heap) (n0 : Nat) (v : Option Value) (h : Heap) (L : List Loc) : Prop := ∃ b1 : Addr, ∃ b2_6_7 : Addr, ∃ k2_6_7 : ClassId, v = some (.ref b1) ∧ Fr n0 L ∧ KL h0 h [] ∧ h0.size ≤ b1 ∧ h0.size ≤ b2_6_7 ∧ b1 ≠ b2_6_7 ∧ Ex0 Z h b1 ∧ Fd0 Z h b1 z0 ∧ Fd1 Z h b1 (.ref b2_6_7) ∧ Arv Z h b2_6_7 k2_6_7 .byte 1 [(.int i_2)] z0
theorem ef_r18_newString (o0 : Addr) (m : MethodId) : entryFrame m #[(.ref o0), (.int 0), (.int 1)] 3 = mkF m 0 #[.val (.ref o0), .val (.int 0), .val (.int 1)] [] := by first | (simp [entryFrame, mkF, argsToLocals, Value.category]; done) | rfl
set_option maxRecDepth 65536 in
set_option maxHeartbeats 40000000 in
theorem r18_newString (l : Launch) (Z : State) (a0 : Array Value) (hw : HW Z a0) (ws : List Jvm.Cond) (o0 : Addr) (i_2 i_3 i_4 i_5 i_6 : Int32) (k_o0 : ClassId) (h0 : Heap) (n0 : Nat) (Z0 : n0 ≤ h0.size) (V_o0 : Arv Z h0 o0 k_o0 .byte 5 [(.int i_2), (.int i_3), (.int i_4), (.int i_5), (.int i_6)] z0) :
    MF l Z y24_newString b22_ 3 (some (.object "java/lang/String")) ws ⟨3, 2, 5, 50⟩ #[(.ref o0), z0, (.int 1)] h0 (Q_r18_newString Z o0 i_2 i_3 i_4 i_5 i_6 k_o0 h0 n0) := by
  refine own_body (plainFor_of_name pn_StringLatin1120) (ef_r18_newString o0) (by decide) (by decide) ?_
  intro p e s m below meth c s₁ hx hby hml hown hnm hret hZ hh e0 X0
  have N0 := Fr.nil n0
  obtain ⟨T1, h1, X1, e1, E1, A1, D1, -, st1⟩ := newO X0 hx hZ hown (w98 hw) (w6 hw) (w7 hw) e0 (g := (mkF m 7 #[vr o0, vi 0, vi 1] [])) rfl (hb hby d250) (by decide) (by decide)
  obtain ⟨b1, g1⟩ : ∃ z, z = h0.size := ⟨_, rfl⟩
  rw [← g1] at A1 D1 st1
  have ge_b1 : h0.size ≤ b1 := Nat.le_of_eq g1.symm
  have K1 := KL.ofE E1
  have F_b1_coder : Fd0 Z h1 b1 z0 := D1 (Or.inr (w31 hw)) (ty := .byte) (by decide)
  have F_b1_value : Fd1 Z h1 b1 .null := D1 (Or.inr (w33 hw)) (ty := (.array .byte)) (by decide)
  have f8 := (kArv K1 V_o0 na0)
  obtain ⟨_, T7, L7, X7, hQ7, st7⟩ := own_static X1 hx hZ hown (w99 hw) (w100 hw) (w101 hw) (w102 hw) (by decide) (r19_copyOfRange l Z a0 hw [] o0 i_2 i_3 i_4 i_5 i_6 k_o0 h1 n0 (Nat.le_trans Z0 K1.1) f8) e1 (W := 2) (by decide) (g := (mkF m 16 #[vr o0, vi 0, vi 1] [(.int 1), z0, (.ref o0), (.ref b1), (.ref b1)])) rfl (by rw [hml]; rfl) (argsL := [(.ref o0), z0, (.int 1)]) (rest := [(.ref b1), (.ref b1)]) (lenOf pd_17 rfl) rfl rfl (own_wr rfl rfl) (hb hby d257)
  obtain ⟨b2_6_7, k2_6_7, rfl, N7q, K7, Q7_0, Q7_1⟩ := hQ7
  have N7 := Fr.app N0 N7q
  have f11 := (kFld K7 F_b1_value nw0)
  have f12 := (kExa K7 A1)
  have f13 := (kFld K7 F_b1_coder nw0)
  have sz_0_2 := (Nat.le_trans K1.1 K7.1)
  obtain ⟨_, T10, L10, X10, hQ10, st10⟩ := own_init X7 hx hZ rfl hown (w114 hw) (w115 hw) (w7 hw) (w116 hw) (by decide) (r23__init_ l Z a0 hw [] b1 b2_6_7 T7.heap n0 (Nat.le_trans Z0 sz_0_2) f11 f12 (Nat.le_trans Z0 (Nat.le_trans (Nat.le_refl _) ge_b1)) f13) rfl (W := 1) (by decide) (g := (mkF m 20 #[vr o0, vi 0, vi 1] [z0, (.ref b2_6_7), (.ref b1), (.ref b1)])) rfl (by rw [hml]; rfl) (argsL := [(.ref b2_6_7), z0]) (rest := [(.ref b1)]) (lenOf pd_18 rfl) rfl rfl (own_wr rfl rfl) (hb hby d298)
  obtain ⟨rfl, N10q, K10, Q10_0, Q10_1⟩ := hQ10
  have N10 := Fr.app N7 N10q
  -- what was kept, from the start on
  have C0 := (KL.refl h0 []).trans K1 na0
  have C1 := C0.trans K7 na0
  have C2 := C1.trans K10 (naO (Or.inr (Nat.le_trans (Nat.le_refl _) ge_b1)) (naO (Or.inr (Nat.le_trans (Nat.le_refl _) ge_b1)) na0))
  have lt_b1 : b1 < h1.size := Exa.lt A1
  have f14 := (kExa K10 f12)
  have f15 := (kArv K10 Q7_1 (naN (lt_ne lt_b1 Q7_0) (naN (lt_ne lt_b1 Q7_0) na0)))
  refine ⟨T10, _, some (.ref b1), X10, (fun h => by cases h <;> rfl), ?_, fun fs hr => ?_⟩
  · show Q_r18_newString Z o0 i_2 i_3 i_4 i_5 i_6 k_o0 h0 n0 _ T10.heap _
    exact ⟨b1, b2_6_7, k2_6_7, rfl, N10, C2, (Nat.le_trans (Nat.le_refl _) ge_b1), (Nat.le_trans K1.1 Q7_0), (lt_ne lt_b1 Q7_0), f14, Q10_1, Q10_0, f15⟩
  · refine t_iloadN 1 X0.here hx (hb hby d248) rfl rfl ?_
    refine t_ifYes (pc := 1) 7 X0.here hx (hb hby d249) (by decide) (by decide) (by decide) ?_
    refine st1 _ ?_
    refine t_dup 11 X1.here hx (hb hby d251) rfl rfl ?_
    refine t_aloadN 12 X1.here hx (hb hby d252) rfl rfl rfl ?_
    refine t_iloadN 13 X1.here hx (hb hby d253) rfl rfl ?_
    refine t_iloadN 14 X1.here hx (hb hby d254) rfl rfl ?_
    refine t_iloadN 15 X1.here hx (hb hby d255) rfl rfl ?_
    refine t_iadd 16 (r := 1) X1.here hx (hb hby d256) (by decide : ((0 : Int32) + (1 : Int32)) = (1 : Int32)) rfl ?_
    refine st7 _ ?_
    refine t_iconst 20 (r := 0) X7.here hx (hb hby d297) (by decide) rfl ?_
    refine st10 _ ?_
    jvm_step X10.here [X10.here.top, hx, (hb hby d308), X10.method', hret, Value.isRef, FieldType.isReference]
    first | (intro acts; rw [hr _ acts rfl rfl rfl]) | rw [hr _ _ rfl rfl rfl]
    exact Steps.refl _
def w97 (hw : HW Z a0) := ow 97 hw rfl
theorem pd_19 : parseMethodDescriptor "([BII)Ljava/lang/String;" = some ⟨[(.array .byte), .int, .int], some (.object "java/lang/String")⟩ := by decide +kernel
def w96 (hw : HW Z a0) := ow 96 hw rfl
theorem d309 : decode b21_ 44 = .ok (.goto 13, 3) := by decide +kernel
theorem d310 : decode b21_ 57 = .ok (.areturn, 1) := by decide +kernel
abbrev y25_substring : MethodName := ⟨"java/lang/String", "substring", "(II)Ljava/lang/String;"⟩
def Q_r17_substring (Z : State) (o0 o_1 : Addr) (i_2 i_3 i_4 i_5 i_6 : Int32) (k_o_1 : ClassId) (i_7 : Int32) (u_9 : Value) (h0 : Heap) (n0 : Nat) (v : Option Value) (h : Heap) (L : List Loc) : Prop := ∃ b1_13 : Addr, ∃ b2_6_7_13 : Addr, ∃ k2_6_7_13 : ClassId, v = some (.ref b1_13) ∧ Fr n0 L ∧ KL h0 h [] ∧ h0.size ≤ b1_13 ∧ h0.size ≤ b2_6_7_13 ∧ b1_13 ≠ b2_6_7_13 ∧ Ex0 Z h b1_13 ∧ Fd0 Z h b1_13 z0 ∧ Fd1 Z h b1_13 (.ref b2_6_7_13) ∧ Arv Z h b2_6_7_13 k2_6_7_13 .byte 1 [(.int i_2)] z0
theorem ef_r17_substring (o0 : Addr) (m : MethodId) : entryFrame m #[(.ref o0), (.int 0), (.int 1)] 5 = mkF m 0 #[.val (.ref o0), .val (.int 0), .val (.int 1), .unset, .unset] [] := by first | (simp [entryFrame, mkF, argsToLocals, Value.category]; done) | rfl
set_option maxRecDepth 65536 in
set_option maxHeartbeats 40000000 in
theorem r17_substring (l : Launch) (Z : State) (a0 : Array Value) (hw : HW Z a0) (ws : List Jvm.Cond) (o0 o_1 : Addr) (i_2 i_3 i_4 i_5 i_6 : Int32) (k_o_1 : ClassId) (i_7 : Int32) (u_9 : Value) (h0 : Heap) (n0 : Nat) (Z0 : n0 ≤ h0.size) (E_o0 : Ex0 Z h0 o0) (F_o0_value : Fd1 Z h0 o0 (.ref o_1)) (V_o_1 : Arv Z h0 o_1 k_o_1 .byte 5 [(.int i_2), (.int i_3), (.int i_4), (.int i_5), (.int i_6)] z0) (S_COMPACT_STRINGS : SCS Z i_7) (F_o0_coder : Fd0 Z h0 o0 z0) (O0 : Old Z n0 h0) (hp0 : ¬ (i_7 = (0 : Int32))) (S_SIOOBE_FORMATTER : Sta Z Z.heap "jdk/internal/util/Preconditions" "SIOOBE_FORMATTER" "Ljava/util/function/BiFunction;" u_9) (hp1 : u_9.isRef = true) :
    MF l Z y25_substring b21_ 5 (some (.object "java/lang/String")) ws ⟨4, 2, 5, 64⟩ #[(.ref o0), z0, (.int 1)] h0 (Q_r17_substring Z o0 o_1 i_2 i_3 i_4 i_5 i_6 k_o_1 i_7 u_9 h0 n0) := by
  refine own_body (plainFor_of_name pn_String564) (ef_r17_substring o0) (by decide) (by decide) ?_
  intro p e s m below meth c s₁ hx hby hml hown hnm hret hZ hh e0 X0
  have N0 := Fr.nil n0
  obtain ⟨_, T8, L8, X8, hQ8, st8⟩ := own_virtual X0 hx hZ hown (w53 hw) (w54 hw) (notFace_of_selects (args := #[]) (mvT hZ (w56 hw))) (w56 hw) (w55 hw) (w7 hw) (w57 hw) (by decide) (r10_length l Z a0 hw [] o0 o_1 i_2 i_3 i_4 i_5 i_6 k_o_1 i_7 h0 n0 Z0 F_o0_value V_o_1 E_o0 S_COMPACT_STRINGS F_o0_coder O0 hp0) e0 E_o0 (W := 0) (by decide) (g := (mkF m 1 #[vr o0, vi 0, vi 1, .unset, .unset] [(.ref o0)])) rfl (by rw [hml]; rfl) (argsL := []) (rest := []) (lenOf pd_10 rfl) rfl rfl (own_wr rfl rfl) (hb hby d225)
  obtain ⟨rfl, N8q, e8⟩ := hQ8
  have N8 := Fr.app N0 N8q
  obtain ⟨_, T10, L10, X10, hQ10, st10⟩ := own_static X8 hx hZ hown (w87 hw) (w88 hw) (w7 hw) (w89 hw) (by decide) (r_checkBoundsBeginEnd l Z a0 hw [] (0 : Int32) (1 : Int32) (5 : Int32) u_9 h0 n0 Z0 hp1 S_SIOOBE_FORMATTER O0 (by decide) (by decide) (by decide)) e8 (W := 0) (by decide) (g := (mkF m 8 #[vr o0, vi 0, vi 1, vi 5, .unset] [(.int 5), (.int 1), z0])) rfl (by rw [hml]; rfl) (argsL := [z0, (.int 1), (.int 5)]) (rest := []) (lenOf pd_15 rfl) rfl rfl (own_wr rfl rfl) (hb hby d230)
  obtain ⟨rfl, N10q, e10⟩ := hQ10
  have N10 := Fr.app N8 N10q
  obtain ⟨_, T11, L11, X11, hQ11, st11⟩ := own_virtual X10 hx hZ hown (w48 hw) (w49 hw) (notFace_of_selects (args := #[]) (mvT hZ (w51 hw))) (w51 hw) (w50 hw) (w7 hw) (w52 hw) (by decide) (r9_isLatin1 l Z a0 hw [] o0 i_7 h0 n0 Z0 S_COMPACT_STRINGS O0 hp0 F_o0_coder) e10 E_o0 (W := 0) (by decide) (g := (mkF m 28 #[vr o0, vi 0, vi 1, vi 5, vi 1] [(.ref o0)])) rfl (by rw [hml]; rfl) (argsL := []) (rest := []) (lenOf pd_8 rfl) rfl rfl (own_wr rfl rfl) (hb hby d241)
  obtain ⟨rfl, N11q, e11⟩ := hQ11
  have N11 := Fr.app N10 N11q
  obtain ⟨T12, X12, e12, st12⟩ := getF X11 hx hZ hown (host := "") (Or.inl (w32 hw)) Via.refl e11 F_o0_value (g := (mkF m 35 #[vr o0, vi 0, vi 1, vi 5, vi 1] [(.ref o0)])) rfl rfl (hb hby d244)
  obtain ⟨_, T13, L13, X13, hQ13, st13⟩ := own_static X12 hx hZ hown (w95 hw) (w96 hw) (w65 hw) (w97 hw) (by decide) (r18_newString l Z a0 hw [] o_1 i_2 i_3 i_4 i_5 i_6 k_o_1 h0 n0 Z0 V_o_1) e12 (W := 0) (by decide) (g := (mkF m 41 #[vr o0, vi 0, vi 1, vi 5, vi 1] [(.int 1), z0, (.ref o_1)])) rfl (by rw [hml]; rfl) (argsL := [(.ref o_1), z0, (.int 1)]) (rest := []) (lenOf pd_19 rfl) rfl rfl (own_wr rfl rfl) (hb hby d247)
  obtain ⟨b1_13, b2_6_7_13, k2_6_7_13, rfl, N13q, K13, Q13_0, Q13_1, Q13_2, Q13_3, Q13_4, Q13_5, Q13_6⟩ := hQ13
  have N13 := Fr.app N11 N13q
  -- what was kept, from the start on
  have C0 := (KL.refl h0 []).trans K13 na0
  refine ⟨T13, _, some (.ref b1_13), X13, (fun h => by cases h <;> rfl), ?_, fun fs hr => ?_⟩
  · show Q_r17_substring Z o0 o_1 i_2 i_3 i_4 i_5 i_6 k_o_1 i_7 u_9 h0 n0 _ T13.heap _
    exact ⟨b1_13, b2_6_7_13, k2_6_7_13, rfl, N13, C0, (Nat.le_trans (Nat.le_refl _) Q13_0), (Nat.le_trans (Nat.le_refl _) Q13_1), Q13_2, Q13_3, Q13_4, Q13_5, Q13_6⟩
  · refine t_aloadN 1 X0.here hx (hb hby d224) rfl rfl rfl ?_
    refine st8 _ ?_
    refine t_istoreN (pc' := 5) (L' := #[vr o0, vi 0, vi 1, vi 5, .unset]) X8.here hx (hb hby d226) rfl rfl ?_
    refine t_iloadN 6 X8.here hx (hb hby d227) rfl rfl ?_
    refine t_iloadN 7 X8.here hx (hb hby d228) rfl rfl ?_
    refine t_iloadN 8 X8.here hx (hb hby d229) rfl rfl ?_
    refine st10 _ ?_
    refine t_iloadN 12 X10.here hx (hb hby d231) rfl rfl ?_
    refine t_ifNo 15 X10.here hx (hb hby d232) (by decide) rfl ?_
    refine t_iloadN 16 X10.here hx (hb hby d233) rfl rfl ?_
    refine t_iloadN 17 X10.here hx (hb hby d234) rfl rfl ?_
    refine t_icmpYes (pc := 17) 22 X10.here hx (hb hby d235) (by decide) (by decide) (by decide) ?_
    refine t_iloadN 23 X10.here hx (hb hby d236) rfl rfl ?_
    refine t_iloadN 24 X10.here hx (hb hby d237) rfl rfl ?_
    refine t_isub 25 (r := 1) X10.here hx (hb hby d238) (by decide : ((1 : Int32) - (0 : Int32)) = (1 : Int32)) rfl ?_
    refine t_istore (pc' := 27) (L' := #[vr o0, vi 0, vi 1, vi 5, vi 1]) X10.here hx (hb hby d239) rfl rfl ?_
    refine t_aloadN 28 X10.here hx (hb hby d240) rfl rfl rfl ?_
    refine st11 _ ?_
    refine t_ifNo 34 X11.here hx (hb hby d242) (by decide) rfl ?_
    refine t_aloadN 35 X11.here hx (hb hby d243) rfl rfl rfl ?_
    refine st12 _ ?_
    refine t_iloadN 39 X12.here hx (hb hby d245) rfl rfl ?_
    refine t_iload 41 X12.here hx (hb hby d246) rfl rfl ?_
    refine st13 _ ?_
    refine t_goto (pc := 44) 57 X13.here hx (hb hby d309) (by decide) (by decide) ?_
    jvm_step X13.here [X13.here.top, hx, (hb hby d310), X13.method', hret, Value.isRef, FieldType.isReference]
    first | (intro acts; rw [hr _ acts rfl rfl rfl]) | rw [hr _ _ rfl rfl rfl]
    exact Steps.refl _
def w86 (hw : HW Z a0) := ow 86 hw rfl
theorem pd_20 : parseMethodDescriptor "(II)Ljava/lang/String;" = some ⟨[.int, .int], some (.object "java/lang/String")⟩ := by decide +kernel
def w83 (hw : HW Z a0) := ow 83 hw rfl
def w84 (hw : HW Z a0) := ow 84 hw rfl
theorem d311 : decode b10_ 35 = .ok (.aload_n 0, 1) := by decide +kernel
theorem d312 : decode b10_ 36 = .ok (.iload_n 1, 1) := by decide +kernel
theorem d313 : decode b10_ 37 = .ok (.iconst 1, 1) := by decide +kernel
theorem d314 : decode b10_ 38 = .ok (.iadd, 1) := by decide +kernel
theorem d315 : decode b10_ 39 = .ok (.invokevirtual 50, 3) := by decide +kernel
def w117 (hw : HW Z a0) := ow 117 hw rfl
def w120 (hw : HW Z a0) := ow 120 hw rfl
abbrev b27_ := jdk_42_method_91_code
theorem d316 : decode b27_ 0 = .ok (.aload_n 0, 1) := by decide +kernel
theorem d317 : decode b27_ 1 = .ok (.iload_n 1, 1) := by decide +kernel
theorem d318 : decode b27_ 2 = .ok (.aload_n 0, 1) := by decide +kernel
theorem d319 : decode b27_ 3 = .ok (.invokevirtual 505, 3) := by decide +kernel
theorem d320 : decode b27_ 6 = .ok (.invokevirtual 681, 3) := by decide +kernel
def w122 (hw : HW Z a0) := ow 122 hw rfl
def Q_r29_checkLength (Z : State)  (h0 : Heap) (n0 : Nat) (v : Option Value) (h : Heap) (L : List Loc) : Prop := v = none ∧ Fr n0 L ∧ h = h0
theorem ef_r29_checkLength (m : MethodId) : entryFrame m #[(.int 2), (.int 5)] 2 = mkF m 0 #[.val (.int 2), .val (.int 5)] [] := by first | (simp [entryFrame, mkF, argsToLocals, Value.category]; done) | rfl
set_option maxRecDepth 65536 in
set_option maxHeartbeats 40000000 in
theorem r29_checkLength (l : Launch) (Z : State) (a0 : Array Value) (hw : HW Z a0) (ws : List Jvm.Cond)  (h0 : Heap) (n0 : Nat) (Z0 : n0 ≤ h0.size) :
    MF l Z y20_checkLength b25_ 2 none ws ⟨0, 0, 0, 0⟩ #[(.int 2), (.int 5)] h0 (Q_r29_checkLength Z  h0 n0) := by
  refine own_body (plainFor_of_name pn_Arrays587) (ef_r29_checkLength) (by decide) (by decide) ?_
  intro p e s m below meth c s₁ hx hby hml hown hnm hret hZ hh e0 X0
  have N0 := Fr.nil n0
  refine ⟨s₁, _, none, X0, (fun h => by cases h <;> rfl), ?_, fun fs hr => ?_⟩
  · show Q_r29_checkLength Z  h0 n0 _ s₁.heap _
    rw [e0]
    exact ⟨rfl, N0, rfl⟩
  · refine t_iloadN 1 X0.here hx (hb hby d271) rfl rfl ?_
    refine t_iloadN 2 X0.here hx (hb hby d272) rfl rfl ?_
    refine t_icmpYes (pc := 2) 37 X0.here hx (hb hby d273) (by decide) (by decide) (by decide) ?_
    exact X0.returnOut hx hret (hb hby d274) hr
def Q_r30_min (Z : State)  (h0 : Heap) (n0 : Nat) (v : Option Value) (h : Heap) (L : List Loc) : Prop := v = some (.int 3) ∧ Fr n0 L ∧ h = h0
theorem ef_r30_min (m : MethodId) : entryFrame m #[(.int 3), (.int 3)] 2 = mkF m 0 #[.val (.int 3), .val (.int 3)] [] := by first | (simp [entryFrame, mkF, argsToLocals, Value.category]; done) | rfl
set_option maxRecDepth 65536 in
set_option maxHeartbeats 40000000 in
theorem r30_min (l : Launch) (Z : State) (a0 : Array Value) (hw : HW Z a0) (ws : List Jvm.Cond)  (h0 : Heap) (n0 : Nat) (Z0 : n0 ≤ h0.size) :
    MF l Z y15_min b19_ 2 (some .int) ws ⟨0, 0, 0, 0⟩ #[(.int 3), (.int 3)] h0 (Q_r30_min Z  h0 n0) := by
  refine own_body (Jvm.Free.JP.mathPlain rfl (by decide +kernel)) (ef_r30_min) (by decide) (by decide) ?_
  intro p e s m below meth c s₁ hx hby hml hown hnm hret hZ hh e0 X0
  have N0 := Fr.nil n0
  refine ⟨s₁, _, some (.int 3), X0, (fun h => by cases h <;> rfl), ?_, fun fs hr => ?_⟩
  · show Q_r30_min Z  h0 n0 _ s₁.heap _
    rw [e0]
    exact ⟨rfl, N0, rfl⟩
  · refine t_iloadN 1 X0.here hx (hb hby d179) rfl rfl ?_
    refine t_iloadN 2 X0.here hx (hb hby d180) rfl rfl ?_
    refine t_icmpNo 5 X0.here hx (hb hby d181) (by decide) rfl ?_
    refine t_iloadN 6 X0.here hx (hb hby d182) rfl rfl ?_
    refine t_goto (pc := 6) 10 X0.here hx (hb hby d183) (by decide) (by decide) ?_
    exact retI X0 hx hret (hb hby d184) hr
def Q_r28_copyOfRangeByte (Z : State) (o0 : Addr) (i_3 i_4 i_5 i_6 i_7 : Int32) (k_o0 : ClassId) (h0 : Heap) (n0 : Nat) (v : Option Value) (h : Heap) (L : List Loc) : Prop := ∃ b2 : Addr, ∃ k2 : ClassId, v = some (.ref b2) ∧ Fr n0 L ∧ KL h0 h [] ∧ h0.size ≤ b2 ∧ Arv Z h b2 k2 .byte 3 [(.int i_5), (.int i_6), (.int i_7)] z0
theorem ef_r28_copyOfRangeByte (o0 : Addr) (m : MethodId) : entryFrame m #[(.ref o0), (.int 2), (.int 5)] 5 = mkF m 0 #[.val (.ref o0), .val (.int 2), .val (.int 5), .unset, .unset] [] := by first | (simp [entryFrame, mkF, argsToLocals, Value.category]; done) | rfl
set_option maxRecDepth 65536 in
set_option maxHeartbeats 40000000 in
theorem r28_copyOfRangeByte (l : Launch) (Z : State) (a0 : Array Value) (hw : HW Z a0) (ws : List Jvm.Cond) (o0 : Addr) (i_3 i_4 i_5 i_6 i_7 : Int32) (k_o0 : ClassId) (h0 : Heap) (n0 : Nat) (Z0 : n0 ≤ h0.size) (V_o0 : Arv Z h0 o0 k_o0 .byte 5 [(.int i_3), (.int i_4), (.int i_5), (.int i_6), (.int i_7)] z0) :
    MF l Z y21_copyOfRangeByte b24_ 5 (some (.array .byte)) ws ⟨1, 1, 3, 18⟩ #[(.ref o0), (.int 2), (.int 5)] h0 (Q_r28_copyOfRangeByte Z o0 i_3 i_4 i_5 i_6 i_7 k_o0 h0 n0) := by
  refine own_body (plainFor_of_name pn_Arrays587) (ef_r28_copyOfRangeByte o0) (by decide) (by decide) ?_
  intro p e s m below meth c s₁ hx hby hml hown hnm hret hZ hh e0 X0
  have N0 := Fr.nil n0
  obtain ⟨_, T1, L1, X1, hQ1, st1⟩ := own_static X0 hx hZ hown (w106 hw) (w107 hw) (w101 hw) (w108 hw) (by decide) (r29_checkLength l Z a0 hw []  h0 n0 Z0) e0 (W := 0) (by decide) (g := (mkF m 2 #[vr o0, vi 2, vi 5, .unset, .unset] [(.int 5), (.int 2)])) rfl (by rw [hml]; rfl) (argsL := [(.int 2), (.int 5)]) (rest := []) (lenOf pd_16 rfl) rfl rfl (own_wr rfl rfl) (hb hby d270)
  obtain ⟨rfl, N1q, e1⟩ := hQ1
  have N1 := Fr.app N0 N1q
  obtain ⟨T2, h2, k2, X2, e2, E2, A2, st2⟩ := newP (aty := .byte) X1 hx hZ (w23 hw) e1 (g := (mkF m 10 #[vr o0, vi 2, vi 5, vi 3, .unset] [(.int 3)])) rfl (hb hby d280) rfl (by decide) (cap := 3) (by decide) (by decide) (by decide) (by decide)
  obtain ⟨b2, g2⟩ : ∃ z, z = h0.size := ⟨_, rfl⟩
  rw [← g2] at A2 st2
  have ge_b2 : h0.size ≤ b2 := Nat.le_of_eq g2.symm
  have K2 := KL.ofE E2
  have V2 : Arv Z h2 b2 k2 .byte 3 [z0, z0, z0] z0 := (Arv.new A2 (by decide)).pad (pad_rep [] z0 3)
  have f8 := (kArv K2 V_o0 na0)
  obtain ⟨_, T9, L9, X9, hQ9, st9⟩ := own_static X2 hx hZ hown (w109 hw) (w75 hw) (w72 hw) (w76 hw) (by decide) (r30_min l Z a0 hw []  h2 n0 (Nat.le_trans Z0 K2.1)) e2 (W := 4) (by decide) (g := (mkF m 24 #[vr o0, vi 2, vi 5, vi 3, vr b2] [(.int 3), (.int 3), z0, (.ref b2), (.int 2), (.ref o0)])) rfl (by rw [hml]; rfl) (argsL := [(.int 3), (.int 3)]) (rest := [z0, (.ref b2), (.int 2), (.ref o0)]) (lenOf pd_12 rfl) rfl rfl (own_wr rfl rfl) (hb hby d291)
  obtain ⟨rfl, N9q, e9⟩ := hQ9
  have N9 := Fr.app N1 N9q
  obtain ⟨T10, h10, L10, X10, e10, N10, Kp10, V10, st10⟩ := cpA X9 hx hZ hown (w110 hw) (w113 hw) (w111 hw) (w112 hw) e9 (us := [(.int i_5), (.int i_6), (.int i_7)]) f8 V2 (Or.inl ⟨rfl, rfl⟩) (by decide) (by decide) (by decide) (by decide) (by decide) rfl (by decide) N9 (Nat.le_trans Z0 (Nat.le_trans (Nat.le_refl _) ge_b2)) (g := (mkF m 27 #[vr o0, vi 2, vi 5, vi 3, vr b2] [(.int 3), z0, (.ref b2), (.int 2), (.ref o0)])) rfl (by rw [hml]; rfl) rfl (hb hby d293) (by decide) (W := 0) (by show 2 * 0 + _ ≤ _; exact Nat.le_of_eq rfl) (by decide)
  have K10 : KL h2 h10 [(b2, 0), (b2, 1), (b2, 2)] := own_kcp Kp10 V2 (n := 3) rfl ⟨_, rfl⟩
  replace V10 : Arv Z h10 b2 k2 .byte 3 [(.int i_5), (.int i_6), (.int i_7)] z0 := V10
  -- what was kept, from the start on
  have C0 := (KL.refl h0 []).trans K2 na0
  have C1 := C0.trans K10 (naOM 3 rfl (Nat.le_trans (Nat.le_refl _) ge_b2) na0)
  refine ⟨T10, _, some (.ref b2), X10, (fun h => by cases h <;> rfl), ?_, fun fs hr => ?_⟩
  · show Q_r28_copyOfRangeByte Z o0 i_3 i_4 i_5 i_6 i_7 k_o0 h0 n0 _ T10.heap _
    rw [e10]
    exact ⟨b2, k2, rfl, N10, C1, (Nat.le_trans (Nat.le_refl _) ge_b2), V10⟩
  · refine t_iloadN 1 X0.here hx (hb hby d268) rfl rfl ?_
    refine t_iloadN 2 X0.here hx (hb hby d269) rfl rfl ?_
    refine st1 _ ?_
    refine t_iloadN 6 X1.here hx (hb hby d275) rfl rfl ?_
    refine t_iloadN 7 X1.here hx (hb hby d276) rfl rfl ?_
    refine t_isub 8 (r := 3) X1.here hx (hb hby d277) (by decide : ((5 : Int32) - (2 : Int32)) = (3 : Int32)) rfl ?_
    refine t_istoreN (pc' := 9) (L' := #[vr o0, vi 2, vi 5, vi 3, .unset]) X1.here hx (hb hby d278) rfl rfl ?_
    refine t_iloadN 10 X1.here hx (hb hby d279) rfl rfl ?_
    refine st2 _ ?_
    refine t_astore (pc' := 14) (L' := #[vr o0, vi 2, vi 5, vi 3, vr b2]) X2.here hx (hb hby d281) rfl rfl rfl ?_
    refine t_aloadN 15 X2.here hx (hb hby d282) rfl rfl rfl ?_
    refine t_iloadN 16 X2.here hx (hb hby d283) rfl rfl ?_
    refine t_aload 18 X2.here hx (hb hby d284) rfl rfl rfl ?_
    refine t_iconst 19 (r := 0) X2.here hx (hb hby d285) (by decide) rfl ?_
    refine t_aloadN 20 X2.here hx (hb hby d286) rfl rfl rfl ?_
    refine own_arlen (pc' := 21) X2 hx hZ e2 f8 (hb hby d287) rfl ?_
    refine t_iloadN 22 X2.here hx (hb hby d288) rfl rfl ?_
    refine t_isub 23 (r := 3) X2.here hx (hb hby d289) (by decide : ((5 : Int32) - (2 : Int32)) = (3 : Int32)) rfl ?_
    refine t_iloadN 24 X2.here hx (hb hby d290) rfl rfl ?_
    refine st9 _ ?_
    refine st10 _ ?_
    refine t_aload 32 X10.here hx (hb hby d294) rfl rfl rfl ?_
    jvm_step X10.here [X10.here.top, hx, (hb hby d295), X10.method', hret, Value.isRef, FieldType.isReference]
    first | (intro acts; rw [hr _ acts rfl rfl rfl]) | rw [hr _ _ rfl rfl rfl]
    exact Steps.refl _
def Q_r27_copyOfRange (Z : State) (o0 : Addr) (i_1 i_2 i_3 i_4 i_5 : Int32) (k_o0 : ClassId) (h0 : Heap) (n0 : Nat) (v : Option Value) (h : Heap) (L : List Loc) : Prop := ∃ b2_6 : Addr, ∃ k2_6 : ClassId, v = some (.ref b2_6) ∧ Fr n0 L ∧ KL h0 h [] ∧ h0.size ≤ b2_6 ∧ Arv Z h b2_6 k2_6 .byte 3 [(.int i_3), (.int i_4), (.int i_5)] z0
theorem ef_r27_copyOfRange (o0 : Addr) (m : MethodId) : entryFrame m #[(.ref o0), (.int 2), (.int 5)] 3 = mkF m 0 #[.val (.ref o0), .val (.int 2), .val (.int 5)] [] := by first | (simp [entryFrame, mkF, argsToLocals, Value.category]; done) | rfl
set_option maxRecDepth 65536 in
set_option maxHeartbeats 40000000 in
theorem r27_copyOfRange (l : Launch) (Z : State) (a0 : Array Value) (hw : HW Z a0) (ws : List Jvm.Cond) (o0 : Addr) (i_1 i_2 i_3 i_4 i_5 : Int32) (k_o0 : ClassId) (h0 : Heap) (n0 : Nat) (Z0 : n0 ≤ h0.size) (V_o0 : Arv Z h0 o0 k_o0 .byte 5 [(.int i_1), (.int i_2), (.int i_3), (.int i_4), (.int i_5)] z0) :
    MF l Z y22_copyOfRange b23_ 3 (some (.array .byte)) ws ⟨2, 1, 3, 34⟩ #[(.ref o0), (.int 2), (.int 5)] h0 (Q_r27_copyOfRange Z o0 i_1 i_2 i_3 i_4 i_5 k_o0 h0 n0) := by
  refine own_body (plainFor_of_name pn_Arrays587) (ef_r27_copyOfRange o0) (by decide) (by decide) ?_
  intro p e s m below meth c s₁ hx hby hml hown hnm hret hZ hh e0 X0
  have N0 := Fr.nil n0
  obtain ⟨_, T6, L6, X6, hQ6, st6⟩ := own_static X0 hx hZ hown (w103 hw) (w104 hw) (w101 hw) (w105 hw) (by decide) (r28_copyOfRangeByte l Z a0 hw [] o0 i_1 i_2 i_3 i_4 i_5 k_o0 h0 n0 Z0 V_o0) e0 (W := 0) (by decide) (g := (mkF m 13 #[vr o0, vi 2, vi 5] [(.int 5), (.int 2), (.ref o0)])) rfl (by rw [hml]; rfl) (argsL := [(.ref o0), (.int 2), (.int 5)]) (rest := []) (lenOf pd_17 rfl) rfl rfl (own_wr rfl rfl) (hb hby d267)
  obtain ⟨b2_6, k2_6, rfl, N6q, K6, Q6_0, Q6_1⟩ := hQ6
  have N6 := Fr.app N0 N6q
  -- what was kept, from the start on
  have C0 := (KL.refl h0 []).trans K6 na0
  refine ⟨T6, _, some (.ref b2_6), X6, (fun h => by cases h <;> rfl), ?_, fun fs hr => ?_⟩
  · show Q_r27_copyOfRange Z o0 i_1 i_2 i_3 i_4 i_5 k_o0 h0 n0 _ T6.heap _
    exact ⟨b2_6, k2_6, rfl, N6, C0, (Nat.le_trans (Nat.le_refl _) Q6_0), Q6_1⟩
  · refine t_iloadN 1 X0.here hx (hb hby d258) rfl rfl ?_
    refine t_ifYes (pc := 1) 10 X0.here hx (hb hby d259) (by decide) (by decide) (by decide) ?_
    refine t_aloadN 11 X0.here hx (hb hby d264) rfl rfl rfl ?_
    refine t_iloadN 12 X0.here hx (hb hby d265) rfl rfl ?_
    refine t_iloadN 13 X0.here hx (hb hby d266) rfl rfl ?_
    refine st6 _ ?_
    jvm_step X6.here [X6.here.top, hx, (hb hby d296), X6.method', hret, Value.isRef, FieldType.isReference]
    first | (intro acts; rw [hr _ acts rfl rfl rfl]) | rw [hr _ _ rfl rfl rfl]
    exact Steps.refl _
def Q_r26_newString (Z : State) (o0 : Addr) (i_2 i_3 i_4 i_5 i_6 : Int32) (k_o0 : ClassId) (h0 : Heap) (n0 : Nat) (v : Option Value) (h : Heap) (L : List Loc) : Prop := ∃ b1 : Addr, ∃ b2_6_7 : Addr, ∃ k2_6_7 : ClassId, v = some (.ref b1) ∧ Fr n0 L ∧ KL h0 h [] ∧ h0.size ≤ b1 ∧ h0.size ≤ b2_6_7 ∧ b1 ≠ b2_6_7 ∧ Ex0 Z h b1 ∧ Fd0 Z h b1 z0 ∧ Fd1 Z h b1 (.ref b2_6_7) ∧ Arv Z h b2_6_7 k2_6_7 .byte 3 [(.int i_4), (.int i_5), (.int i_6)] z0
theorem ef_r26_newString (o0 : Addr) (m : MethodId) : entryFrame m #[(.ref o0), (.int 2), (.int 3)] 3 = mkF m 0 #[.val (.ref o0), .val (.int 2), .val (.int 3)] [] := by first | (simp [entryFrame, mkF, argsToLocals, Value.category]; done) | rfl
set_option maxRecDepth 65536 in
set_option maxHeartbeats 40000000 in
theorem r26_newString (l : Launch) (Z : State) (a0 : Array Value) (hw : HW Z a0) (ws : List Jvm.Cond) (o0 : Addr) (i_2 i_3 i_4 i_5 i_6 : Int32) (k_o0 : ClassId) (h0 : Heap) (n0 : Nat) (Z0 : n0 ≤ h0.size) (V_o0 : Arv Z h0 o0 k_o0 .byte 5 [(.int i_2), (.int i_3), (.int i_4), (.int i_5), (.int i_6)] z0) :
    MF l Z y24_newString b22_ 3 (some (.object "java/lang/String")) ws ⟨3, 2, 7, 50⟩ #[(.ref o0), (.int 2), (.int 3)] h0 (Q_r26_newString Z o0 i_2 i_3 i_4 i_5 i_6 k_o0 h0 n0) := by
  refine own_body (plainFor_of_name pn_StringLatin1120) (ef_r26_newString o0) (by decide) (by decide) ?_
  intro p e s m below meth c s₁ hx hby hml hown hnm hret hZ hh e0 X0
  have N0 := Fr.nil n0
  obtain ⟨T1, h1, X1, e1, E1, A1, D1, -, st1⟩ := newO X0 hx hZ hown (w98 hw) (w6 hw) (w7 hw) e0 (g := (mkF m 7 #[vr o0, vi 2, vi 3] [])) rfl (hb hby d250) (by decide) (by decide)
  obtain ⟨b1, g1⟩ : ∃ z, z = h0.size := ⟨_, rfl⟩
  rw [← g1] at A1 D1 st1
  have ge_b1 : h0.size ≤ b1 := Nat.le_of_eq g1.symm
  have K1 := KL.ofE E1
  have F_b1_coder : Fd0 Z h1 b1 z0 := D1 (Or.inr (w31 hw)) (ty := .byte) (by decide)
  have F_b1_value : Fd1 Z h1 b1 .null := D1 (Or.inr (w33 hw)) (ty := (.array .byte)) (by decide)
  have f8 := (kArv K1 V_o0 na0)
  obtain ⟨_, T7, L7, X7, hQ7, st7⟩ := own_static X1 hx hZ hown (w99 hw) (w100 hw) (w101 hw) (w102 hw) (by decide) (r27_copyOfRange l Z a0 hw [] o0 i_2 i_3 i_4 i_5 i_6 k_o0 h1 n0 (Nat.le_trans Z0 K1.1) f8) e1 (W := 2) (by decide) (g := (mkF m 16 #[vr o0, vi 2, vi 3] [(.int 5), (.int 2), (.ref o0), (.ref b1), (.ref b1)])) rfl (by rw [hml]; rfl) (argsL := [(.ref o0), (.int 2), (.int 5)]) (rest := [(.ref b1), (.ref b1)]) (lenOf pd_17 rfl) rfl rfl (own_wr rfl rfl) (hb hby d257)
  obtain ⟨b2_6_7, k2_6_7, rfl, N7q, K7, Q7_0, Q7_1⟩ := hQ7
  have N7 := Fr.app N0 N7q
  have f11 := (kFld K7 F_b1_value nw0)
  have f12 := (kExa K7 A1)
  have f13 := (kFld K7 F_b1_coder nw0)
  have sz_0_2 := (Nat.le_trans K1.1 K7.1)
  obtain ⟨_, T10, L10, X10, hQ10, st10⟩ := own_init X7 hx hZ rfl hown (w114 hw) (w115 hw) (w7 hw) (w116 hw) (by decide) (r23__init_ l Z a0 hw [] b1 b2_6_7 T7.heap n0 (Nat.le_trans Z0 sz_0_2) f11 f12 (Nat.le_trans Z0 (Nat.le_trans (Nat.le_refl _) ge_b1)) f13) rfl (W := 1) (by decide) (g := (mkF m 20 #[vr o0, vi 2, vi 3] [z0, (.ref b2_6_7), (.ref b1), (.ref b1)])) rfl (by rw [hml]; rfl) (argsL := [(.ref b2_6_7), z0]) (rest := [(.ref b1)]) (lenOf pd_18 rfl) rfl rfl (own_wr rfl rfl) (hb hby d298)
  obtain ⟨rfl, N10q, K10, Q10_0, Q10_1⟩ := hQ10
  have N10 := Fr.app N7 N10q
  -- what was kept, from the start on
  have C0 := (KL.refl h0 []).trans K1 na0
  have C1 := C0.trans K7 na0
  have C2 := C1.trans K10 (naO (Or.inr (Nat.le_trans (Nat.le_refl _) ge_b1)) (naO (Or.inr (Nat.le_trans (Nat.le_refl _) ge_b1)) na0))
  have lt_b1 : b1 < h1.size := Exa.lt A1
  have f14 := (kExa K10 f12)
  have f15 := (kArv K10 Q7_1 (naN (lt_ne lt_b1 Q7_0) (naN (lt_ne lt_b1 Q7_0) na0)))
  refine ⟨T10, _, some (.ref b1), X10, (fun h => by cases h <;> rfl), ?_, fun fs hr => ?_⟩
  · show Q_r26_newString Z o0 i_2 i_3 i_4 i_5 i_6 k_o0 h0 n0 _ T10.heap _
    exact ⟨b1, b2_6_7, k2_6_7, rfl, N10, C2, (Nat.le_trans (Nat.le_refl _) ge_b1), (Nat.le_trans K1.1 Q7_0), (lt_ne lt_b1 Q7_0), f14, Q10_1, Q10_0, f15⟩
  · refine t_iloadN 1 X0.here hx (hb hby d248) rfl rfl ?_
    refine t_ifYes (pc := 1) 7 X0.here hx (hb hby d249) (by decide) (by decide) (by decide) ?_
    refine st1 _ ?_
    refine t_dup 11 X1.here hx (hb hby d251) rfl rfl ?_
    refine t_aloadN 12 X1.here hx (hb hby d252) rfl rfl rfl ?_
    refine t_iloadN 13 X1.here hx (hb hby d253) rfl rfl ?_
    refine t_iloadN 14 X1.here hx (hb hby d254) rfl rfl ?_
    refine t_iloadN 15 X1.here hx (hb hby d255) rfl rfl ?_
    refine t_iadd 16 (r := 5) X1.here hx (hb hby d256) (by decide : ((2 : Int32) + (3 : Int32)) = (5 : Int32)) rfl ?_
    refine st7 _ ?_
    refine t_iconst 20 (r := 0) X7.here hx (hb hby d297) (by decide) rfl ?_
    refine st10 _ ?_
    jvm_step X10.here [X10.here.top, hx, (hb hby d308), X10.method', hret, Value.isRef, FieldType.isReference]
    first | (intro acts; rw [hr _ acts rfl rfl rfl]) | rw [hr _ _ rfl rfl rfl]
    exact Steps.refl _
def Q_r25_substring (Z : State) (o0 o_1 : Addr) (i_2 i_3 i_4 i_5 i_6 : Int32) (k_o_1 : ClassId) (i_7 : Int32) (u_9 : Value) (h0 : Heap) (n0 : Nat) (v : Option Value) (h : Heap) (L : List Loc) : Prop := ∃ b1_13 : Addr, ∃ b2_6_7_13 : Addr, ∃ k2_6_7_13 : ClassId, v = some (.ref b1_13) ∧ Fr n0 L ∧ KL h0 h [] ∧ h0.size ≤ b1_13 ∧ h0.size ≤ b2_6_7_13 ∧ b1_13 ≠ b2_6_7_13 ∧ Ex0 Z h b1_13 ∧ Fd0 Z h b1_13 z0 ∧ Fd1 Z h b1_13 (.ref b2_6_7_13) ∧ Arv Z h b2_6_7_13 k2_6_7_13 .byte 3 [(.int i_4), (.int i_5), (.int i_6)] z0
theorem ef_r25_substring (o0 : Addr) (m : MethodId) : entryFrame m #[(.ref o0), (.int 2), (.int 5)] 5 = mkF m 0 #[.val (.ref o0), .val (.int 2), .val (.int 5), .unset, .unset] [] := by first | (simp [entryFrame, mkF, argsToLocals, Value.category]; done) | rfl
set_option maxRecDepth 65536 in
set_option maxHeartbeats 40000000 in
theorem r25_substring (l : Launch) (Z : State) (a0 : Array Value) (hw : HW Z a0) (ws : List Jvm.Cond) (o0 o_1 : Addr) (i_2 i_3 i_4 i_5 i_6 : Int32) (k_o_1 : ClassId) (i_7 : Int32) (u_9 : Value) (h0 : Heap) (n0 : Nat) (Z0 : n0 ≤ h0.size) (E_o0 : Ex0 Z h0 o0) (F_o0_value : Fd1 Z h0 o0 (.ref o_1)) (V_o_1 : Arv Z h0 o_1 k_o_1 .byte 5 [(.int i_2), (.int i_3), (.int i_4), (.int i_5), (.int i_6)] z0) (S_COMPACT_STRINGS : SCS Z i_7) (F_o0_coder : Fd0 Z h0 o0 z0) (O0 : Old Z n0 h0) (hp0 : ¬ (i_7 = (0 : Int32))) (S_SIOOBE_FORMATTER : Sta Z Z.heap "jdk/internal/util/Preconditions" "SIOOBE_FORMATTER" "Ljava/util/function/BiFunction;" u_9) (hp1 : u_9.isRef = true) :
    MF l Z y25_substring b21_ 5 (some (.object "java/lang/String")) ws ⟨4, 2, 7, 64⟩ #[(.ref o0), (.int 2), (.int 5)] h0 (Q_r25_substring Z o0 o_1 i_2 i_3 i_4 i_5 i_6 k_o_1 i_7 u_9 h0 n0) := by
  refine own_body (plainFor_of_name pn_String564) (ef_r25_substring o0) (by decide) (by decide) ?_
  intro p e s m below meth c s₁ hx hby hml hown hnm hret hZ hh e0 X0
  have N0 := Fr.nil n0
  obtain ⟨_, T8, L8, X8, hQ8, st8⟩ := own_virtual X0 hx hZ hown (w53 hw) (w54 hw) (notFace_of_selects (args := #[]) (mvT hZ (w56 hw))) (w56 hw) (w55 hw) (w7 hw) (w57 hw) (by decide) (r10_length l Z a0 hw [] o0 o_1 i_2 i_3 i_4 i_5 i_6 k_o_1 i_7 h0 n0 Z0 F_o0_value V_o_1 E_o0 S_COMPACT_STRINGS F_o0_coder O0 hp0) e0 E_o0 (W := 0) (by decide) (g := (mkF m 1 #[vr o0, vi 2, vi 5, .unset, .unset] [(.ref o0)])) rfl (by rw [hml]; rfl) (argsL := []) (rest := []) (lenOf pd_10 rfl) rfl rfl (own_wr rfl rfl) (hb hby d225)
  obtain ⟨rfl, N8q, e8⟩ := hQ8
  have N8 := Fr.app N0 N8q
  obtain ⟨_, T10, L10, X10, hQ10, st10⟩ := own_static X8 hx hZ hown (w87 hw) (w88 hw) (w7 hw) (w89 hw) (by decide) (r_checkBoundsBeginEnd l Z a0 hw [] (2 : Int32) (5 : Int32) (5 : Int32) u_9 h0 n0 Z0 hp1 S_SIOOBE_FORMATTER O0 (by decide) (by decide) (by decide)) e8 (W := 0) (by decide) (g := (mkF m 8 #[vr o0, vi 2, vi 5, vi 5, .unset] [(.int 5), (.int 5), (.int 2)])) rfl (by rw [hml]; rfl) (argsL := [(.int 2), (.int 5), (.int 5)]) (rest := []) (lenOf pd_15 rfl) rfl rfl (own_wr rfl rfl) (hb hby d230)
  obtain ⟨rfl, N10q, e10⟩ := hQ10
  have N10 := Fr.app N8 N10q
  obtain ⟨_, T11, L11, X11, hQ11, st11⟩ := own_virtual X10 hx hZ hown (w48 hw) (w49 hw) (notFace_of_selects (args := #[]) (mvT hZ (w51 hw))) (w51 hw) (w50 hw) (w7 hw) (w52 hw) (by decide) (r9_isLatin1 l Z a0 hw [] o0 i_7 h0 n0 Z0 S_COMPACT_STRINGS O0 hp0 F_o0_coder) e10 E_o0 (W := 0) (by decide) (g := (mkF m 28 #[vr o0, vi 2, vi 5, vi 5, vi 3] [(.ref o0)])) rfl (by rw [hml]; rfl) (argsL := []) (rest := []) (lenOf pd_8 rfl) rfl rfl (own_wr rfl rfl) (hb hby d241)
  obtain ⟨rfl, N11q, e11⟩ := hQ11
  have N11 := Fr.app N10 N11q
  obtain ⟨T12, X12, e12, st12⟩ := getF X11 hx hZ hown (host := "") (Or.inl (w32 hw)) Via.refl e11 F_o0_value (g := (mkF m 35 #[vr o0, vi 2, vi 5, vi 5, vi 3] [(.ref o0)])) rfl rfl (hb hby d244)
  obtain ⟨_, T13, L13, X13, hQ13, st13⟩ := own_static X12 hx hZ hown (w95 hw) (w96 hw) (w65 hw) (w97 hw) (by decide) (r26_newString l Z a0 hw [] o_1 i_2 i_3 i_4 i_5 i_6 k_o_1 h0 n0 Z0 V_o_1) e12 (W := 0) (by decide) (g := (mkF m 41 #[vr o0, vi 2, vi 5, vi 5, vi 3] [(.int 3), (.int 2), (.ref o_1)])) rfl (by rw [hml]; rfl) (argsL := [(.ref o_1), (.int 2), (.int 3)]) (rest := []) (lenOf pd_19 rfl) rfl rfl (own_wr rfl rfl) (hb hby d247)
  obtain ⟨b1_13, b2_6_7_13, k2_6_7_13, rfl, N13q, K13, Q13_0, Q13_1, Q13_2, Q13_3, Q13_4, Q13_5, Q13_6⟩ := hQ13
  have N13 := Fr.app N11 N13q
  -- what was kept, from the start on
  have C0 := (KL.refl h0 []).trans K13 na0
  refine ⟨T13, _, some (.ref b1_13), X13, (fun h => by cases h <;> rfl), ?_, fun fs hr => ?_⟩
  · show Q_r25_substring Z o0 o_1 i_2 i_3 i_4 i_5 i_6 k_o_1 i_7 u_9 h0 n0 _ T13.heap _
    exact ⟨b1_13, b2_6_7_13, k2_6_7_13, rfl, N13, C0, (Nat.le_trans (Nat.le_refl _) Q13_0), (Nat.le_trans (Nat.le_refl _) Q13_1), Q13_2, Q13_3, Q13_4, Q13_5, Q13_6⟩
  · refine t_aloadN 1 X0.here hx (hb hby d224) rfl rfl rfl ?_
    refine st8 _ ?_
    refine t_istoreN (pc' := 5) (L' := #[vr o0, vi 2, vi 5, vi 5, .unset]) X8.here hx (hb hby d226) rfl rfl ?_
    refine t_iloadN 6 X8.here hx (hb hby d227) rfl rfl ?_
    refine t_iloadN 7 X8.here hx (hb hby d228) rfl rfl ?_
    refine t_iloadN 8 X8.here hx (hb hby d229) rfl rfl ?_
    refine st10 _ ?_
    refine t_iloadN 12 X10.here hx (hb hby d231) rfl rfl ?_
    refine t_ifYes (pc := 12) 22 X10.here hx (hb hby d232) (by decide) (by decide) (by decide) ?_
    refine t_iloadN 23 X10.here hx (hb hby d236) rfl rfl ?_
    refine t_iloadN 24 X10.here hx (hb hby d237) rfl rfl ?_
    refine t_isub 25 (r := 3) X10.here hx (hb hby d238) (by decide : ((5 : Int32) - (2 : Int32)) = (3 : Int32)) rfl ?_
    refine t_istore (pc' := 27) (L' := #[vr o0, vi 2, vi 5, vi 5, vi 3]) X10.here hx (hb hby d239) rfl rfl ?_
    refine t_aloadN 28 X10.here hx (hb hby d240) rfl rfl rfl ?_
    refine st11 _ ?_
    refine t_ifNo 34 X11.here hx (hb hby d242) (by decide) rfl ?_
    refine t_aloadN 35 X11.here hx (hb hby d243) rfl rfl rfl ?_
    refine st12 _ ?_
    refine t_iloadN 39 X12.here hx (hb hby d245) rfl rfl ?_
    refine t_iload 41 X12.here hx (hb hby d246) rfl rfl ?_
    refine st13 _ ?_
    refine t_goto (pc := 44) 57 X13.here hx (hb hby d309) (by decide) (by decide) ?_
    jvm_step X13.here [X13.here.top, hx, (hb hby d310), X13.method', hret, Value.isRef, FieldType.isReference]
    first | (intro acts; rw [hr _ acts rfl rfl rfl]) | rw [hr _ _ rfl rfl rfl]
    exact Steps.refl _
theorem d321 : decode b27_ 9 = .ok (.areturn, 1) := by decide +kernel
abbrev y26_substring : MethodName := ⟨"java/lang/String", "substring", "(I)Ljava/lang/String;"⟩
def Q_r24_substring (Z : State) (o0 o_1 : Addr) (i_2 i_3 i_4 i_5 i_6 : Int32) (k_o_1 : ClassId) (i_7 : Int32) (u_9 : Value) (h0 : Heap) (n0 : Nat) (v : Option Value) (h : Heap) (L : List Loc) : Prop := ∃ b1_13_10 : Addr, ∃ b2_6_7_13_10 : Addr, ∃ k2_6_7_13_10 : ClassId, v = some (.ref b1_13_10) ∧ Fr n0 L ∧ KL h0 h [] ∧ h0.size ≤ b1_13_10 ∧ h0.size ≤ b2_6_7_13_10 ∧ b1_13_10 ≠ b2_6_7_13_10 ∧ Ex0 Z h b1_13_10 ∧ Fd0 Z h b1_13_10 z0 ∧ Fd1 Z h b1_13_10 (.ref b2_6_7_13_10) ∧ Arv Z h b2_6_7_13_10 k2_6_7_13_10 .byte 3 [(.int i_4), (.int i_5), (.int i_6)] z0
theorem ef_r24_substring (o0 : Addr) (m : MethodId) : entryFrame m #[(.ref o0), (.int 2)] 2 = mkF m 0 #[.val (.ref o0), .val (.int 2)] [] := by first | (simp [entryFrame, mkF, argsToLocals, Value.category]; done) | rfl
set_option maxRecDepth 65536 in
set_option maxHeartbeats 40000000 in
theorem r24_substring (l : Launch) (Z : State) (a0 : Array Value) (hw : HW Z a0) (ws : List Jvm.Cond) (o0 o_1 : Addr) (i_2 i_3 i_4 i_5 i_6 : Int32) (k_o_1 : ClassId) (i_7 : Int32) (u_9 : Value) (h0 : Heap) (n0 : Nat) (Z0 : n0 ≤ h0.size) (E_o0 : Ex0 Z h0 o0) (F_o0_value : Fd1 Z h0 o0 (.ref o_1)) (V_o_1 : Arv Z h0 o_1 k_o_1 .byte 5 [(.int i_2), (.int i_3), (.int i_4), (.int i_5), (.int i_6)] z0) (S_COMPACT_STRINGS : SCS Z i_7) (F_o0_coder : Fd0 Z h0 o0 z0) (O0 : Old Z n0 h0) (hp0 : ¬ (i_7 = (0 : Int32))) (S_SIOOBE_FORMATTER : Sta Z Z.heap "jdk/internal/util/Preconditions" "SIOOBE_FORMATTER" "Ljava/util/function/BiFunction;" u_9) (hp1 : u_9.isRef = true) :
    MF l Z y26_substring b27_ 2 (some (.object "java/lang/String")) ws ⟨5, 2, 7, 80⟩ #[(.ref o0), (.int 2)] h0 (Q_r24_substring Z o0 o_1 i_2 i_3 i_4 i_5 i_6 k_o_1 i_7 u_9 h0 n0) := by
  refine own_body (plainFor_of_name pn_String564) (ef_r24_substring o0) (by decide) (by decide) ?_
  intro p e s m below meth c s₁ hx hby hml hown hnm hret hZ hh e0 X0
  have N0 := Fr.nil n0
  obtain ⟨_, T8, L8, X8, hQ8, st8⟩ := own_virtual X0 hx hZ hown (w53 hw) (w54 hw) (notFace_of_selects (args := #[]) (mvT hZ (w56 hw))) (w56 hw) (w55 hw) (w7 hw) (w57 hw) (by decide) (r10_length l Z a0 hw [] o0 o_1 i_2 i_3 i_4 i_5 i_6 k_o_1 i_7 h0 n0 Z0 F_o0_value V_o_1 E_o0 S_COMPACT_STRINGS F_o0_coder O0 hp0) e0 E_o0 (W := 2) (by decide) (g := (mkF m 3 #[vr o0, vi 2] [(.ref o0), (.int 2), (.ref o0)])) rfl (by rw [hml]; rfl) (argsL := []) (rest := [(.int 2), (.ref o0)]) (lenOf pd_10 rfl) rfl rfl (own_wr rfl rfl) (hb hby d319)
  obtain ⟨rfl, N8q, e8⟩ := hQ8
  have N8 := Fr.app N0 N8q
  obtain ⟨_, T10, L10, X10, hQ10, st10⟩ := own_virtual X8 hx hZ hown (w122 hw) (w83 hw) (notFace_of_selects (args := #[]) (mvT hZ (w85 hw))) (w85 hw) (w84 hw) (w7 hw) (w86 hw) (by decide) (r25_substring l Z a0 hw [] o0 o_1 i_2 i_3 i_4 i_5 i_6 k_o_1 i_7 u_9 h0 n0 Z0 E_o0 F_o0_value V_o_1 S_COMPACT_STRINGS F_o0_coder O0 hp0 S_SIOOBE_FORMATTER hp1) e8 E_o0 (W := 0) (by decide) (g := (mkF m 6 #[vr o0, vi 2] [(.int 5), (.int 2), (.ref o0)])) rfl (by rw [hml]; rfl) (argsL := [(.int 2), (.int 5)]) (rest := []) (lenOf pd_20 rfl) rfl rfl (own_wr rfl rfl) (hb hby d320)
  obtain ⟨b1_13_10, b2_6_7_13_10, k2_6_7_13_10, rfl, N10q, K10, Q10_0, Q10_1, Q10_2, Q10_3, Q10_4, Q10_5, Q10_6⟩ := hQ10
  have N10 := Fr.app N8 N10q
  -- what was kept, from the start on
  have C0 := (KL.refl h0 []).trans K10 na0
  refine ⟨T10, _, some (.ref b1_13_10), X10, (fun h => by cases h <;> rfl), ?_, fun fs hr => ?_⟩
  · show Q_r24_substring Z o0 o_1 i_2 i_3 i_4 i_5 i_6 k_o_1 i_7 u_9 h0 n0 _ T10.heap _
    exact ⟨b1_13_10, b2_6_7_13_10, k2_6_7_13_10, rfl, N10, C0, (Nat.le_trans (Nat.le_refl _) Q10_0), (Nat.le_trans (Nat.le_refl _) Q10_1), Q10_2, Q10_3, Q10_4, Q10_5, Q10_6⟩
  · refine t_aloadN 1 X0.here hx (hb hby d316) rfl rfl rfl ?_
    refine t_iloadN 2 X0.here hx (hb hby d317) rfl rfl ?_
    refine t_aloadN 3 X0.here hx (hb hby d318) rfl rfl rfl ?_
    refine st8 _ ?_
    refine st10 _ ?_
    jvm_step X10.here [X10.here.top, hx, (hb hby d321), X10.method', hret, Value.isRef, FieldType.isReference]
    first | (intro acts; rw [hr _ acts rfl rfl rfl]) | rw [hr _ _ rfl rfl rfl]
    exact Steps.refl _
def w121 (hw : HW Z a0) := ow 121 hw rfl
theorem pd_21 : parseMethodDescriptor "(I)Ljava/lang/String;" = some ⟨[.int], some (.object "java/lang/String")⟩ := by decide +kernel
def w118 (hw : HW Z a0) := ow 118 hw rfl
def w119 (hw : HW Z a0) := ow 119 hw rfl
theorem d322 : decode b10_ 42 = .ok (.invokespecial 53, 3) := by decide +kernel
def w123 (hw : HW Z a0) := ow 123 hw rfl
abbrev b28_ := prog_2_method_1_code
theorem d323 : decode b28_ 0 = .ok (.aload_n 0, 1) := by decide +kernel
theorem d324 : decode b28_ 1 = .ok (.invokespecial 1, 3) := by decide +kernel
def w126 (hw : HW Z a0) := ow 126 hw rfl
abbrev b29_ := jdk_30_method_1_code
theorem d325 : decode b29_ 0 = .ok (.aload_n 0, 1) := by decide +kernel
theorem d326 : decode b29_ 1 = .ok (.invokespecial 1, 3) := by decide +kernel
def w131 (hw : HW Z a0) := ow 131 hw rfl
theorem d327 : decode b29_ 4 = .ok (.return_, 1) := by decide +kernel
theorem pn_Record540 : plainName "java/lang/Record" = true := by first | (simp [plainName, overriddenIn]; done) | decide +kernel
abbrev y27__init_ : MethodName := ⟨"java/lang/Record", "<init>", "()V"⟩
def Q_r32__init_ (Z : State) (o0 : Addr) (h0 : Heap) (n0 : Nat) (v : Option Value) (h : Heap) (L : List Loc) : Prop := v = none ∧ Fr n0 L ∧ h = h0
theorem ef_r32__init_ (o0 : Addr) (m : MethodId) : entryFrame m #[(.ref o0)] 1 = mkF m 0 #[.val (.ref o0)] [] := by first | (simp [entryFrame, mkF, argsToLocals, Value.category]; done) | rfl
set_option maxRecDepth 65536 in
set_option maxHeartbeats 40000000 in
theorem r32__init_ (l : Launch) (Z : State) (a0 : Array Value) (hw : HW Z a0) (ws : List Jvm.Cond) (o0 : Addr) (h0 : Heap) (n0 : Nat) (Z0 : n0 ≤ h0.size) :
    MF l Z y27__init_ b29_ 1 none ws ⟨1, 0, 0, 12⟩ #[(.ref o0)] h0 (Q_r32__init_ Z o0 h0 n0) := by
  refine own_body (plainFor_of_name pn_Record540) (ef_r32__init_ o0) (by decide) (by decide) ?_
  intro p e s m below meth c s₁ hx hby hml hown hnm hret hZ hh e0 X0
  have N0 := Fr.nil n0
  obtain ⟨T1, X1, e1, st1⟩ := initO X0 hx hZ hown (w131 hw) (w16 hw) (w17 hw) e0 (g := (mkF m 1 #[vr o0] [(.ref o0)])) rfl (by rw [hml]; rfl) rfl (hb hby d326) (by decide) (W := 0) (by show 2 * 0 + _ ≤ _; exact Nat.le_of_eq rfl) (by decide)
  refine ⟨T1, _, none, X1, (fun h => by cases h <;> rfl), ?_, fun fs hr => ?_⟩
  · show Q_r32__init_ Z o0 h0 n0 _ T1.heap _
    rw [e1]
    exact ⟨rfl, N0, rfl⟩
  · refine t_aloadN 1 X0.here hx (hb hby d325) rfl rfl rfl ?_
    refine st1 _ ?_
    exact X1.returnOut hx hret (hb hby d327) hr
def w130 (hw : HW Z a0) := ow 130 hw rfl
def w129 (hw : HW Z a0) := ow 129 hw rfl
theorem pd_22 : parseMethodDescriptor "()V" = some ⟨[], none⟩ := by decide +kernel
def w127 (hw : HW Z a0) := ow 127 hw rfl
theorem d328 : decode b28_ 4 = .ok (.aload_n 1, 1) := by decide +kernel
theorem d329 : decode b28_ 5 = .ok (.ldc 7, 2) := by decide +kernel
def w132 (hw : HW Z a0) := ow 132 hw rfl
def w133 (hw : HW Z a0) := ow 133 hw rfl
def w134 (hw : HW Z a0) := ow 134 hw rfl
theorem own_wS {Z : State} {a0 : Array Value} (hw : HW Z a0) : ∀ a ∈ Bundle.stringAtoms, a.before a0 Z = true := fun a ha => by
  simp only [Bundle.stringAtoms, List.mem_cons, List.not_mem_nil, or_false] at ha
  rcases ha with rfl | rfl | rfl | rfl | rfl | rfl | rfl
  all_goals first | exact (w6 hw) | exact (w7 hw) | exact (w23 hw) | exact (w33 hw) | exact (w31 hw) | exact (w133 hw) | exact (w134 hw)
theorem d330 : decode b28_ 7 = .ok (.invokestatic 9, 3) := by decide +kernel
def w135 (hw : HW Z a0) := ow 135 hw rfl
abbrev b30_ := jdk_31_method_11_code
theorem d331 : decode b30_ 0 = .ok (.aload_n 0, 1) := by decide +kernel
theorem d332 : decode b30_ 1 = .ok (.ifnonnull 12, 3) := by decide +kernel
theorem d333 : decode b30_ 13 = .ok (.aload_n 0, 1) := by decide +kernel
theorem d334 : decode b30_ 14 = .ok (.areturn, 1) := by decide +kernel
theorem pn_Objects675 : plainName "java/util/Objects" = true := by first | (simp [plainName, overriddenIn]; done) | decide +kernel
abbrev y28_requireNonNull : MethodName := ⟨"java/util/Objects", "requireNonNull", "(Ljava/lang/Object;Ljava/lang/String;)Ljava/lang/Object;"⟩
def Q_r33_requireNonNull (Z : State) (o0 o1 : Addr) (h0 : Heap) (n0 : Nat) (v : Option Value) (h : Heap) (L : List Loc) : Prop := v = some (.ref o0) ∧ Fr n0 L ∧ h = h0
theorem ef_r33_requireNonNull (o0 o1 : Addr) (m : MethodId) : entryFrame m #[(.ref o0), (.ref o1)] 2 = mkF m 0 #[.val (.ref o0), .val (.ref o1)] [] := by first | (simp [entryFrame, mkF, argsToLocals, Value.category]; done) | rfl
set_option maxRecDepth 65536 in
set_option maxHeartbeats 40000000 in
theorem r33_requireNonNull (l : Launch) (Z : State) (a0 : Array Value) (hw : HW Z a0) (ws : List Jvm.Cond) (o0 o1 : Addr) (h0 : Heap) (n0 : Nat) (Z0 : n0 ≤ h0.size) :
    MF l Z y28_requireNonNull b30_ 2 (some (.object "java/lang/Object")) ws ⟨0, 0, 0, 0⟩ #[(.ref o0), (.ref o1)] h0 (Q_r33_requireNonNull Z o0 o1 h0 n0) := by
  refine own_body (plainFor_of_name pn_Objects675) (ef_r33_requireNonNull o0 o1) (by decide) (by decide) ?_
  intro p e s m below meth c s₁ hx hby hml hown hnm hret hZ hh e0 X0
  have N0 := Fr.nil n0
  refine ⟨s₁, _, some (.ref o0), X0, (fun h => by cases h <;> rfl), ?_, fun fs hr => ?_⟩
  · show Q_r33_requireNonNull Z o0 o1 h0 n0 _ s₁.heap _
    rw [e0]
    exact ⟨rfl, N0, rfl⟩
  · refine t_aloadN 1 X0.here hx (hb hby d331) rfl rfl rfl ?_
    refine t_ifnonnullYes (pc := 1) 13 X0.here hx (hb hby d332) (by decide) (by decide) ?_
    refine t_aloadN 14 X0.here hx (hb hby d333) rfl rfl rfl ?_
    jvm_step X0.here [X0.here.top, hx, (hb hby d334), X0.method', hret, Value.isRef, FieldType.isReference]
    first | (intro acts; rw [hr _ acts rfl rfl rfl]) | rw [hr _ _ rfl rfl rfl]
    exact Steps.refl _
def w138 (hw : HW Z a0) := ow 138 hw rfl
def w137 (hw : HW Z a0) := ow 137 hw rfl
theorem pd_23 : parseMethodDescriptor "(Ljava/lang/Object;Ljava/lang/String;)Ljava/lang/Object;" = some ⟨[(.object "java/lang/Object"), (.object "java/lang/String")], some (.object "java/lang/Object")⟩ := by decide +kernel
def w136 (hw : HW Z a0) := ow 136 hw rfl
theorem d335 : decode b28_ 10 = .ok (.pop, 1) := by decide +kernel
theorem d336 : decode b28_ 11 = .ok (.aload_n 2, 1) := by decide +kernel
theorem d337 : decode b28_ 12 = .ok (.ldc 15, 2) := by decide +kernel
def w139 (hw : HW Z a0) := ow 139 hw rfl
theorem d338 : decode b28_ 14 = .ok (.invokestatic 9, 3) := by decide +kernel
theorem d339 : decode b28_ 17 = .ok (.pop, 1) := by decide +kernel
theorem d340 : decode b28_ 18 = .ok (.aload_n 1, 1) := by decide +kernel
theorem d341 : decode b28_ 19 = .ok (.invokevirtual 17, 3) := by decide +kernel
def w140 (hw : HW Z a0) := ow 140 hw rfl
def w143 (hw : HW Z a0) := ow 143 hw rfl
abbrev b31_ := jdk_42_method_55_code
theorem d342 : decode b31_ 0 = .ok (.aload_n 0, 1) := by decide +kernel
theorem d343 : decode b31_ 1 = .ok (.getfield 9, 3) := by decide +kernel
theorem d344 : decode b31_ 4 = .ok (.arraylength, 1) := by decide +kernel
theorem d345 : decode b31_ 5 = .ok (.ifCond .ne 7, 3) := by decide +kernel
theorem d346 : decode b31_ 12 = .ok (.iconst 0, 1) := by decide +kernel
theorem d347 : decode b31_ 13 = .ok (.ireturn, 1) := by decide +kernel
abbrev y29_isEmpty : MethodName := ⟨"java/lang/String", "isEmpty", "()Z"⟩
def Q_r34_isEmpty (Z : State) (o0 o_1 : Addr) (i_3 : Int32) (k_o_1 : ClassId) (h0 : Heap) (n0 : Nat) (v : Option Value) (h : Heap) (L : List Loc) : Prop := v = some z0 ∧ Fr n0 L ∧ h = h0
theorem ef_r34_isEmpty (o0 : Addr) (m : MethodId) : entryFrame m #[(.ref o0)] 1 = mkF m 0 #[.val (.ref o0)] [] := by first | (simp [entryFrame, mkF, argsToLocals, Value.category]; done) | rfl
set_option maxRecDepth 65536 in
set_option maxHeartbeats 40000000 in
theorem r34_isEmpty (l : Launch) (Z : State) (a0 : Array Value) (hw : HW Z a0) (ws : List Jvm.Cond) (o0 o_1 : Addr) (i_3 : Int32) (k_o_1 : ClassId) (h0 : Heap) (n0 : Nat) (Z0 : n0 ≤ h0.size) (F_o0_value : Fd1 Z h0 o0 (.ref o_1)) (V_o_1 : Arv Z h0 o_1 k_o_1 .byte 1 [(.int i_3)] z0) :
    MF l Z y29_isEmpty b31_ 1 (some .boolean) ws ⟨0, 0, 0, 0⟩ #[(.ref o0)] h0 (Q_r34_isEmpty Z o0 o_1 i_3 k_o_1 h0 n0) := by
  refine own_body (plainFor_of_name pn_String564) (ef_r34_isEmpty o0) (by decide) (by decide) ?_
  intro p e s m below meth c s₁ hx hby hml hown hnm hret hZ hh e0 X0
  have N0 := Fr.nil n0
  obtain ⟨T2, X2, e2, st2⟩ := getF X0 hx hZ hown (host := "") (Or.inl (w32 hw)) Via.refl e0 F_o0_value (g := (mkF m 1 #[vr o0] [(.ref o0)])) rfl rfl (hb hby d343)
  refine ⟨T2, _, some z0, X2, (fun h => by cases h <;> rfl), ?_, fun fs hr => ?_⟩
  · show Q_r34_isEmpty Z o0 o_1 i_3 k_o_1 h0 n0 _ T2.heap _
    rw [e2]
    exact ⟨rfl, N0, rfl⟩
  · refine t_aloadN 1 X0.here hx (hb hby d342) rfl rfl rfl ?_
    refine st2 _ ?_
    refine own_arlen (pc' := 5) X2 hx hZ e2 V_o_1 (hb hby d344) rfl ?_
    refine t_ifYes (pc := 5) 12 X2.here hx (hb hby d345) (by decide) (by decide) (by decide) ?_
    refine t_iconst 13 (r := 0) X2.here hx (hb hby d346) (by decide) rfl ?_
    exact retN X2 hx (t := .boolean) hret (by simp) (hb hby d347) hr
def w144 (hw : HW Z a0) := ow 144 hw rfl
def w141 (hw : HW Z a0) := ow 141 hw rfl
def w142 (hw : HW Z a0) := ow 142 hw rfl
theorem d348 : decode b28_ 22 = .ok (.ifCond .ne 12, 3) := by decide +kernel
theorem d349 : decode b28_ 25 = .ok (.aload_n 1, 1) := by decide +kernel
theorem d350 : decode b28_ 26 = .ok (.bipush 58, 2) := by decide +kernel
theorem d351 : decode b28_ 28 = .ok (.invokevirtual 23, 3) := by decide +kernel
def Q_r37_length (Z : State) (o0 o_1 : Addr) (i_3 : Int32) (k_o_1 : ClassId) (i_4 : Int32) (h0 : Heap) (n0 : Nat) (v : Option Value) (h : Heap) (L : List Loc) : Prop := v = some (.int 1) ∧ Fr n0 L ∧ h = h0
theorem ef_r37_length (o0 : Addr) (m : MethodId) : entryFrame m #[(.ref o0)] 1 = mkF m 0 #[.val (.ref o0)] [] := by first | (simp [entryFrame, mkF, argsToLocals, Value.category]; done) | rfl
set_option maxRecDepth 65536 in
set_option maxHeartbeats 40000000 in
theorem r37_length (l : Launch) (Z : State) (a0 : Array Value) (hw : HW Z a0) (ws : List Jvm.Cond) (o0 o_1 : Addr) (i_3 : Int32) (k_o_1 : ClassId) (i_4 : Int32) (h0 : Heap) (n0 : Nat) (Z0 : n0 ≤ h0.size) (F_o0_value : Fd1 Z h0 o0 (.ref o_1)) (V_o_1 : Arv Z h0 o_1 k_o_1 .byte 1 [(.int i_3)] z0) (E_o0 : Ex0 Z h0 o0) (S_COMPACT_STRINGS : SCS Z i_4) (F_o0_coder : Fd0 Z h0 o0 z0) (O0 : Old Z n0 h0) (hp0 : ¬ (i_4 = (0 : Int32))) :
    MF l Z y12_length b14_ 1 (some .int) ws ⟨1, 0, 0, 13⟩ #[(.ref o0)] h0 (Q_r37_length Z o0 o_1 i_3 k_o_1 i_4 h0 n0) := by
  refine own_body (plainFor_of_name pn_String564) (ef_r37_length o0) (by decide) (by decide) ?_
  intro p e s m below meth c s₁ hx hby hml hown hnm hret hZ hh e0 X0
  have N0 := Fr.nil n0
  obtain ⟨T2, X2, e2, st2⟩ := getF X0 hx hZ hown (host := "") (Or.inl (w32 hw)) Via.refl e0 F_o0_value (g := (mkF m 1 #[vr o0] [(.ref o0)])) rfl rfl (hb hby d141)
  obtain ⟨_, T5, L5, X5, hQ5, st5⟩ := own_virtual X2 hx hZ hown (w58 hw) (w59 hw) (notFace_of_selects (args := #[]) (mvT hZ (w61 hw))) (w61 hw) (w60 hw) (w7 hw) (w62 hw) (by decide) (r11_coder l Z a0 hw [] o0 i_4 h0 n0 Z0 S_COMPACT_STRINGS O0 hp0 F_o0_coder) e2 E_o0 (W := 1) (by decide) (g := (mkF m 6 #[vr o0] [(.ref o0), (.int 1)])) rfl (by rw [hml]; rfl) (argsL := []) (rest := [(.int 1)]) (lenOf pd_9 rfl) rfl rfl (own_wr rfl rfl) (hb hby d144)
  obtain ⟨rfl, N5q, e5⟩ := hQ5
  have N5 := Fr.app N0 N5q
  refine ⟨T5, _, some (.int 1), X5, (fun h => by cases h <;> rfl), ?_, fun fs hr => ?_⟩
  · show Q_r37_length Z o0 o_1 i_3 k_o_1 i_4 h0 n0 _ T5.heap _
    rw [e5]
    exact ⟨rfl, N5, rfl⟩
  · refine t_aloadN 1 X0.here hx (hb hby d140) rfl rfl rfl ?_
    refine st2 _ ?_
    refine own_arlen (pc' := 5) X2 hx hZ e2 V_o_1 (hb hby d142) rfl ?_
    refine t_aloadN 6 X2.here hx (hb hby d143) rfl rfl rfl ?_
    refine st5 _ ?_
    refine t_ishr 10 (r := 1) X5.here hx (hb hby d151) (by decide : ((1 : Int32) >>> ((0 : Int32) &&& 31)) = (1 : Int32)) rfl ?_
    exact retI X5 hx hret (hb hby d152) hr
def Q_r39_min (Z : State)  (h0 : Heap) (n0 : Nat) (v : Option Value) (h : Heap) (L : List Loc) : Prop := v = some (.int 1) ∧ Fr n0 L ∧ h = h0
theorem ef_r39_min (m : MethodId) : entryFrame m #[(.int 1), (.int 1)] 2 = mkF m 0 #[.val (.int 1), .val (.int 1)] [] := by first | (simp [entryFrame, mkF, argsToLocals, Value.category]; done) | rfl
set_option maxRecDepth 65536 in
set_option maxHeartbeats 40000000 in
theorem r39_min (l : Launch) (Z : State) (a0 : Array Value) (hw : HW Z a0) (ws : List Jvm.Cond)  (h0 : Heap) (n0 : Nat) (Z0 : n0 ≤ h0.size) :
    MF l Z y15_min b19_ 2 (some .int) ws ⟨0, 0, 0, 0⟩ #[(.int 1), (.int 1)] h0 (Q_r39_min Z  h0 n0) := by
  refine own_body (Jvm.Free.JP.mathPlain rfl (by decide +kernel)) (ef_r39_min) (by decide) (by decide) ?_
  intro p e s m below meth c s₁ hx hby hml hown hnm hret hZ hh e0 X0
  have N0 := Fr.nil n0
  refine ⟨s₁, _, some (.int 1), X0, (fun h => by cases h <;> rfl), ?_, fun fs hr => ?_⟩
  · show Q_r39_min Z  h0 n0 _ s₁.heap _
    rw [e0]
    exact ⟨rfl, N0, rfl⟩
  · refine t_iloadN 1 X0.here hx (hb hby d179) rfl rfl ?_
    refine t_iloadN 2 X0.here hx (hb hby d180) rfl rfl ?_
    refine t_icmpNo 5 X0.here hx (hb hby d181) (by decide) rfl ?_
    refine t_iloadN 6 X0.here hx (hb hby d182) rfl rfl ?_
    refine t_goto (pc := 6) 10 X0.here hx (hb hby d183) (by decide) (by decide) ?_
    exact retI X0 hx hret (hb hby d184) hr
theorem d352 : decode b20_ 31 = .ok (.iconst (-1), 1) := by decide +kernel
theorem d353 : decode b20_ 32 = .ok (.ireturn, 1) := by decide +kernel
def Q_r40_indexOfChar (Z : State) (o0 : Addr) (i_1 : Int32) (k_o0 : ClassId) (h0 : Heap) (n0 : Nat) (v : Option Value) (h : Heap) (L : List Loc) : Prop := v = some (.int (-1)) ∧ Fr n0 L ∧ h = h0
theorem ef_r40_indexOfChar (o0 : Addr) (m : MethodId) : entryFrame m #[(.ref o0), (.int 58), (.int 0), (.int 1)] 6 = mkF m 0 #[.val (.ref o0), .val (.int 58), .val (.int 0), .val (.int 1), .unset, .unset] [] := by first | (simp [entryFrame, mkF, argsToLocals, Value.category]; done) | rfl
set_option maxRecDepth 65536 in
set_option maxHeartbeats 40000000 in
theorem r40_indexOfChar (l : Launch) (Z : State) (a0 : Array Value) (hw : HW Z a0) (ws : List Jvm.Cond) (o0 : Addr) (i_1 : Int32) (k_o0 : ClassId) (h0 : Heap) (n0 : Nat) (Z0 : n0 ≤ h0.size) (V_o0 : Arv Z h0 o0 k_o0 .byte 1 [(.int i_1)] z0) (hp0 : ¬ (i_1 = (58 : Int32))) :
    MF l Z y16_indexOfChar b20_ 6 (some .int) ws ⟨0, 0, 0, 0⟩ #[(.ref o0), (.int 58), z0, (.int 1)] h0 (Q_r40_indexOfChar Z o0 i_1 k_o0 h0 n0) := by
  refine own_body (plainFor_of_name pn_StringLatin1120) (ef_r40_indexOfChar o0) (by decide) (by decide) ?_
  intro p e s m below meth c s₁ hx hby hml hown hnm hret hZ hh e0 X0
  have N0 := Fr.nil n0
  refine ⟨s₁, _, some (.int (-1)), X0, (fun h => by cases h <;> rfl), ?_, fun fs hr => ?_⟩
  · show Q_r40_indexOfChar Z o0 i_1 k_o0 h0 n0 _ s₁.heap _
    rw [e0]
    exact ⟨rfl, N0, rfl⟩
  · refine t_iloadN 1 X0.here hx (hb hby d194) rfl rfl ?_
    refine t_i2b 2 (r := 58) X0.here hx (hb hby d195) (by decide : ((58 : Int32).toInt8.toInt32) = (58 : Int32)) rfl ?_
    refine t_istore (pc' := 4) (L' := #[vr o0, vi 58, vi 0, vi 1, vi 58, .unset]) X0.here hx (hb hby d196) rfl rfl ?_
    refine t_iloadN 5 X0.here hx (hb hby d197) rfl rfl ?_
    refine t_istore (pc' := 7) (L' := #[vr o0, vi 58, vi 0, vi 1, vi 58, vi 0]) X0.here hx (hb hby d198) rfl rfl ?_
    refine t_iload 9 X0.here hx (hb hby d199) rfl rfl ?_
    refine t_iloadN 10 X0.here hx (hb hby d200) rfl rfl ?_
    refine t_icmpNo 13 X0.here hx (hb hby d201) (by decide) rfl ?_
    refine t_aloadN 14 X0.here hx (hb hby d202) rfl rfl rfl ?_
    refine t_iload 16 X0.here hx (hb hby d203) rfl rfl ?_
    refine own_aldB (pc' := 17) X0 hx hZ e0 V_o0 (j := 0) (v := (.int i_1)) (by decide) rfl (hb hby d204) rfl ?_
    refine t_iload 19 X0.here hx (hb hby d205) rfl rfl ?_
    refine t_icmpYes (pc := 19) 25 X0.here hx (hb hby d206) (feq hp0).2 (by decide) (by decide) ?_
    refine t_iinc (pc' := 28) (L' := #[vr o0, vi 58, vi 0, vi 1, vi 58, vi 1]) X0.here hx (hb hby d207) rfl (by first | rfl | decide) rfl ?_
    refine t_goto (pc := 28) 7 X0.here hx (hb hby d208) (by decide) (by decide) ?_
    refine t_iload 9 X0.here hx (hb hby d199) rfl rfl ?_
    refine t_iloadN 10 X0.here hx (hb hby d200) rfl rfl ?_
    refine t_icmpYes (pc := 10) 31 X0.here hx (hb hby d201) (by decide) (by decide) (by decide) ?_
    refine t_iconst 32 (r := (-1 : Int32)) X0.here hx (hb hby d352) (by decide) rfl ?_
    exact retI X0 hx hret (hb hby d353) hr
def Q_r38_indexOf (Z : State) (o0 : Addr) (i_3 : Int32) (k_o0 : ClassId) (h0 : Heap) (n0 : Nat) (v : Option Value) (h : Heap) (L : List Loc) : Prop := v = some (.int (-1)) ∧ Fr n0 L ∧ h = h0
theorem ef_r38_indexOf (o0 : Addr) (m : MethodId) : entryFrame m #[(.ref o0), (.int 58), (.int 0), (.int 1)] 4 = mkF m 0 #[.val (.ref o0), .val (.int 58), .val (.int 0), .val (.int 1)] [] := by first | (simp [entryFrame, mkF, argsToLocals, Value.category]; done) | rfl
set_option maxRecDepth 65536 in
set_option maxHeartbeats 40000000 in
theorem r38_indexOf (l : Launch) (Z : State) (a0 : Array Value) (hw : HW Z a0) (ws : List Jvm.Cond) (o0 : Addr) (i_3 : Int32) (k_o0 : ClassId) (h0 : Heap) (n0 : Nat) (Z0 : n0 ≤ h0.size) (V_o0 : Arv Z h0 o0 k_o0 .byte 1 [(.int i_3)] z0) (hp0 : ¬ (i_3 = (58 : Int32))) :
    MF l Z y17_indexOf b16_ 4 (some .int) ws ⟨1, 0, 0, 17⟩ #[(.ref o0), (.int 58), z0, (.int 1)] h0 (Q_r38_indexOf Z o0 i_3 k_o0 h0 n0) := by
  refine own_body (plainFor_of_name pn_StringLatin1120) (ef_r38_indexOf o0) (by decide) (by decide) ?_
  intro p e s m below meth c s₁ hx hby hml hown hnm hret hZ hh e0 X0
  have N0 := Fr.nil n0
  obtain ⟨_, T1, L1, X1, hQ1, st1⟩ := own_static X0 hx hZ hown (w67 hw) (w68 hw) (w65 hw) (w69 hw) (by decide) (r13_canEncode l Z a0 hw []  h0 n0 Z0) e0 (W := 0) (by decide) (g := (mkF m 1 #[vr o0, vi 58, vi 0, vi 1] [(.int 58)])) rfl (by rw [hml]; rfl) (argsL := [(.int 58)]) (rest := []) (lenOf pd_11 rfl) rfl rfl (own_wr rfl rfl) (hb hby d155)
  obtain ⟨rfl, N1q, e1⟩ := hQ1
  have N1 := Fr.app N0 N1q
  obtain ⟨_, T2, L2, X2, hQ2, st2⟩ := own_static X1 hx hZ hown (w70 hw) (w71 hw) (w72 hw) (w73 hw) (by decide) (r14_max l Z a0 hw []  h0 n0 Z0) e1 (W := 0) (by decide) (g := (mkF m 11 #[vr o0, vi 58, vi 0, vi 1] [z0, z0])) rfl (by rw [hml]; rfl) (argsL := [z0, z0]) (rest := []) (lenOf pd_12 rfl) rfl rfl (own_wr rfl rfl) (hb hby d167)
  obtain ⟨rfl, N2q, e2⟩ := hQ2
  have N2 := Fr.app N1 N2q
  obtain ⟨_, T4, L4, X4, hQ4, st4⟩ := own_static X2 hx hZ hown (w74 hw) (w75 hw) (w72 hw) (w76 hw) (by decide) (r39_min l Z a0 hw []  h0 n0 Z0) e2 (W := 0) (by decide) (g := (mkF m 18 #[vr o0, vi 58, vi 0, vi 1] [(.int 1), (.int 1)])) rfl (by rw [hml]; rfl) (argsL := [(.int 1), (.int 1)]) (rest := []) (lenOf pd_12 rfl) rfl rfl (own_wr rfl rfl) (hb hby d178)
  obtain ⟨rfl, N4q, e4⟩ := hQ4
  have N4 := Fr.app N2 N4q
  obtain ⟨_, T5, L5, X5, hQ5, st5⟩ := own_static X4 hx hZ hown (w77 hw) (w78 hw) (w65 hw) (w79 hw) (by decide) (r40_indexOfChar l Z a0 hw [] o0 i_3 k_o0 h0 n0 Z0 V_o0 hp0) e4 (W := 0) (by decide) (g := (mkF m 33 #[vr o0, vi 58, vi 0, vi 1] [(.int 1), z0, (.int 58), (.ref o0)])) rfl (by rw [hml]; rfl) (argsL := [(.ref o0), (.int 58), z0, (.int 1)]) (rest := []) (lenOf pd_13 rfl) rfl rfl (own_wr rfl rfl) (hb hby d193)
  obtain ⟨rfl, N5q, e5⟩ := hQ5
  have N5 := Fr.app N4 N5q
  refine ⟨T5, _, some (.int (-1)), X5, (fun h => by cases h <;> rfl), ?_, fun fs hr => ?_⟩
  · show Q_r38_indexOf Z o0 i_3 k_o0 h0 n0 _ T5.heap _
    rw [e5]
    exact ⟨rfl, N5, rfl⟩
  · refine t_iloadN 1 X0.here hx (hb hby d154) rfl rfl ?_
    refine st1 _ ?_
    refine t_ifYes (pc := 4) 9 X1.here hx (hb hby d164) (by decide) (by decide) (by decide) ?_
    refine t_iloadN 10 X1.here hx (hb hby d165) rfl rfl ?_
    refine t_iconst 11 (r := 0) X1.here hx (hb hby d166) (by decide) rfl ?_
    refine st2 _ ?_
    refine t_istoreN (pc' := 15) (L' := #[vr o0, vi 58, vi 0, vi 1]) X2.here hx (hb hby d174) rfl rfl ?_
    refine t_iloadN 16 X2.here hx (hb hby d175) rfl rfl ?_
    refine t_aloadN 17 X2.here hx (hb hby d176) rfl rfl rfl ?_
    refine own_arlen (pc' := 18) X2 hx hZ e2 V_o0 (hb hby d177) rfl ?_
    refine st4 _ ?_
    refine t_istoreN (pc' := 22) (L' := #[vr o0, vi 58, vi 0, vi 1]) X4.here hx (hb hby d185) rfl rfl ?_
    refine t_iloadN 23 X4.here hx (hb hby d186) rfl rfl ?_
    refine t_iloadN 24 X4.here hx (hb hby d187) rfl rfl ?_
    refine t_icmpYes (pc := 24) 29 X4.here hx (hb hby d188) (by decide) (by decide) (by decide) ?_
    refine t_aloadN 30 X4.here hx (hb hby d189) rfl rfl rfl ?_
    refine t_iloadN 31 X4.here hx (hb hby d190) rfl rfl ?_
    refine t_iloadN 32 X4.here hx (hb hby d191) rfl rfl ?_
    refine t_iloadN 33 X4.here hx (hb hby d192) rfl rfl ?_
    refine st5 _ ?_
    exact retI X5 hx hret (hb hby d211) hr
def Q_r36_indexOf (Z : State) (o0 : Addr) (i_1 : Int32) (o_3 : Addr) (i_5 : Int32) (k_o_3 : ClassId) (h0 : Heap) (n0 : Nat) (v : Option Value) (h : Heap) (L : List Loc) : Prop := v = some (.int (-1)) ∧ Fr n0 L ∧ h = h0
theorem ef_r36_indexOf (o0 : Addr) (m : MethodId) : entryFrame m #[(.ref o0), (.int 58), (.int 0)] 3 = mkF m 0 #[.val (.ref o0), .val (.int 58), .val (.int 0)] [] := by first | (simp [entryFrame, mkF, argsToLocals, Value.category]; done) | rfl
set_option maxRecDepth 65536 in
set_option maxHeartbeats 40000000 in
theorem r36_indexOf (l : Launch) (Z : State) (a0 : Array Value) (hw : HW Z a0) (ws : List Jvm.Cond) (o0 : Addr) (i_1 : Int32) (o_3 : Addr) (i_5 : Int32) (k_o_3 : ClassId) (h0 : Heap) (n0 : Nat) (Z0 : n0 ≤ h0.size) (E_o0 : Ex0 Z h0 o0) (S_COMPACT_STRINGS : SCS Z i_1) (F_o0_coder : Fd0 Z h0 o0 z0) (O0 : Old Z n0 h0) (hp0 : ¬ (i_1 = (0 : Int32))) (F_o0_value : Fd1 Z h0 o0 (.ref o_3)) (V_o_3 : Arv Z h0 o_3 k_o_3 .byte 1 [(.int i_5)] z0) (hp1 : ¬ (i_5 = (58 : Int32))) :
    MF l Z y18_indexOf b12_ 3 (some .int) ws ⟨2, 0, 0, 32⟩ #[(.ref o0), (.int 58), z0] h0 (Q_r36_indexOf Z o0 i_1 o_3 i_5 k_o_3 h0 n0) := by
  refine own_body (plainFor_of_name pn_String564) (ef_r36_indexOf o0) (by decide) (by decide) ?_
  intro p e s m below meth c s₁ hx hby hml hown hnm hret hZ hh e0 X0
  have N0 := Fr.nil n0
  obtain ⟨_, T2, L2, X2, hQ2, st2⟩ := own_virtual X0 hx hZ hown (w48 hw) (w49 hw) (notFace_of_selects (args := #[]) (mvT hZ (w51 hw))) (w51 hw) (w50 hw) (w7 hw) (w52 hw) (by decide) (r9_isLatin1 l Z a0 hw [] o0 i_1 h0 n0 Z0 S_COMPACT_STRINGS O0 hp0 F_o0_coder) e0 E_o0 (W := 0) (by decide) (g := (mkF m 1 #[vr o0, vi 58, vi 0] [(.ref o0)])) rfl (by rw [hml]; rfl) (argsL := []) (rest := []) (lenOf pd_8 rfl) rfl rfl (own_wr rfl rfl) (hb hby d124)
  obtain ⟨rfl, N2q, e2⟩ := hQ2
  have N2 := Fr.app N0 N2q
  obtain ⟨T4, X4, e4, st4⟩ := getF X2 hx hZ hown (host := "") (Or.inl (w32 hw)) Via.refl e2 F_o0_value (g := (mkF m 8 #[vr o0, vi 58, vi 0] [(.ref o0)])) rfl rfl (hb hby d135)
  obtain ⟨_, T6, L6, X6, hQ6, st6⟩ := own_virtual X4 hx hZ hown (w53 hw) (w54 hw) (notFace_of_selects (args := #[]) (mvT hZ (w56 hw))) (w56 hw) (w55 hw) (w7 hw) (w57 hw) (by decide) (r37_length l Z a0 hw [] o0 o_3 i_5 k_o_3 i_1 h0 n0 Z0 F_o0_value V_o_3 E_o0 S_COMPACT_STRINGS F_o0_coder O0 hp0) e4 E_o0 (W := 3) (by decide) (g := (mkF m 14 #[vr o0, vi 58, vi 0] [(.ref o0), z0, (.int 58), (.ref o_3)])) rfl (by rw [hml]; rfl) (argsL := []) (rest := [z0, (.int 58), (.ref o_3)]) (lenOf pd_10 rfl) rfl rfl (own_wr rfl rfl) (hb hby d139)
  obtain ⟨rfl, N6q, e6⟩ := hQ6
  have N6 := Fr.app N2 N6q
  obtain ⟨_, T7, L7, X7, hQ7, st7⟩ := own_static X6 hx hZ hown (w63 hw) (w64 hw) (w65 hw) (w66 hw) (by decide) (r38_indexOf l Z a0 hw [] o_3 i_5 k_o_3 h0 n0 Z0 V_o_3 hp1) e6 (W := 0) (by decide) (g := (mkF m 17 #[vr o0, vi 58, vi 0] [(.int 1), z0, (.int 58), (.ref o_3)])) rfl (by rw [hml]; rfl) (argsL := [(.ref o_3), (.int 58), z0, (.int 1)]) (rest := []) (lenOf pd_13 rfl) rfl rfl (own_wr rfl rfl) (hb hby d153)
  obtain ⟨rfl, N7q, e7⟩ := hQ7
  have N7 := Fr.app N6 N7q
  refine ⟨T7, _, some (.int (-1)), X7, (fun h => by cases h <;> rfl), ?_, fun fs hr => ?_⟩
  · show Q_r36_indexOf Z o0 i_1 o_3 i_5 k_o_3 h0 n0 _ T7.heap _
    rw [e7]
    exact ⟨rfl, N7, rfl⟩
  · refine t_aloadN 1 X0.here hx (hb hby d123) rfl rfl rfl ?_
    refine st2 _ ?_
    refine t_ifNo 7 X2.here hx (hb hby d133) (by decide) rfl ?_
    refine t_aloadN 8 X2.here hx (hb hby d134) rfl rfl rfl ?_
    refine st4 _ ?_
    refine t_iloadN 12 X4.here hx (hb hby d136) rfl rfl ?_
    refine t_iloadN 13 X4.here hx (hb hby d137) rfl rfl ?_
    refine t_aloadN 14 X4.here hx (hb hby d138) rfl rfl rfl ?_
    refine st6 _ ?_
    refine st7 _ ?_
    refine t_goto (pc := 20) 36 X7.here hx (hb hby d212) (by decide) (by decide) ?_
    exact retI X7 hx hret (hb hby d213) hr
def Q_r35_indexOf (Z : State) (o0 : Addr) (i_1 : Int32) (o_2 : Addr) (i_3 : Int32) (k_o_2 : ClassId) (h0 : Heap) (n0 : Nat) (v : Option Value) (h : Heap) (L : List Loc) : Prop := v = some (.int (-1)) ∧ Fr n0 L ∧ h = h0
theorem ef_r35_indexOf (o0 : Addr) (m : MethodId) : entryFrame m #[(.ref o0), (.int 58)] 2 = mkF m 0 #[.val (.ref o0), .val (.int 58)] [] := by first | (simp [entryFrame, mkF, argsToLocals, Value.category]; done) | rfl
set_option maxRecDepth 65536 in
set_option maxHeartbeats 40000000 in
theorem r35_indexOf (l : Launch) (Z : State) (a0 : Array Value) (hw : HW Z a0) (ws : List Jvm.Cond) (o0 : Addr) (i_1 : Int32) (o_2 : Addr) (i_3 : Int32) (k_o_2 : ClassId) (h0 : Heap) (n0 : Nat) (Z0 : n0 ≤ h0.size) (E_o0 : Ex0 Z h0 o0) (S_COMPACT_STRINGS : SCS Z i_1) (F_o0_coder : Fd0 Z h0 o0 z0) (F_o0_value : Fd1 Z h0 o0 (.ref o_2)) (V_o_2 : Arv Z h0 o_2 k_o_2 .byte 1 [(.int i_3)] z0) (O0 : Old Z n0 h0) (hp0 : ¬ (i_1 = (0 : Int32))) (hp1 : ¬ (i_3 = (58 : Int32))) :
    MF l Z y19_indexOf b11_ 2 (some .int) ws ⟨3, 0, 0, 46⟩ #[(.ref o0), (.int 58)] h0 (Q_r35_indexOf Z o0 i_1 o_2 i_3 k_o_2 h0 n0) := by
  refine own_body (plainFor_of_name pn_String564) (ef_r35_indexOf o0) (by decide) (by decide) ?_
  intro p e s m below meth c s₁ hx hby hml hown hnm hret hZ hh e0 X0
  have N0 := Fr.nil n0
  obtain ⟨_, T4, L4, X4, hQ4, st4⟩ := own_virtual X0 hx hZ hown (w43 hw) (w44 hw) (notFace_of_selects (args := #[]) (mvT hZ (w46 hw))) (w46 hw) (w45 hw) (w7 hw) (w47 hw) (by decide) (r36_indexOf l Z a0 hw [] o0 i_1 o_2 i_3 k_o_2 h0 n0 Z0 E_o0 S_COMPACT_STRINGS F_o0_coder O0 hp0 F_o0_value V_o_2 hp1) e0 E_o0 (W := 0) (by decide) (g := (mkF m 3 #[vr o0, vi 58] [z0, (.int 58), (.ref o0)])) rfl (by rw [hml]; rfl) (argsL := [(.int 58), z0]) (rest := []) (lenOf pd_12 rfl) rfl rfl (own_wr rfl rfl) (hb hby d122)
  obtain ⟨rfl, N4q, e4⟩ := hQ4
  have N4 := Fr.app N0 N4q
  refine ⟨T4, _, some (.int (-1)), X4, (fun h => by cases h <;> rfl), ?_, fun fs hr => ?_⟩
  · show Q_r35_indexOf Z o0 i_1 o_2 i_3 k_o_2 h0 n0 _ T4.heap _
    rw [e4]
    exact ⟨rfl, N4, rfl⟩
  · refine t_aloadN 1 X0.here hx (hb hby d119) rfl rfl rfl ?_
    refine t_iloadN 2 X0.here hx (hb hby d120) rfl rfl ?_
    refine t_iconst 3 (r := 0) X0.here hx (hb hby d121) (by decide) rfl ?_
    refine st4 _ ?_
    exact retI X4 hx hret (hb hby d214) hr
theorem d354 : decode b28_ 31 = .ok (.ifCond .lt 17, 3) := by decide +kernel
theorem d355 : decode b28_ 48 = .ok (.aload_n 2, 1) := by decide +kernel
theorem d356 : decode b28_ 49 = .ok (.invokevirtual 17, 3) := by decide +kernel
def Q_r41_isEmpty (Z : State) (o0 o_1 : Addr) (i_3 i_4 i_5 : Int32) (k_o_1 : ClassId) (h0 : Heap) (n0 : Nat) (v : Option Value) (h : Heap) (L : List Loc) : Prop := v = some z0 ∧ Fr n0 L ∧ h = h0
theorem ef_r41_isEmpty (o0 : Addr) (m : MethodId) : entryFrame m #[(.ref o0)] 1 = mkF m 0 #[.val (.ref o0)] [] := by first | (simp [entryFrame, mkF, argsToLocals, Value.category]; done) | rfl
set_option maxRecDepth 65536 in
set_option maxHeartbeats 40000000 in
theorem r41_isEmpty (l : Launch) (Z : State) (a0 : Array Value) (hw : HW Z a0) (ws : List Jvm.Cond) (o0 o_1 : Addr) (i_3 i_4 i_5 : Int32) (k_o_1 : ClassId) (h0 : Heap) (n0 : Nat) (Z0 : n0 ≤ h0.size) (F_o0_value : Fd1 Z h0 o0 (.ref o_1)) (V_o_1 : Arv Z h0 o_1 k_o_1 .byte 3 [(.int i_3), (.int i_4), (.int i_5)] z0) :
    MF l Z y29_isEmpty b31_ 1 (some .boolean) ws ⟨0, 0, 0, 0⟩ #[(.ref o0)] h0 (Q_r41_isEmpty Z o0 o_1 i_3 i_4 i_5 k_o_1 h0 n0) := by
  refine own_body (plainFor_of_name pn_String564) (ef_r41_isEmpty o0) (by decide) (by decide) ?_
  intro p e s m below meth c s₁ hx hby hml hown hnm hret hZ hh e0 X0
  have N0 := Fr.nil n0
  obtain ⟨T2, X2, e2, st2⟩ := getF X0 hx hZ hown (host := "") (Or.inl (w32 hw)) Via.refl e0 F_o0_value (g := (mkF m 1 #[vr o0] [(.ref o0)])) rfl rfl (hb hby d343)
  refine ⟨T2, _, some z0, X2, (fun h => by cases h <;> rfl), ?_, fun fs hr => ?_⟩
  · show Q_r41_isEmpty Z o0 o_1 i_3 i_4 i_5 k_o_1 h0 n0 _ T2.heap _
    rw [e2]
    exact ⟨rfl, N0, rfl⟩
  · refine t_aloadN 1 X0.here hx (hb hby d342) rfl rfl rfl ?_
    refine st2 _ ?_
    refine own_arlen (pc' := 5) X2 hx hZ e2 V_o_1 (hb hby d344) rfl ?_
    refine t_ifYes (pc := 5) 12 X2.here hx (hb hby d345) (by decide) (by decide) (by decide) ?_
    refine t_iconst 13 (r := 0) X2.here hx (hb hby d346) (by decide) rfl ?_
    exact retN X2 hx (t := .boolean) hret (by simp) (hb hby d347) hr
theorem d357 : decode b28_ 52 = .ok (.ifCond .eq 13, 3) := by decide +kernel
theorem d358 : decode b28_ 65 = .ok (.aload_n 0, 1) := by decide +kernel
theorem d359 : decode b28_ 66 = .ok (.aload_n 1, 1) := by decide +kernel
theorem d360 : decode b28_ 67 = .ok (.putfield 38, 3) := by decide +kernel
def w145 (hw : HW Z a0) := ow 145 hw rfl
abbrev Ex1 (Z : State) (h : Heap) (a : Addr) : Prop := Exa Z h a "com/example/keen_roster/keenroster/core/Identifier"
theorem d361 : decode b28_ 70 = .ok (.aload_n 0, 1) := by decide +kernel
theorem d362 : decode b28_ 71 = .ok (.aload_n 2, 1) := by decide +kernel
theorem d363 : decode b28_ 72 = .ok (.putfield 43, 3) := by decide +kernel
def w147 (hw : HW Z a0) := ow 147 hw rfl
theorem sn_2 {Z : State} {a0 : Array Value} (hw : HW Z a0) : Jvm.RoadKit.slotOf Z "com/example/keen_roster/keenroster/core/Identifier" "id" "Ljava/lang/String;" ≠ Jvm.RoadKit.slotOf Z "com/example/keen_roster/keenroster/core/Identifier" "system" "Ljava/lang/String;" := slot_ne (C := "com/example/keen_roster/keenroster/core/Identifier") (a0 := a0) (Or.inr (w148 hw)) (Or.inr (w146 hw)) (by decide) (t := (.object "java/lang/String")) (t' := (.object "java/lang/String")) (by decide) (by decide)
theorem d364 : decode b28_ 75 = .ok (.return_, 1) := by decide +kernel
theorem sn_3 {Z : State} {a0 : Array Value} (hw : HW Z a0) : Jvm.RoadKit.slotOf Z "com/example/keen_roster/keenroster/core/Identifier" "system" "Ljava/lang/String;" ≠ Jvm.RoadKit.slotOf Z "com/example/keen_roster/keenroster/core/Identifier" "id" "Ljava/lang/String;" := slot_ne (C := "com/example/keen_roster/keenroster/core/Identifier") (a0 := a0) (Or.inr (w146 hw)) (Or.inr (w148 hw)) (by decide) (t := (.object "java/lang/String")) (t' := (.object "java/lang/String")) (by decide) (by decide)
theorem pn_Identifier44 : plainName "com/example/keen_roster/keenroster/core/Identifier" = true := by first | (simp [plainName, overriddenIn]; done) | decide +kernel
abbrev y30__init_ : MethodName := ⟨"com/example/keen_roster/keenroster/core/Identifier", "<init>", "(Ljava/lang/String;Ljava/lang/String;)V"⟩
def WS_r31__init_ (Z : State) (o0 : Addr) : List (Addr × Nat) := [(o0, (sl2 Z)), (o0, (sl3 Z))]
def Q_r31__init_ (Z : State) (o0 o1 o2 o_6 : Addr) (i_7 : Int32) (k_o_6 : ClassId) (i_12 : Int32) (o_16 : Addr) (i_17 i_18 i_19 : Int32) (k_o_16 : ClassId) (h0 : Heap) (n0 : Nat) (v : Option Value) (h : Heap) (L : List Loc) : Prop := v = none ∧ Fr n0 L ∧ KL h0 h (WS_r31__init_ Z o0) ∧ Fd2 Z h o0 (.ref o1) ∧ Fd3 Z h o0 (.ref o2)
theorem ef_r31__init_ (o0 o1 o2 : Addr) (m : MethodId) : entryFrame m #[(.ref o0), (.ref o1), (.ref o2)] 3 = mkF m 0 #[.val (.ref o0), .val (.ref o1), .val (.ref o2)] [] := by first | (simp [entryFrame, mkF, argsToLocals, Value.category]; done) | rfl
set_option maxRecDepth 65536 in
set_option maxHeartbeats 40000000 in
theorem r31__init_ (l : Launch) (Z : State) (a0 : Array Value) (hw : HW Z a0) (ws : List Jvm.Cond) (o0 o1 o2 o_6 : Addr) (i_7 : Int32) (k_o_6 : ClassId) (i_12 : Int32) (o_16 : Addr) (i_17 i_18 i_19 : Int32) (k_o_16 : ClassId) (h0 : Heap) (n0 : Nat) (Z0 : n0 ≤ h0.size) (E_o1 : Ex0 Z h0 o1) (F_o1_value : Fd1 Z h0 o1 (.ref o_6)) (V_o_6 : Arv Z h0 o_6 k_o_6 .byte 1 [(.int i_7)] z0) (S_COMPACT_STRINGS : SCS Z i_12) (F_o1_coder : Fd0 Z h0 o1 z0) (O0 : Old Z n0 h0) (hp0 : ¬ (i_12 = (0 : Int32))) (hp1 : ¬ (i_7 = (58 : Int32))) (E_o2 : Ex0 Z h0 o2) (F_o2_value : Fd1 Z h0 o2 (.ref o_16)) (V_o_16 : Arv Z h0 o_16 k_o_16 .byte 3 [(.int i_17), (.int i_18), (.int i_19)] z0) (F_o0_system : Fd2 Z h0 o0 .null) (E_o0 : Ex1 Z h0 o0) (g_o0 : n0 ≤ o0) (F_o0_id : Fd3 Z h0 o0 .null) :
    MFS l Z y30__init_ b28_ 3 none ws ⟨4, 4, 40, 59⟩ #[(.ref o0), (.ref o1), (.ref o2)] h0 (Q_r31__init_ Z o0 o1 o2 o_6 i_7 k_o_6 i_12 o_16 i_17 i_18 i_19 k_o_16 h0 n0) := by
  refine own_bodyS (k := 4) (n := 40) (plainFor_of_name pn_Identifier44) (ef_r31__init_ o0 o1 o2) (by decide) (by decide) ?_
  intro p e s m below meth c s₁ hx hby hml hown hnm hret hZ e0 hS0 hk0 X0
  have N0 := Fr.nil n0
  obtain ⟨_, T1, L1, X1, hQ1, st1⟩ := own_init X0 hx hZ rfl hown (w126 hw) (w127 hw) (w129 hw) (w130 hw) (by decide) (r32__init_ l Z a0 hw [] o0 h0 n0 Z0) e0 (W := 0) (by decide) (g := (mkF m 1 #[vr o0, vr o1, vr o2] [(.ref o0)])) rfl (by rw [hml]; rfl) (argsL := []) (rest := []) (lenOf pd_22 rfl) rfl rfl (own_wr rfl rfl) (hb hby d324)
  obtain ⟨rfl, N1q, e1⟩ := hQ1
  have N1 := Fr.app N0 N1q
  obtain ⟨c2, T2, h2, k2, X2, e2, E2, hS2, hk2, hZ2, hown2, st2⟩ := ldcS X1 hx hZ hown (w132 hw) (own_wS hw) e1 hS0 hk0 (g := (mkF m 5 #[vr o0, vr o1, vr o2] [(.ref o1)])) rfl (hb hby d329) (n := 24) (by decide) (by decide) (by decide) (by decide)
  have K2 := KL.ofE E2
  obtain ⟨_, T3, L3, X3, hQ3, st3⟩ := own_static X2 hx hZ2 hown2 (w135 hw) (w136 hw) (w137 hw) (w138 hw) (by decide) (r33_requireNonNull l Z a0 hw [] o1 c2 h2 n0 (Nat.le_trans Z0 K2.1)) e2 (W := 0) (by decide) (g := (mkF m 7 #[vr o0, vr o1, vr o2] [(.ref c2), (.ref o1)])) rfl (by rw [hml]; rfl) (argsL := [(.ref o1), (.ref c2)]) (rest := []) (lenOf pd_23 rfl) rfl rfl (own_wr rfl rfl) (hb hby d330)
  obtain ⟨rfl, N3q, e3⟩ := hQ3
  have N3 := Fr.app N1 N3q
  obtain ⟨c4, T4, h4, k4, X4, e4, E4, hS4, hk4, hZ4, hown4, st4⟩ := ldcS X3 hx hZ2 hown2 (w139 hw) (own_wS hw) e3 hS2 hk2 (g := (mkF m 12 #[vr o0, vr o1, vr o2] [(.ref o2)])) rfl (hb hby d337) (n := 8) (by decide) (by decide) (by decide) (by decide)
  have K4 := KL.ofE E4
  have sz_0_2 := (Nat.le_trans K2.1 K4.1)
  obtain ⟨_, T5, L5, X5, hQ5, st5⟩ := own_static X4 hx hZ4 hown4 (w135 hw) (w136 hw) (w137 hw) (w138 hw) (by decide) (r33_requireNonNull l Z a0 hw [] o2 c4 h4 n0 (Nat.le_trans Z0 sz_0_2)) e4 (W := 0) (by decide) (g := (mkF m 14 #[vr o0, vr o1, vr o2] [(.ref c4), (.ref o2)])) rfl (by rw [hml]; rfl) (argsL := [(.ref o2), (.ref c4)]) (rest := []) (lenOf pd_23 rfl) rfl rfl (own_wr rfl rfl) (hb hby d338)
  obtain ⟨rfl, N5q, e5⟩ := hQ5
  have N5 := Fr.app N3 N5q
  have f9 := (kFld K4 (kFld K2 F_o1_value nw0) nw0)
  have f10 := (kArv K4 (kArv K2 V_o_6 na0) na0)
  have f11 := (kExa K4 (kExa K2 E_o1))
  obtain ⟨_, T8, L8, X8, hQ8, st8⟩ := own_virtual X5 hx hZ4 hown4 (w140 hw) (w141 hw) (notFace_of_selects (args := #[]) (mvT hZ4 (w143 hw))) (w143 hw) (w142 hw) (w7 hw) (w144 hw) (by decide) (r34_isEmpty l Z a0 hw [] o1 o_6 i_7 k_o_6 h4 n0 (Nat.le_trans Z0 sz_0_2) f9 f10) e5 f11 (W := 0) (by decide) (g := (mkF m 19 #[vr o0, vr o1, vr o2] [(.ref o1)])) rfl (by rw [hml]; rfl) (argsL := []) (rest := []) (lenOf pd_8 rfl) rfl rfl (own_wr rfl rfl) (hb hby d341)
  obtain ⟨rfl, N8q, e8⟩ := hQ8
  have N8 := Fr.app N5 N8q
  have f14 := (kFld K4 (kFld K2 F_o1_coder nw0) nw0)
  have f15 := (kOld K4 (kOld K2 O0 na0) na0)
  obtain ⟨_, T13, L13, X13, hQ13, st13⟩ := own_virtual X8 hx hZ4 hown4 (w38 hw) (w39 hw) (notFace_of_selects (args := #[]) (mvT hZ4 (w41 hw))) (w41 hw) (w40 hw) (w7 hw) (w42 hw) (by decide) (r35_indexOf l Z a0 hw [] o1 i_12 o_6 i_7 k_o_6 h4 n0 (Nat.le_trans Z0 sz_0_2) f11 S_COMPACT_STRINGS f14 f9 f10 f15 hp0 hp1) e8 f11 (W := 0) (by decide) (g := (mkF m 28 #[vr o0, vr o1, vr o2] [(.int 58), (.ref o1)])) rfl (by rw [hml]; rfl) (argsL := [(.int 58)]) (rest := []) (lenOf pd_14 rfl) rfl rfl (own_wr rfl rfl) (hb hby d351)
  obtain ⟨rfl, N13q, e13⟩ := hQ13
  have N13 := Fr.app N8 N13q
  have f21 := (kFld K4 (kFld K2 F_o2_value nw0) nw0)
  have f22 := (kArv K4 (kArv K2 V_o_16 na0) na0)
  have f23 := (kExa K4 (kExa K2 E_o2))
  obtain ⟨_, T20, L20, X20, hQ20, st20⟩ := own_virtual X13 hx hZ4 hown4 (w140 hw) (w141 hw) (notFace_of_selects (args := #[]) (mvT hZ4 (w143 hw))) (w143 hw) (w142 hw) (w7 hw) (w144 hw) (by decide) (r41_isEmpty l Z a0 hw [] o2 o_16 i_17 i_18 i_19 k_o_16 h4 n0 (Nat.le_trans Z0 sz_0_2) f21 f22) e13 f23 (W := 0) (by decide) (g := (mkF m 49 #[vr o0, vr o1, vr o2] [(.ref o2)])) rfl (by rw [hml]; rfl) (argsL := []) (rest := []) (lenOf pd_8 rfl) rfl rfl (own_wr rfl rfl) (hb hby d356)
  obtain ⟨rfl, N20q, e20⟩ := hQ20
  have N20 := Fr.app N13 N20q
  have f24 := (kFld K4 (kFld K2 F_o0_system nw0) nw0)
  have f25 := (kExa K4 (kExa K2 E_o0))
  obtain ⟨T26, h26, X26, e26, W26, st26⟩ := putF X20 hx hZ4 hown4 (host := "") (Or.inl (w145 hw)) Via.refl e20 f24 f25 (Or.inr ⟨(w146 hw), rfl, hnm⟩) (w81 hw) (ty := (.object "java/lang/String")) (by decide) rfl rfl (g := (mkF m 67 #[vr o0, vr o1, vr o2] [(.ref o1), (.ref o0)])) rfl rfl (hb hby d360)
  have K26 := KL.ofW W26
  have Fw26 : Fd2 Z h26 o0 (.ref o1) := Fld.same W26 f24
  have N26 := Fr.snoc X26 N20 g_o0
  have f27 := (kFld K26 (kFld K4 (kFld K2 F_o0_id nw0) nw0) (nwS (Or.inr (sn_2 hw)) nw0))
  have f28 := (kExa K26 f25)
  obtain ⟨T29, h29, X29, e29, W29, st29⟩ := putF X26 hx hZ4 hown4 (host := "") (Or.inl (w147 hw)) Via.refl e26 f27 f28 (Or.inr ⟨(w148 hw), rfl, hnm⟩) (w81 hw) (ty := (.object "java/lang/String")) (by decide) rfl rfl (g := (mkF m 72 #[vr o0, vr o1, vr o2] [(.ref o2), (.ref o0)])) rfl rfl (hb hby d363)
  have K29 := KL.ofW W29
  have Fw29 : Fd3 Z h29 o0 (.ref o2) := Fld.same W29 f27
  have N29 := Fr.snoc X29 N26 g_o0
  -- what was kept, from the start on
  have C0 := (KL.refl h0 (WS_r31__init_ Z o0)).trans K2 na0
  have C1 := C0.trans K4 na0
  have C2 := C1.trans K26 (naO (own_mi 0 rfl) na0)
  have C3 := C2.trans K29 (naO (own_mi 1 rfl) na0)
  have f30 := (kFld K29 Fw26 (nwS (Or.inr (sn_3 hw)) nw0))
  have sz_2_4 := (Nat.le_trans K26.1 K29.1)
  refine ⟨T29, _, none, _, _, X29, hS4, (by rw [e29]; exact (Nat.le_trans hk4 sz_2_4)), (fun h => by cases h <;> rfl), ?_, fun fs hr => ?_⟩
  · show Q_r31__init_ Z o0 o1 o2 o_6 i_7 k_o_6 i_12 o_16 i_17 i_18 i_19 k_o_16 h0 n0 _ T29.heap _
    rw [e29]
    exact ⟨rfl, N29, C3, f30, Fw29⟩
  · refine t_aloadN 1 X0.here hx (hb hby d323) rfl rfl rfl ?_
    refine st1 _ ?_
    refine t_aloadN 5 X1.here hx (hb hby d328) rfl rfl rfl ?_
    refine st2 _ ?_
    refine st3 _ ?_
    refine t_pop 11 X3.here hx (hb hby d335) rfl rfl ?_
    refine t_aloadN 12 X3.here hx (hb hby d336) rfl rfl rfl ?_
    refine st4 _ ?_
    refine st5 _ ?_
    refine t_pop 18 X5.here hx (hb hby d339) rfl rfl ?_
    refine t_aloadN 19 X5.here hx (hb hby d340) rfl rfl rfl ?_
    refine st8 _ ?_
    refine t_ifNo 25 X8.here hx (hb hby d348) (by decide) rfl ?_
    refine t_aloadN 26 X8.here hx (hb hby d349) rfl rfl rfl ?_
    refine t_bipush 28 (r := 58) X8.here hx (hb hby d350) (by decide) rfl ?_
    refine st13 _ ?_
    refine t_ifYes (pc := 31) 48 X13.here hx (hb hby d354) (by decide) (by decide) (by decide) ?_
    refine t_aloadN 49 X13.here hx (hb hby d355) rfl rfl rfl ?_
    refine st20 _ ?_
    refine t_ifYes (pc := 52) 65 X20.here hx (hb hby d357) (by decide) (by decide) (by decide) ?_
    refine t_aloadN 66 X20.here hx (hb hby d358) rfl rfl rfl ?_
    refine t_aloadN 67 X20.here hx (hb hby d359) rfl rfl rfl ?_
    refine st26 _ ?_
    refine t_aloadN 71 X26.here hx (hb hby d361) rfl rfl rfl ?_
    refine t_aloadN 72 X26.here hx (hb hby d362) rfl rfl rfl ?_
    refine st29 _ ?_
    exact X29.returnOut hx hret (hb hby d364) hr
def w125 (hw : HW Z a0) := ow 125 hw rfl
theorem pd_24 : parseMethodDescriptor "(Ljava/lang/String;Ljava/lang/String;)V" = some ⟨[(.object "java/lang/String"), (.object "java/lang/String")], none⟩ := by decide +kernel
def w124 (hw : HW Z a0) := ow 124 hw rfl
theorem d365 : decode b10_ 45 = .ok (.areturn, 1) := by decide +kernel
abbrev y31_parse : MethodName := ⟨"com/example/keen_roster/keenroster/core/Identifier", "parse", "(Ljava/lang/String;)Lcom/example/keen_roster/keenroster/core/Identifier;"⟩
def Q_r6_parse (Z : State) (o0 : Addr) (i_1 : Int32) (o_2 : Addr) (i_3 i_4 i_5 i_6 i_7 : Int32) (k_o_2 : ClassId) (u_10 : Value) (h0 : Heap) (n0 : Nat) (v : Option Value) (h : Heap) (L : List Loc) : Prop := ∃ b9 : Addr, ∃ b1_13_11 : Addr, ∃ b1_13_10_19 : Addr, ∃ b2_6_7_13_10_19 : Addr, ∃ k2_6_7_13_10_19 : ClassId, ∃ b2_6_7_13_11 : Addr, ∃ k2_6_7_13_11 : ClassId, v = some (.ref b9) ∧ Fr n0 L ∧ KL h0 h [] ∧ h0.size ≤ b9 ∧ h0.size ≤ b1_13_11 ∧ h0.size ≤ b1_13_10_19 ∧ h0.size ≤ b2_6_7_13_10_19 ∧ h0.size ≤ b2_6_7_13_11 ∧ b9 ≠ b1_13_11 ∧ b9 ≠ b1_13_10_19 ∧ b9 ≠ b2_6_7_13_10_19 ∧ b9 ≠ b2_6_7_13_11 ∧ b1_13_11 ≠ b1_13_10_19 ∧ b1_13_11 ≠ b2_6_7_13_10_19 ∧ b1_13_11 ≠ b2_6_7_13_11 ∧ b1_13_10_19 ≠ b2_6_7_13_10_19 ∧ b1_13_10_19 ≠ b2_6_7_13_11 ∧ b2_6_7_13_10_19 ≠ b2_6_7_13_11 ∧ Ex1 Z h b9 ∧ Fd2 Z h b9 (.ref b1_13_11) ∧ Fd3 Z h b9 (.ref b1_13_10_19) ∧ Ex0 Z h b1_13_11 ∧ Fd0 Z h b1_13_11 z0 ∧ Fd1 Z h b1_13_11 (.ref b2_6_7_13_11) ∧ Ex0 Z h b1_13_10_19 ∧ Fd0 Z h b1_13_10_19 z0 ∧ Fd1 Z h b1_13_10_19 (.ref b2_6_7_13_10_19) ∧ Arv Z h b2_6_7_13_10_19 k2_6_7_13_10_19 .byte 3 [(.int i_5), (.int i_6), (.int i_7)] z0 ∧ Arv Z h b2_6_7_13_11 k2_6_7_13_11 .byte 1 [(.int i_3)] z0
theorem ef_r6_parse (o0 : Addr) (m : MethodId) : entryFrame m #[(.ref o0)] 2 = mkF m 0 #[.val (.ref o0), .unset] [] := by first | (simp [entryFrame, mkF, argsToLocals, Value.category]; done) | rfl
set_option maxRecDepth 65536 in
set_option maxHeartbeats 40000000 in
theorem r6_parse (l : Launch) (Z : State) (a0 : Array Value) (hw : HW Z a0) (ws : List Jvm.Cond) (o0 : Addr) (i_1 : Int32) (o_2 : Addr) (i_3 i_4 i_5 i_6 i_7 : Int32) (k_o_2 : ClassId) (u_10 : Value) (h0 : Heap) (n0 : Nat) (Z0 : n0 ≤ h0.size) (E_o0 : Ex0 Z h0 o0) (S_COMPACT_STRINGS : SCS Z i_1) (F_o0_coder : Fd0 Z h0 o0 z0) (F_o0_value : Fd1 Z h0 o0 (.ref o_2)) (V_o_2 : Arv Z h0 o_2 k_o_2 .byte 5 [(.int i_3), (.int i_4), (.int i_5), (.int i_6), (.int i_7)] z0) (O0 : Old Z n0 h0) (hp0 : ¬ (i_1 = (0 : Int32))) (hp1 : ¬ (i_3 = (58 : Int32))) (hp2 : i_4 = (58 : Int32)) (S_SIOOBE_FORMATTER : Sta Z Z.heap "jdk/internal/util/Preconditions" "SIOOBE_FORMATTER" "Ljava/util/function/BiFunction;" u_10) (hp3 : u_10.isRef = true) :
    MFS l Z y31_parse b10_ 2 (some (.object "com/example/keen_roster/keenroster/core/Identifier")) ws ⟨6, 9, 54, 96⟩ #[(.ref o0)] h0 (Q_r6_parse Z o0 i_1 o_2 i_3 i_4 i_5 i_6 i_7 k_o_2 u_10 h0 n0) := by
  refine own_bodyS (k := 9) (n := 54) (plainFor_of_name pn_Identifier44) (ef_r6_parse o0) (by decide) (by decide) ?_
  intro p e s m below meth c s₁ hx hby hml hown hnm hret hZ e0 hS0 hk0 X0
  have N0 := Fr.nil n0
  obtain ⟨_, T8, L8, X8, hQ8, st8⟩ := own_virtual X0 hx hZ hown (w38 hw) (w39 hw) (notFace_of_selects (args := #[]) (mvT hZ (w41 hw))) (w41 hw) (w40 hw) (w7 hw) (w42 hw) (by decide) (r7_indexOf l Z a0 hw [] o0 i_1 o_2 i_3 i_4 i_5 i_6 i_7 k_o_2 h0 n0 Z0 E_o0 S_COMPACT_STRINGS F_o0_coder F_o0_value V_o_2 O0 hp0 hp1 hp2) e0 E_o0 (W := 0) (by decide) (g := (mkF m 3 #[vr o0, .unset] [(.int 58), (.ref o0)])) rfl (by rw [hml]; rfl) (argsL := [(.int 58)]) (rest := []) (lenOf pd_14 rfl) rfl rfl (own_wr rfl rfl) (hb hby d118)
  obtain ⟨rfl, N8q, e8⟩ := hQ8
  have N8 := Fr.app N0 N8q
  obtain ⟨T9, h9, X9, e9, E9, A9, D9, -, st9⟩ := newO X8 hx hZ hown (w80 hw) (w81 hw) (w36 hw) e8 (g := (mkF m 25 #[vr o0, vi 1] [])) rfl (hb hby d218) (by decide) (by decide)
  obtain ⟨b9, g9⟩ : ∃ z, z = h0.size := ⟨_, rfl⟩
  rw [← g9] at A9 D9 st9
  have ge_b9 : h0.size ≤ b9 := Nat.le_of_eq g9.symm
  have K9 := KL.ofE E9
  have F_b9_system : Fd2 Z h9 b9 .null := D9 (Or.inr (w146 hw)) (ty := (.object "java/lang/String")) (by decide)
  have F_b9_id : Fd3 Z h9 b9 .null := D9 (Or.inr (w148 hw)) (ty := (.object "java/lang/String")) (by decide)
  have f12 := (kExa K9 E_o0)
  have f13 := (kFld K9 F_o0_value nw0)
  have f14 := (kArv K9 V_o_2 na0)
  have f15 := (kFld K9 F_o0_coder nw0)
  have f16 := (kOld K9 O0 na0)
  obtain ⟨_, T11, L11, X11, hQ11, st11⟩ := own_virtual X9 hx hZ hown (w82 hw) (w83 hw) (notFace_of_selects (args := #[]) (mvT hZ (w85 hw))) (w85 hw) (w84 hw) (w7 hw) (w86 hw) (by decide) (r17_substring l Z a0 hw [] o0 o_2 i_3 i_4 i_5 i_6 i_7 k_o_2 i_1 u_10 h9 n0 (Nat.le_trans Z0 K9.1) f12 f13 f14 S_COMPACT_STRINGS f15 f16 hp0 S_SIOOBE_FORMATTER hp3) e9 f12 (W := 2) (by decide) (g := (mkF m 32 #[vr o0, vi 1] [(.int 1), z0, (.ref o0), (.ref b9), (.ref b9)])) rfl (by rw [hml]; rfl) (argsL := [z0, (.int 1)]) (rest := [(.ref b9), (.ref b9)]) (lenOf pd_20 rfl) rfl rfl (own_wr rfl rfl) (hb hby d223)
  obtain ⟨b1_13_11, b2_6_7_13_11, k2_6_7_13_11, rfl, N11q, K11, Q11_0, Q11_1, Q11_2, Q11_3, Q11_4, Q11_5, Q11_6⟩ := hQ11
  have N11 := Fr.app N8 N11q
  have f20 := (kExa K11 f12)
  have f21 := (kFld K11 f13 nw0)
  have f22 := (kArv K11 f14 na0)
  have f23 := (kFld K11 f15 nw0)
  have f24 := (kOld K11 f16 na0)
  have sz_0_2 := (Nat.le_trans K9.1 K11.1)
  obtain ⟨_, T19, L19, X19, hQ19, st19⟩ := own_virtual X11 hx hZ hown (w117 hw) (w118 hw) (notFace_of_selects (args := #[]) (mvT hZ (w120 hw))) (w120 hw) (w119 hw) (w7 hw) (w121 hw) (by decide) (r24_substring l Z a0 hw [] o0 o_2 i_3 i_4 i_5 i_6 i_7 k_o_2 i_1 u_10 T11.heap n0 (Nat.le_trans Z0 sz_0_2) f20 f21 f22 S_COMPACT_STRINGS f23 f24 hp0 S_SIOOBE_FORMATTER hp3) rfl f20 (W := 3) (by decide) (g := (mkF m 39 #[vr o0, vi 1] [(.int 2), (.ref o0), (.ref b1_13_11), (.ref b9), (.ref b9)])) rfl (by rw [hml]; rfl) (argsL := [(.int 2)]) (rest := [(.ref b1_13_11), (.ref b9), (.ref b9)]) (lenOf pd_21 rfl) rfl rfl (own_wr rfl rfl) (hb hby d315)
  obtain ⟨b1_13_10_19, b2_6_7_13_10_19, k2_6_7_13_10_19, rfl, N19q, K19, Q19_0, Q19_1, Q19_2, Q19_3, Q19_4, Q19_5, Q19_6⟩ := hQ19
  have N19 := Fr.app N11 N19q
  have f28 := (kExa K19 Q11_3)
  have f29 := (kFld K19 Q11_5 nw0)
  have f30 := (kArv K19 Q11_6 na0)
  have f31 := (kFld K19 Q11_4 nw0)
  have f32 := (kOld K19 f24 na0)
  have f33 := (kFld K19 (kFld K11 F_b9_system nw0) nw0)
  have f34 := (kExa K19 (kExa K11 A9))
  have f35 := (kFld K19 (kFld K11 F_b9_id nw0) nw0)
  have sz_0_3 := (Nat.le_trans sz_0_2 K19.1)
  obtain ⟨_, T27, L27, X27, hS27, hk27, hZ27, hown27, hQ27, st27⟩ := own_Sinit X19 hx hZ rfl hown (w123 hw) (w124 hw) (w36 hw) (w125 hw) (by decide) (r31__init_ l Z a0 hw [] b9 b1_13_11 b1_13_10_19 b2_6_7_13_11 i_3 k2_6_7_13_11 i_1 b2_6_7_13_10_19 i_5 i_6 i_7 k2_6_7_13_10_19 T19.heap n0 (Nat.le_trans Z0 sz_0_3) f28 f29 f30 S_COMPACT_STRINGS f31 f32 hp0 hp1 Q19_3 Q19_5 Q19_6 f33 f34 (Nat.le_trans Z0 (Nat.le_trans (Nat.le_refl _) ge_b9)) f35) rfl (W := 1) (by decide) (g := (mkF m 42 #[vr o0, vi 1] [(.ref b1_13_10_19), (.ref b1_13_11), (.ref b9), (.ref b9)])) rfl (by rw [hml]; rfl) (argsL := [(.ref b1_13_11), (.ref b1_13_10_19)]) (rest := [(.ref b9)]) (lenOf pd_24 rfl) rfl rfl (own_wr rfl rfl) (hb hby d322) hS0 (Nat.le_trans hk0 sz_0_3)
  obtain ⟨rfl, N27q, K27, Q27_0, Q27_1⟩ := hQ27
  have N27 := Fr.app N19 N27q
  -- what was kept, from the start on
  have C0 := (KL.refl h0 []).trans K9 na0
  have C1 := C0.trans K11 na0
  have C2 := C1.trans K19 na0
  have C3 := C2.trans K27 (naO (Or.inr (Nat.le_trans (Nat.le_refl _) ge_b9)) (naO (Or.inr (Nat.le_trans (Nat.le_refl _) ge_b9)) na0))
  have lt_b9 : b9 < h9.size := Exa.lt A9
  have lt_b1_13_11 : b1_13_11 < T11.heap.size := Exa.lt Q11_3
  have lt_b2_6_7_13_11 : b2_6_7_13_11 < T11.heap.size := Arv.lt Q11_6
  have f36 := (kExa K27 f34)
  have f37 := (kExa K27 f28)
  have f38 := (kFld K27 f31 (nwS (Or.inl (Ne.symm (lt_ne lt_b9 Q11_0))) (nwS (Or.inl (Ne.symm (lt_ne lt_b9 Q11_0))) nw0)))
  have f39 := (kFld K27 f29 (nwS (Or.inl (Ne.symm (lt_ne lt_b9 Q11_0))) (nwS (Or.inl (Ne.symm (lt_ne lt_b9 Q11_0))) nw0)))
  have f40 := (kExa K27 Q19_3)
  have f41 := (kFld K27 Q19_4 (nwS (Or.inl (Ne.symm (lt_ne (Nat.lt_of_lt_of_le lt_b9 K11.1) Q19_0))) (nwS (Or.inl (Ne.symm (lt_ne (Nat.lt_of_lt_of_le lt_b9 K11.1) Q19_0))) nw0)))
  have f42 := (kFld K27 Q19_5 (nwS (Or.inl (Ne.symm (lt_ne (Nat.lt_of_lt_of_le lt_b9 K11.1) Q19_0))) (nwS (Or.inl (Ne.symm (lt_ne (Nat.lt_of_lt_of_le lt_b9 K11.1) Q19_0))) nw0)))
  have f43 := (kArv K27 Q19_6 (naN (lt_ne (Nat.lt_of_lt_of_le lt_b9 K11.1) Q19_1) (naN (lt_ne (Nat.lt_of_lt_of_le lt_b9 K11.1) Q19_1) na0)))
  have f44 := (kArv K27 f30 (naN (lt_ne lt_b9 Q11_1) (naN (lt_ne lt_b9 Q11_1) na0)))
  refine ⟨T27, _, some (.ref b9), _, _, X27, hS27, (by rw [show T27.heap = T27.heap from rfl]; exact hk27), (fun h => by cases h <;> rfl), ?_, fun fs hr => ?_⟩
  · show Q_r6_parse Z o0 i_1 o_2 i_3 i_4 i_5 i_6 i_7 k_o_2 u_10 h0 n0 _ T27.heap _
    exact ⟨b9, b1_13_11, b1_13_10_19, b2_6_7_13_10_19, k2_6_7_13_10_19, b2_6_7_13_11, k2_6_7_13_11, rfl, N27, C3, (Nat.le_trans (Nat.le_refl _) ge_b9), (Nat.le_trans K9.1 Q11_0), (Nat.le_trans sz_0_2 Q19_0), (Nat.le_trans sz_0_2 Q19_1), (Nat.le_trans K9.1 Q11_1), (lt_ne lt_b9 Q11_0), (lt_ne (Nat.lt_of_lt_of_le lt_b9 K11.1) Q19_0), (lt_ne (Nat.lt_of_lt_of_le lt_b9 K11.1) Q19_1), (lt_ne lt_b9 Q11_1), (lt_ne lt_b1_13_11 Q19_0), (lt_ne lt_b1_13_11 Q19_1), Q11_2, Q19_2, (Ne.symm (lt_ne lt_b2_6_7_13_11 Q19_0)), (Ne.symm (lt_ne lt_b2_6_7_13_11 Q19_1)), f36, Q27_0, Q27_1, f37, f38, f39, f40, f41, f42, f43, f44⟩
  · refine t_aloadN 1 X0.here hx (hb hby d116) rfl rfl rfl ?_
    refine t_bipush 3 (r := 58) X0.here hx (hb hby d117) (by decide) rfl ?_
    refine st8 _ ?_
    refine t_istoreN (pc' := 7) (L' := #[vr o0, vi 1]) X8.here hx (hb hby d215) rfl rfl ?_
    refine t_iloadN 8 X8.here hx (hb hby d216) rfl rfl ?_
    refine t_ifYes (pc := 8) 25 X8.here hx (hb hby d217) (by decide) (by decide) (by decide) ?_
    refine st9 _ ?_
    refine t_dup 29 X9.here hx (hb hby d219) rfl rfl ?_
    refine t_aloadN 30 X9.here hx (hb hby d220) rfl rfl rfl ?_
    refine t_iconst 31 (r := 0) X9.here hx (hb hby d221) (by decide) rfl ?_
    refine t_iloadN 32 X9.here hx (hb hby d222) rfl rfl ?_
    refine st11 _ ?_
    refine t_aloadN 36 X11.here hx (hb hby d311) rfl rfl rfl ?_
    refine t_iloadN 37 X11.here hx (hb hby d312) rfl rfl ?_
    refine t_iconst 38 (r := 1) X11.here hx (hb hby d313) (by decide) rfl ?_
    refine t_iadd 39 (r := 2) X11.here hx (hb hby d314) (by decide : ((1 : Int32) + (1 : Int32)) = (2 : Int32)) rfl ?_
    refine st19 _ ?_
    refine st27 _ ?_
    jvm_step X27.here [X27.here.top, hx, (hb hby d365), X27.method', hret, Value.isRef, FieldType.isReference]
    first | (intro acts; rw [hr _ acts rfl rfl rfl]) | rw [hr _ _ rfl rfl rfl]
    exact Steps.refl _
def w37 (hw : HW Z a0) := ow 37 hw rfl
theorem pd_25 : parseMethodDescriptor "(Ljava/lang/String;)Lcom/example/keen_roster/keenroster/core/Identifier;" = some ⟨[(.object "java/lang/String")], some (.object "com/example/keen_roster/keenroster/core/Identifier")⟩ := by decide +kernel
def w35 (hw : HW Z a0) := ow 35 hw rfl
def w149 (hw : HW Z a0) := ow 149 hw rfl
def w152 (hw : HW Z a0) := ow 152 hw rfl
abbrev b32_ := prog_2_method_6_code
theorem d366 : decode b32_ 0 = .ok (.aload_n 0, 1) := by decide +kernel
theorem d367 : decode b32_ 1 = .ok (.getfield 38, 3) := by decide +kernel
theorem d368 : decode b32_ 4 = .ok (.areturn, 1) := by decide +kernel
abbrev y32_system : MethodName := ⟨"com/example/keen_roster/keenroster/core/Identifier", "system", "()Ljava/lang/String;"⟩
def Q_r42_system (Z : State) (o0 o_1 : Addr) (h0 : Heap) (n0 : Nat) (v : Option Value) (h : Heap) (L : List Loc) : Prop := v = some (.ref o_1) ∧ Fr n0 L ∧ h = h0
theorem ef_r42_system (o0 : Addr) (m : MethodId) : entryFrame m #[(.ref o0)] 1 = mkF m 0 #[.val (.ref o0)] [] := by first | (simp [entryFrame, mkF, argsToLocals, Value.category]; done) | rfl
set_option maxRecDepth 65536 in
set_option maxHeartbeats 40000000 in
theorem r42_system (l : Launch) (Z : State) (a0 : Array Value) (hw : HW Z a0) (ws : List Jvm.Cond) (o0 o_1 : Addr) (h0 : Heap) (n0 : Nat) (Z0 : n0 ≤ h0.size) (F_o0_system : Fd2 Z h0 o0 (.ref o_1)) :
    MF l Z y32_system b32_ 1 (some (.object "java/lang/String")) ws ⟨0, 0, 0, 0⟩ #[(.ref o0)] h0 (Q_r42_system Z o0 o_1 h0 n0) := by
  refine own_body (plainFor_of_name pn_Identifier44) (ef_r42_system o0) (by decide) (by decide) ?_
  intro p e s m below meth c s₁ hx hby hml hown hnm hret hZ hh e0 X0
  have N0 := Fr.nil n0
  obtain ⟨T2, X2, e2, st2⟩ := getF X0 hx hZ hown (host := "") (Or.inl (w145 hw)) Via.refl e0 F_o0_system (g := (mkF m 1 #[vr o0] [(.ref o0)])) rfl rfl (hb hby d367)
  refine ⟨T2, _, some (.ref o_1), X2, (fun h => by cases h <;> rfl), ?_, fun fs hr => ?_⟩
  · show Q_r42_system Z o0 o_1 h0 n0 _ T2.heap _
    rw [e2]
    exact ⟨rfl, N0, rfl⟩
  · refine t_aloadN 1 X0.here hx (hb hby d366) rfl rfl rfl ?_
    refine st2 _ ?_
    jvm_step X2.here [X2.here.top, hx, (hb hby d368), X2.method', hret, Value.isRef, FieldType.isReference]
    first | (intro acts; rw [hr _ acts rfl rfl rfl]) | rw [hr _ _ rfl rfl rfl]
    exact Steps.refl _
def w153 (hw : HW Z a0) := ow 153 hw rfl
theorem pd_26 : parseMethodDescriptor "()Ljava/lang/String;" = some ⟨[], some (.object "java/lang/String")⟩ := by decide +kernel
def w150 (hw : HW Z a0) := ow 150 hw rfl
def w151 (hw : HW Z a0) := ow 151 hw rfl
def w154 (hw : HW Z a0) := ow 154 hw rfl
abbrev b33_ := method_3_code
theorem d369 : decode b33_ 0 = .ok (.aload_n 0, 1) := by decide +kernel
theorem d370 : decode b33_ 1 = .ok (.invokevirtual 7, 3) := by decide +kernel
def w157 (hw : HW Z a0) := ow 157 hw rfl
theorem d371 : decode b33_ 4 = .ok (.iload_n 3, 1) := by decide +kernel
theorem d372 : decode b33_ 5 = .ok (.if_icmp .eq 5, 3) := by decide +kernel
theorem d373 : decode b33_ 10 = .ok (.iload_n 3, 1) := by decide +kernel
theorem d374 : decode b33_ 11 = .ok (.iconst 1, 1) := by decide +kernel
theorem d375 : decode b33_ 12 = .ok (.if_icmp .lt 16, 3) := by decide +kernel
theorem d376 : decode b33_ 15 = .ok (.aload_n 0, 1) := by decide +kernel
theorem d377 : decode b33_ 16 = .ok (.iconst 0, 1) := by decide +kernel
theorem d378 : decode b33_ 17 = .ok (.invokevirtual 13, 3) := by decide +kernel
def w158 (hw : HW Z a0) := ow 158 hw rfl
def w161 (hw : HW Z a0) := ow 161 hw rfl
abbrev b34_ := jdk_42_method_56_code
theorem d379 : decode b34_ 0 = .ok (.aload_n 0, 1) := by decide +kernel
theorem d380 : decode b34_ 1 = .ok (.invokevirtual 492, 3) := by decide +kernel
theorem d381 : decode b34_ 4 = .ok (.ifCond .eq 12, 3) := by decide +kernel
theorem d382 : decode b34_ 7 = .ok (.aload_n 0, 1) := by decide +kernel
theorem d383 : decode b34_ 8 = .ok (.getfield 9, 3) := by decide +kernel
theorem d384 : decode b34_ 11 = .ok (.iload_n 1, 1) := by decide +kernel
theorem d385 : decode b34_ 12 = .ok (.invokestatic 495, 3) := by decide +kernel
def w163 (hw : HW Z a0) := ow 163 hw rfl
abbrev b35_ := jdk_43_method_2_code
theorem d386 : decode b35_ 0 = .ok (.iload_n 1, 1) := by decide +kernel
theorem d387 : decode b35_ 1 = .ok (.aload_n 0, 1) := by decide +kernel
theorem d388 : decode b35_ 2 = .ok (.arraylength, 1) := by decide +kernel
theorem d389 : decode b35_ 3 = .ok (.invokestatic 9, 3) := by decide +kernel
def w166 (hw : HW Z a0) := ow 166 hw rfl
def w168 (hw : HW Z a0) := ow 168 hw rfl
def w167 (hw : HW Z a0) := ow 167 hw rfl
theorem d390 : decode b35_ 6 = .ok (.aload_n 0, 1) := by decide +kernel
theorem d391 : decode b35_ 7 = .ok (.iload_n 1, 1) := by decide +kernel
theorem d392 : decode b35_ 8 = .ok (.baload, 1) := by decide +kernel
theorem d393 : decode b35_ 9 = .ok (.sipush 255, 3) := by decide +kernel
theorem d394 : decode b35_ 12 = .ok (.iand, 1) := by decide +kernel
theorem d395 : decode b35_ 13 = .ok (.i2c, 1) := by decide +kernel
theorem d396 : decode b35_ 14 = .ok (.ireturn, 1) := by decide +kernel
abbrev y33_charAt : MethodName := ⟨"java/lang/StringLatin1", "charAt", "([BI)C"⟩
def Q_r45_charAt (Z : State) (o0 : Addr) (i_1 : Int32) (k_o0 : ClassId) (u_2 : Value) (h0 : Heap) (n0 : Nat) (v : Option Value) (h : Heap) (L : List Loc) : Prop := v = some (.int (i_1 &&& (255 : Int32))) ∧ Fr n0 L ∧ h = h0
theorem ef_r45_charAt (o0 : Addr) (m : MethodId) : entryFrame m #[(.ref o0), (.int 0)] 2 = mkF m 0 #[.val (.ref o0), .val (.int 0)] [] := by first | (simp [entryFrame, mkF, argsToLocals, Value.category]; done) | rfl
set_option maxRecDepth 65536 in
set_option maxHeartbeats 40000000 in
theorem r45_charAt (l : Launch) (Z : State) (a0 : Array Value) (hw : HW Z a0) (ws : List Jvm.Cond) (o0 : Addr) (i_1 : Int32) (k_o0 : ClassId) (u_2 : Value) (h0 : Heap) (n0 : Nat) (Z0 : n0 ≤ h0.size) (V_o0 : Arv Z h0 o0 k_o0 .byte 1 [(.int i_1)] z0) (S_SIOOBE_FORMATTER : Sta Z Z.heap "jdk/internal/util/Preconditions" "SIOOBE_FORMATTER" "Ljava/util/function/BiFunction;" u_2) (hp0 : u_2.isRef = true) (O0 : Old Z n0 h0) :
    MF l Z y33_charAt b35_ 2 (some .char) ws ⟨2, 0, 0, 27⟩ #[(.ref o0), z0] h0 (Q_r45_charAt Z o0 i_1 k_o0 u_2 h0 n0) := by
  refine own_body (plainFor_of_name pn_StringLatin1120) (ef_r45_charAt o0) (by decide) (by decide) ?_
  intro p e s m below meth c s₁ hx hby hml hown hnm hret hZ hh e0 X0
  have N0 := Fr.nil n0
  obtain ⟨_, T3, L3, X3, hQ3, st3⟩ := own_static X0 hx hZ hown (w166 hw) (w167 hw) (w7 hw) (w168 hw) (by decide) (r_checkIndex l Z a0 hw [] (0 : Int32) (1 : Int32) u_2 h0 n0 Z0 hp0 S_SIOOBE_FORMATTER O0 (by decide) (by decide)) e0 (W := 0) (by decide) (g := (mkF m 3 #[vr o0, vi 0] [(.int 1), z0])) rfl (by rw [hml]; rfl) (argsL := [z0, (.int 1)]) (rest := []) (lenOf pd_16 rfl) rfl rfl (own_wr rfl rfl) (hb hby d389)
  obtain ⟨rfl, N3q, e3⟩ := hQ3
  have N3 := Fr.app N0 N3q
  refine ⟨T3, _, some (.int (i_1 &&& (255 : Int32))), X3, (fun h => by cases h <;> rfl), ?_, fun fs hr => ?_⟩
  · show Q_r45_charAt Z o0 i_1 k_o0 u_2 h0 n0 _ T3.heap _
    rw [e3]
    exact ⟨rfl, N3, rfl⟩
  · rw [← (show (nar .char (i_1 &&& (255 : Int32))) = (i_1 &&& (255 : Int32)) from (i2c_mask _))] at hr
    refine t_iloadN 1 X0.here hx (hb hby d386) rfl rfl ?_
    refine t_aloadN 2 X0.here hx (hb hby d387) rfl rfl rfl ?_
    refine own_arlen (pc' := 3) X0 hx hZ e0 V_o0 (hb hby d388) rfl ?_
    refine st3 _ ?_
    refine t_aloadN 7 X3.here hx (hb hby d390) rfl rfl rfl ?_
    refine t_iloadN 8 X3.here hx (hb hby d391) rfl rfl ?_
    refine own_aldB (pc' := 9) X3 hx hZ e3 V_o0 (j := 0) (v := (.int i_1)) (by decide) rfl (hb hby d392) rfl ?_
    refine t_sipush 12 (r := 255) X3.here hx (hb hby d393) (by decide) rfl ?_
    refine t_iand 13 X3.here hx (hb hby d394) rfl rfl ?_
    refine t_i2c 14 (r := (i_1 &&& (255 : Int32))) X3.here hx (hb hby d395) (i2c_mask _) rfl ?_
    exact retN X3 hx (t := .char) hret (by simp) (hb hby d396) hr
def w165 (hw : HW Z a0) := ow 165 hw rfl
theorem pd_27 : parseMethodDescriptor "([BI)C" = some ⟨[(.array .byte), .int], some .char⟩ := by decide +kernel
def w164 (hw : HW Z a0) := ow 164 hw rfl
theorem d397 : decode b34_ 15 = .ok (.ireturn, 1) := by decide +kernel
abbrev y34_charAt : MethodName := ⟨"java/lang/String", "charAt", "(I)C"⟩
def Q_r44_charAt (Z : State) (o0 : Addr) (i_1 : Int32) (o_3 : Addr) (i_5 : Int32) (k_o_3 : ClassId) (u_6 : Value) (h0 : Heap) (n0 : Nat) (v : Option Value) (h : Heap) (L : List Loc) : Prop := v = some (.int (i_5 &&& (255 : Int32))) ∧ Fr n0 L ∧ h = h0
theorem ef_r44_charAt (o0 : Addr) (m : MethodId) : entryFrame m #[(.ref o0), (.int 0)] 2 = mkF m 0 #[.val (.ref o0), .val (.int 0)] [] := by first | (simp [entryFrame, mkF, argsToLocals, Value.category]; done) | rfl
set_option maxRecDepth 65536 in
set_option maxHeartbeats 40000000 in
theorem r44_charAt (l : Launch) (Z : State) (a0 : Array Value) (hw : HW Z a0) (ws : List Jvm.Cond) (o0 : Addr) (i_1 : Int32) (o_3 : Addr) (i_5 : Int32) (k_o_3 : ClassId) (u_6 : Value) (h0 : Heap) (n0 : Nat) (Z0 : n0 ≤ h0.size) (E_o0 : Ex0 Z h0 o0) (S_COMPACT_STRINGS : SCS Z i_1) (F_o0_coder : Fd0 Z h0 o0 z0) (O0 : Old Z n0 h0) (hp0 : ¬ (i_1 = (0 : Int32))) (F_o0_value : Fd1 Z h0 o0 (.ref o_3)) (V_o_3 : Arv Z h0 o_3 k_o_3 .byte 1 [(.int i_5)] z0) (S_SIOOBE_FORMATTER : Sta Z Z.heap "jdk/internal/util/Preconditions" "SIOOBE_FORMATTER" "Ljava/util/function/BiFunction;" u_6) (hp1 : u_6.isRef = true) :
    MF l Z y34_charAt b34_ 2 (some .char) ws ⟨3, 0, 0, 40⟩ #[(.ref o0), z0] h0 (Q_r44_charAt Z o0 i_1 o_3 i_5 k_o_3 u_6 h0 n0) := by
  refine own_body (plainFor_of_name pn_String564) (ef_r44_charAt o0) (by decide) (by decide) ?_
  intro p e s m below meth c s₁ hx hby hml hown hnm hret hZ hh e0 X0
  have N0 := Fr.nil n0
  obtain ⟨_, T2, L2, X2, hQ2, st2⟩ := own_virtual X0 hx hZ hown (w48 hw) (w49 hw) (notFace_of_selects (args := #[]) (mvT hZ (w51 hw))) (w51 hw) (w50 hw) (w7 hw) (w52 hw) (by decide) (r9_isLatin1 l Z a0 hw [] o0 i_1 h0 n0 Z0 S_COMPACT_STRINGS O0 hp0 F_o0_coder) e0 E_o0 (W := 0) (by decide) (g := (mkF m 1 #[vr o0, vi 0] [(.ref o0)])) rfl (by rw [hml]; rfl) (argsL := []) (rest := []) (lenOf pd_8 rfl) rfl rfl (own_wr rfl rfl) (hb hby d380)
  obtain ⟨rfl, N2q, e2⟩ := hQ2
  have N2 := Fr.app N0 N2q
  obtain ⟨T4, X4, e4, st4⟩ := getF X2 hx hZ hown (host := "") (Or.inl (w32 hw)) Via.refl e2 F_o0_value (g := (mkF m 8 #[vr o0, vi 0] [(.ref o0)])) rfl rfl (hb hby d383)
  obtain ⟨_, T7, L7, X7, hQ7, st7⟩ := own_static X4 hx hZ hown (w163 hw) (w164 hw) (w65 hw) (w165 hw) (by decide) (r45_charAt l Z a0 hw [] o_3 i_5 k_o_3 u_6 h0 n0 Z0 V_o_3 S_SIOOBE_FORMATTER hp1 O0) e4 (W := 0) (by decide) (g := (mkF m 12 #[vr o0, vi 0] [z0, (.ref o_3)])) rfl (by rw [hml]; rfl) (argsL := [(.ref o_3), z0]) (rest := []) (lenOf pd_27 rfl) rfl rfl (own_wr rfl rfl) (hb hby d385)
  obtain ⟨rfl, N7q, e7⟩ := hQ7
  have N7 := Fr.app N2 N7q
  refine ⟨T7, _, some (.int (i_5 &&& (255 : Int32))), X7, (fun h => by cases h <;> rfl), ?_, fun fs hr => ?_⟩
  · show Q_r44_charAt Z o0 i_1 o_3 i_5 k_o_3 u_6 h0 n0 _ T7.heap _
    rw [e7]
    exact ⟨rfl, N7, rfl⟩
  · rw [← (show (nar .char (i_5 &&& (255 : Int32))) = (i_5 &&& (255 : Int32)) from (i2c_mask _))] at hr
    refine t_aloadN 1 X0.here hx (hb hby d379) rfl rfl rfl ?_
    refine st2 _ ?_
    refine t_ifNo 7 X2.here hx (hb hby d381) (by decide) rfl ?_
    refine t_aloadN 8 X2.here hx (hb hby d382) rfl rfl rfl ?_
    refine st4 _ ?_
    refine t_iloadN 12 X4.here hx (hb hby d384) rfl rfl ?_
    refine st7 _ ?_
    exact retN X7 hx (t := .char) hret (by simp) (hb hby d397) hr
def w162 (hw : HW Z a0) := ow 162 hw rfl
def w159 (hw : HW Z a0) := ow 159 hw rfl
def w160 (hw : HW Z a0) := ow 160 hw rfl
theorem d398 : decode b33_ 20 = .ok (.aload_n 1, 1) := by decide +kernel
theorem d399 : decode b33_ 21 = .ok (.iload_n 2, 1) := by decide +kernel
theorem d400 : decode b33_ 22 = .ok (.caload, 1) := by decide +kernel
theorem d401 : decode b33_ 23 = .ok (.if_icmp .eq 5, 3) := by decide +kernel
theorem d402 : decode b33_ 28 = .ok (.iload_n 3, 1) := by decide +kernel
theorem d403 : decode b33_ 29 = .ok (.iconst 2, 1) := by decide +kernel
theorem d404 : decode b33_ 30 = .ok (.if_icmp .lt 18, 3) := by decide +kernel
theorem d405 : decode b33_ 48 = .ok (.iload_n 3, 1) := by decide +kernel
theorem d406 : decode b33_ 49 = .ok (.iconst 3, 1) := by decide +kernel
theorem d407 : decode b33_ 50 = .ok (.if_icmp .lt 18, 3) := by decide +kernel
theorem d408 : decode b33_ 68 = .ok (.iload_n 3, 1) := by decide +kernel
theorem d409 : decode b33_ 69 = .ok (.iconst 4, 1) := by decide +kernel
theorem d410 : decode b33_ 70 = .ok (.if_icmp .lt 18, 3) := by decide +kernel
theorem d411 : decode b33_ 88 = .ok (.iconst 1, 1) := by decide +kernel
theorem d412 : decode b33_ 89 = .ok (.ireturn, 1) := by decide +kernel
abbrev y35_same : MethodName := ⟨"com/example/keen_roster/keenroster/core/IdentifierParsePinLaw", "same", "(Ljava/lang/String;[CII)Z"⟩
def Q_r43_same (Z : State) (o0 o1 o_1 : Addr) (i_2 : Int32) (k_o_1 : ClassId) (i_3 : Int32) (u_5 : Value) (i_7 i_8 i_9 i_10 i_11 : Int32) (k_o1 : ClassId) (h0 : Heap) (n0 : Nat) (v : Option Value) (h : Heap) (L : List Loc) : Prop := v = some (.int 1) ∧ Fr n0 L ∧ h = h0
theorem ef_r43_same (o0 o1 : Addr) (m : MethodId) : entryFrame m #[(.ref o0), (.ref o1), (.int 0), (.int 1)] 4 = mkF m 0 #[.val (.ref o0), .val (.ref o1), .val (.int 0), .val (.int 1)] [] := by first | (simp [entryFrame, mkF, argsToLocals, Value.category]; done) | rfl
set_option maxRecDepth 65536 in
set_option maxHeartbeats 40000000 in
theorem r43_same (l : Launch) (Z : State) (a0 : Array Value) (hw : HW Z a0) (ws : List Jvm.Cond) (o0 o1 o_1 : Addr) (i_2 : Int32) (k_o_1 : ClassId) (i_3 : Int32) (u_5 : Value) (i_7 i_8 i_9 i_10 i_11 : Int32) (k_o1 : ClassId) (h0 : Heap) (n0 : Nat) (Z0 : n0 ≤ h0.size) (E_o0 : Ex0 Z h0 o0) (F_o0_value : Fd1 Z h0 o0 (.ref o_1)) (V_o_1 : Arv Z h0 o_1 k_o_1 .byte 1 [(.int i_2)] z0) (S_COMPACT_STRINGS : SCS Z i_3) (F_o0_coder : Fd0 Z h0 o0 z0) (O0 : Old Z n0 h0) (hp0 : ¬ (i_3 = (0 : Int32))) (S_SIOOBE_FORMATTER : Sta Z Z.heap "jdk/internal/util/Preconditions" "SIOOBE_FORMATTER" "Ljava/util/function/BiFunction;" u_5) (hp1 : u_5.isRef = true) (V_o1 : Arv Z h0 o1 k_o1 .char 5 [(.int i_7), (.int i_8), (.int i_9), (.int i_10), (.int i_11)] z0) (hp2 : (i_2 &&& (255 : Int32)) = i_7) :
    MF l Z y35_same b33_ 4 (some .boolean) ws ⟨4, 0, 0, 53⟩ #[(.ref o0), (.ref o1), z0, (.int 1)] h0 (Q_r43_same Z o0 o1 o_1 i_2 k_o_1 i_3 u_5 i_7 i_8 i_9 i_10 i_11 k_o1 h0 n0) := by
  refine own_body (plainFor_of_name pn_IdentifierParsePinLaw141) (ef_r43_same o0 o1) (by decide) (by decide) ?_
  intro p e s m below meth c s₁ hx hby hml hown hnm hret hZ hh e0 X0
  have N0 := Fr.nil n0
  obtain ⟨_, T4, L4, X4, hQ4, st4⟩ := own_virtual X0 hx hZ hown (w157 hw) (w54 hw) (notFace_of_selects (args := #[]) (mvT hZ (w56 hw))) (w56 hw) (w55 hw) (w7 hw) (w57 hw) (by decide) (r37_length l Z a0 hw [] o0 o_1 i_2 k_o_1 i_3 h0 n0 Z0 F_o0_value V_o_1 E_o0 S_COMPACT_STRINGS F_o0_coder O0 hp0) e0 E_o0 (W := 0) (by decide) (g := (mkF m 1 #[vr o0, vr o1, vi 0, vi 1] [(.ref o0)])) rfl (by rw [hml]; rfl) (argsL := []) (rest := []) (lenOf pd_10 rfl) rfl rfl (own_wr rfl rfl) (hb hby d370)
  obtain ⟨rfl, N4q, e4⟩ := hQ4
  have N4 := Fr.app N0 N4q
  obtain ⟨_, T6, L6, X6, hQ6, st6⟩ := own_virtual X4 hx hZ hown (w158 hw) (w159 hw) (notFace_of_selects (args := #[]) (mvT hZ (w161 hw))) (w161 hw) (w160 hw) (w7 hw) (w162 hw) (by decide) (r44_charAt l Z a0 hw [] o0 i_3 o_1 i_2 k_o_1 u_5 h0 n0 Z0 E_o0 S_COMPACT_STRINGS F_o0_coder O0 hp0 F_o0_value V_o_1 S_SIOOBE_FORMATTER hp1) e4 E_o0 (W := 0) (by decide) (g := (mkF m 17 #[vr o0, vr o1, vi 0, vi 1] [z0, (.ref o0)])) rfl (by rw [hml]; rfl) (argsL := [z0]) (rest := []) (lenOf pd_2 rfl) rfl rfl (own_wr rfl rfl) (hb hby d378)
  obtain ⟨rfl, N6q, e6⟩ := hQ6
  have N6 := Fr.app N4 N6q
  refine ⟨T6, _, some (.int 1), X6, (fun h => by cases h <;> rfl), ?_, fun fs hr => ?_⟩
  · show Q_r43_same Z o0 o1 o_1 i_2 k_o_1 i_3 u_5 i_7 i_8 i_9 i_10 i_11 k_o1 h0 n0 _ T6.heap _
    rw [e6]
    exact ⟨rfl, N6, rfl⟩
  · refine t_aloadN 1 X0.here hx (hb hby d369) rfl rfl rfl ?_
    refine st4 _ ?_
    refine t_iloadN 5 X4.here hx (hb hby d371) rfl rfl ?_
    refine t_icmpYes (pc := 5) 10 X4.here hx (hb hby d372) (by decide) (by decide) (by decide) ?_
    refine t_iloadN 11 X4.here hx (hb hby d373) rfl rfl ?_
    refine t_iconst 12 (r := 1) X4.here hx (hb hby d374) (by decide) rfl ?_
    refine t_icmpNo 15 X4.here hx (hb hby d375) (by decide) rfl ?_
    refine t_aloadN 16 X4.here hx (hb hby d376) rfl rfl rfl ?_
    refine t_iconst 17 (r := 0) X4.here hx (hb hby d377) (by decide) rfl ?_
    refine st6 _ ?_
    refine t_aloadN 21 X6.here hx (hb hby d398) rfl rfl rfl ?_
    refine t_iloadN 22 X6.here hx (hb hby d399) rfl rfl ?_
    refine own_aldC (pc' := 23) X6 hx hZ e6 V_o1 (j := 0) (v := (.int i_7)) (by decide) rfl (hb hby d400) rfl ?_
    refine t_icmpYes (pc := 23) 28 X6.here hx (hb hby d401) (teq hp2).1 (by decide) (by decide) ?_
    refine t_iloadN 29 X6.here hx (hb hby d402) rfl rfl ?_
    refine t_iconst 30 (r := 2) X6.here hx (hb hby d403) (by decide) rfl ?_
    refine t_icmpYes (pc := 30) 48 X6.here hx (hb hby d404) (by decide) (by decide) (by decide) ?_
    refine t_iloadN 49 X6.here hx (hb hby d405) rfl rfl ?_
    refine t_iconst 50 (r := 3) X6.here hx (hb hby d406) (by decide) rfl ?_
    refine t_icmpYes (pc := 50) 68 X6.here hx (hb hby d407) (by decide) (by decide) (by decide) ?_
    refine t_iloadN 69 X6.here hx (hb hby d408) rfl rfl ?_
    refine t_iconst 70 (r := 4) X6.here hx (hb hby d409) (by decide) rfl ?_
    refine t_icmpYes (pc := 70) 88 X6.here hx (hb hby d410) (by decide) (by decide) (by decide) ?_
    refine t_iconst 89 (r := 1) X6.here hx (hb hby d411) (by decide) rfl ?_
    exact retN X6 hx (t := .boolean) hret (by simp) (hb hby d412) hr
def w156 (hw : HW Z a0) := ow 156 hw rfl
theorem pd_28 : parseMethodDescriptor "(Ljava/lang/String;[CII)Z" = some ⟨[(.object "java/lang/String"), (.array .char), .int, .int], some .boolean⟩ := by decide +kernel
def w155 (hw : HW Z a0) := ow 155 hw rfl
def w172 (hw : HW Z a0) := ow 172 hw rfl
def w175 (hw : HW Z a0) := ow 175 hw rfl
abbrev b36_ := prog_2_method_7_code
theorem d413 : decode b36_ 0 = .ok (.aload_n 0, 1) := by decide +kernel
theorem d414 : decode b36_ 1 = .ok (.getfield 43, 3) := by decide +kernel
theorem d415 : decode b36_ 4 = .ok (.areturn, 1) := by decide +kernel
abbrev y36_id : MethodName := ⟨"com/example/keen_roster/keenroster/core/Identifier", "id", "()Ljava/lang/String;"⟩
def Q_r46_id (Z : State) (o0 o_1 : Addr) (h0 : Heap) (n0 : Nat) (v : Option Value) (h : Heap) (L : List Loc) : Prop := v = some (.ref o_1) ∧ Fr n0 L ∧ h = h0
theorem ef_r46_id (o0 : Addr) (m : MethodId) : entryFrame m #[(.ref o0)] 1 = mkF m 0 #[.val (.ref o0)] [] := by first | (simp [entryFrame, mkF, argsToLocals, Value.category]; done) | rfl
set_option maxRecDepth 65536 in
set_option maxHeartbeats 40000000 in
theorem r46_id (l : Launch) (Z : State) (a0 : Array Value) (hw : HW Z a0) (ws : List Jvm.Cond) (o0 o_1 : Addr) (h0 : Heap) (n0 : Nat) (Z0 : n0 ≤ h0.size) (F_o0_id : Fd3 Z h0 o0 (.ref o_1)) :
    MF l Z y36_id b36_ 1 (some (.object "java/lang/String")) ws ⟨0, 0, 0, 0⟩ #[(.ref o0)] h0 (Q_r46_id Z o0 o_1 h0 n0) := by
  refine own_body (plainFor_of_name pn_Identifier44) (ef_r46_id o0) (by decide) (by decide) ?_
  intro p e s m below meth c s₁ hx hby hml hown hnm hret hZ hh e0 X0
  have N0 := Fr.nil n0
  obtain ⟨T2, X2, e2, st2⟩ := getF X0 hx hZ hown (host := "") (Or.inl (w147 hw)) Via.refl e0 F_o0_id (g := (mkF m 1 #[vr o0] [(.ref o0)])) rfl rfl (hb hby d414)
  refine ⟨T2, _, some (.ref o_1), X2, (fun h => by cases h <;> rfl), ?_, fun fs hr => ?_⟩
  · show Q_r46_id Z o0 o_1 h0 n0 _ T2.heap _
    rw [e2]
    exact ⟨rfl, N0, rfl⟩
  · refine t_aloadN 1 X0.here hx (hb hby d413) rfl rfl rfl ?_
    refine st2 _ ?_
    jvm_step X2.here [X2.here.top, hx, (hb hby d415), X2.method', hret, Value.isRef, FieldType.isReference]
    first | (intro acts; rw [hr _ acts rfl rfl rfl]) | rw [hr _ _ rfl rfl rfl]
    exact Steps.refl _
def w176 (hw : HW Z a0) := ow 176 hw rfl
def w173 (hw : HW Z a0) := ow 173 hw rfl
def w174 (hw : HW Z a0) := ow 174 hw rfl
def Q_r48_length (Z : State) (o0 o_1 : Addr) (i_3 i_4 i_5 : Int32) (k_o_1 : ClassId) (i_6 : Int32) (h0 : Heap) (n0 : Nat) (v : Option Value) (h : Heap) (L : List Loc) : Prop := v = some (.int 3) ∧ Fr n0 L ∧ h = h0
theorem ef_r48_length (o0 : Addr) (m : MethodId) : entryFrame m #[(.ref o0)] 1 = mkF m 0 #[.val (.ref o0)] [] := by first | (simp [entryFrame, mkF, argsToLocals, Value.category]; done) | rfl
set_option maxRecDepth 65536 in
set_option maxHeartbeats 40000000 in
theorem r48_length (l : Launch) (Z : State) (a0 : Array Value) (hw : HW Z a0) (ws : List Jvm.Cond) (o0 o_1 : Addr) (i_3 i_4 i_5 : Int32) (k_o_1 : ClassId) (i_6 : Int32) (h0 : Heap) (n0 : Nat) (Z0 : n0 ≤ h0.size) (F_o0_value : Fd1 Z h0 o0 (.ref o_1)) (V_o_1 : Arv Z h0 o_1 k_o_1 .byte 3 [(.int i_3), (.int i_4), (.int i_5)] z0) (E_o0 : Ex0 Z h0 o0) (S_COMPACT_STRINGS : SCS Z i_6) (F_o0_coder : Fd0 Z h0 o0 z0) (O0 : Old Z n0 h0) (hp0 : ¬ (i_6 = (0 : Int32))) :
    MF l Z y12_length b14_ 1 (some .int) ws ⟨1, 0, 0, 13⟩ #[(.ref o0)] h0 (Q_r48_length Z o0 o_1 i_3 i_4 i_5 k_o_1 i_6 h0 n0) := by
  refine own_body (plainFor_of_name pn_String564) (ef_r48_length o0) (by decide) (by decide) ?_
  intro p e s m below meth c s₁ hx hby hml hown hnm hret hZ hh e0 X0
  have N0 := Fr.nil n0
  obtain ⟨T2, X2, e2, st2⟩ := getF X0 hx hZ hown (host := "") (Or.inl (w32 hw)) Via.refl e0 F_o0_value (g := (mkF m 1 #[vr o0] [(.ref o0)])) rfl rfl (hb hby d141)
  obtain ⟨_, T7, L7, X7, hQ7, st7⟩ := own_virtual X2 hx hZ hown (w58 hw) (w59 hw) (notFace_of_selects (args := #[]) (mvT hZ (w61 hw))) (w61 hw) (w60 hw) (w7 hw) (w62 hw) (by decide) (r11_coder l Z a0 hw [] o0 i_6 h0 n0 Z0 S_COMPACT_STRINGS O0 hp0 F_o0_coder) e2 E_o0 (W := 1) (by decide) (g := (mkF m 6 #[vr o0] [(.ref o0), (.int 3)])) rfl (by rw [hml]; rfl) (argsL := []) (rest := [(.int 3)]) (lenOf pd_9 rfl) rfl rfl (own_wr rfl rfl) (hb hby d144)
  obtain ⟨rfl, N7q, e7⟩ := hQ7
  have N7 := Fr.app N0 N7q
  refine ⟨T7, _, some (.int 3), X7, (fun h => by cases h <;> rfl), ?_, fun fs hr => ?_⟩
  · show Q_r48_length Z o0 o_1 i_3 i_4 i_5 k_o_1 i_6 h0 n0 _ T7.heap _
    rw [e7]
    exact ⟨rfl, N7, rfl⟩
  · refine t_aloadN 1 X0.here hx (hb hby d140) rfl rfl rfl ?_
    refine st2 _ ?_
    refine own_arlen (pc' := 5) X2 hx hZ e2 V_o_1 (hb hby d142) rfl ?_
    refine t_aloadN 6 X2.here hx (hb hby d143) rfl rfl rfl ?_
    refine st7 _ ?_
    refine t_ishr 10 (r := 3) X7.here hx (hb hby d151) (by decide : ((3 : Int32) >>> ((0 : Int32) &&& 31)) = (3 : Int32)) rfl ?_
    exact retI X7 hx hret (hb hby d152) hr
def Q_r50_charAt (Z : State) (o0 : Addr) (i_1 i_2 i_3 : Int32) (k_o0 : ClassId) (u_4 : Value) (h0 : Heap) (n0 : Nat) (v : Option Value) (h : Heap) (L : List Loc) : Prop := v = some (.int (i_1 &&& (255 : Int32))) ∧ Fr n0 L ∧ h = h0
theorem ef_r50_charAt (o0 : Addr) (m : MethodId) : entryFrame m #[(.ref o0), (.int 0)] 2 = mkF m 0 #[.val (.ref o0), .val (.int 0)] [] := by first | (simp [entryFrame, mkF, argsToLocals, Value.category]; done) | rfl
set_option maxRecDepth 65536 in
set_option maxHeartbeats 40000000 in
theorem r50_charAt (l : Launch) (Z : State) (a0 : Array Value) (hw : HW Z a0) (ws : List Jvm.Cond) (o0 : Addr) (i_1 i_2 i_3 : Int32) (k_o0 : ClassId) (u_4 : Value) (h0 : Heap) (n0 : Nat) (Z0 : n0 ≤ h0.size) (V_o0 : Arv Z h0 o0 k_o0 .byte 3 [(.int i_1), (.int i_2), (.int i_3)] z0) (S_SIOOBE_FORMATTER : Sta Z Z.heap "jdk/internal/util/Preconditions" "SIOOBE_FORMATTER" "Ljava/util/function/BiFunction;" u_4) (hp0 : u_4.isRef = true) (O0 : Old Z n0 h0) :
    MF l Z y33_charAt b35_ 2 (some .char) ws ⟨2, 0, 0, 27⟩ #[(.ref o0), z0] h0 (Q_r50_charAt Z o0 i_1 i_2 i_3 k_o0 u_4 h0 n0) := by
  refine own_body (plainFor_of_name pn_StringLatin1120) (ef_r50_charAt o0) (by decide) (by decide) ?_
  intro p e s m below meth c s₁ hx hby hml hown hnm hret hZ hh e0 X0
  have N0 := Fr.nil n0
  obtain ⟨_, T5, L5, X5, hQ5, st5⟩ := own_static X0 hx hZ hown (w166 hw) (w167 hw) (w7 hw) (w168 hw) (by decide) (r_checkIndex l Z a0 hw [] (0 : Int32) (3 : Int32) u_4 h0 n0 Z0 hp0 S_SIOOBE_FORMATTER O0 (by decide) (by decide)) e0 (W := 0) (by decide) (g := (mkF m 3 #[vr o0, vi 0] [(.int 3), z0])) rfl (by rw [hml]; rfl) (argsL := [z0, (.int 3)]) (rest := []) (lenOf pd_16 rfl) rfl rfl (own_wr rfl rfl) (hb hby d389)
  obtain ⟨rfl, N5q, e5⟩ := hQ5
  have N5 := Fr.app N0 N5q
  refine ⟨T5, _, some (.int (i_1 &&& (255 : Int32))), X5, (fun h => by cases h <;> rfl), ?_, fun fs hr => ?_⟩
  · show Q_r50_charAt Z o0 i_1 i_2 i_3 k_o0 u_4 h0 n0 _ T5.heap _
    rw [e5]
    exact ⟨rfl, N5, rfl⟩
  · rw [← (show (nar .char (i_1 &&& (255 : Int32))) = (i_1 &&& (255 : Int32)) from (i2c_mask _))] at hr
    refine t_iloadN 1 X0.here hx (hb hby d386) rfl rfl ?_
    refine t_aloadN 2 X0.here hx (hb hby d387) rfl rfl rfl ?_
    refine own_arlen (pc' := 3) X0 hx hZ e0 V_o0 (hb hby d388) rfl ?_
    refine st5 _ ?_
    refine t_aloadN 7 X5.here hx (hb hby d390) rfl rfl rfl ?_
    refine t_iloadN 8 X5.here hx (hb hby d391) rfl rfl ?_
    refine own_aldB (pc' := 9) X5 hx hZ e5 V_o0 (j := 0) (v := (.int i_1)) (by decide) rfl (hb hby d392) rfl ?_
    refine t_sipush 12 (r := 255) X5.here hx (hb hby d393) (by decide) rfl ?_
    refine t_iand 13 X5.here hx (hb hby d394) rfl rfl ?_
    refine t_i2c 14 (r := (i_1 &&& (255 : Int32))) X5.here hx (hb hby d395) (i2c_mask _) rfl ?_
    exact retN X5 hx (t := .char) hret (by simp) (hb hby d396) hr
def Q_r49_charAt (Z : State) (o0 : Addr) (i_1 : Int32) (o_3 : Addr) (i_5 i_6 i_7 : Int32) (k_o_3 : ClassId) (u_8 : Value) (h0 : Heap) (n0 : Nat) (v : Option Value) (h : Heap) (L : List Loc) : Prop := v = some (.int (i_5 &&& (255 : Int32))) ∧ Fr n0 L ∧ h = h0
theorem ef_r49_charAt (o0 : Addr) (m : MethodId) : entryFrame m #[(.ref o0), (.int 0)] 2 = mkF m 0 #[.val (.ref o0), .val (.int 0)] [] := by first | (simp [entryFrame, mkF, argsToLocals, Value.category]; done) | rfl
set_option maxRecDepth 65536 in
set_option maxHeartbeats 40000000 in
theorem r49_charAt (l : Launch) (Z : State) (a0 : Array Value) (hw : HW Z a0) (ws : List Jvm.Cond) (o0 : Addr) (i_1 : Int32) (o_3 : Addr) (i_5 i_6 i_7 : Int32) (k_o_3 : ClassId) (u_8 : Value) (h0 : Heap) (n0 : Nat) (Z0 : n0 ≤ h0.size) (E_o0 : Ex0 Z h0 o0) (S_COMPACT_STRINGS : SCS Z i_1) (F_o0_coder : Fd0 Z h0 o0 z0) (O0 : Old Z n0 h0) (hp0 : ¬ (i_1 = (0 : Int32))) (F_o0_value : Fd1 Z h0 o0 (.ref o_3)) (V_o_3 : Arv Z h0 o_3 k_o_3 .byte 3 [(.int i_5), (.int i_6), (.int i_7)] z0) (S_SIOOBE_FORMATTER : Sta Z Z.heap "jdk/internal/util/Preconditions" "SIOOBE_FORMATTER" "Ljava/util/function/BiFunction;" u_8) (hp1 : u_8.isRef = true) :
    MF l Z y34_charAt b34_ 2 (some .char) ws ⟨3, 0, 0, 40⟩ #[(.ref o0), z0] h0 (Q_r49_charAt Z o0 i_1 o_3 i_5 i_6 i_7 k_o_3 u_8 h0 n0) := by
  refine own_body (plainFor_of_name pn_String564) (ef_r49_charAt o0) (by decide) (by decide) ?_
  intro p e s m below meth c s₁ hx hby hml hown hnm hret hZ hh e0 X0
  have N0 := Fr.nil n0
  obtain ⟨_, T2, L2, X2, hQ2, st2⟩ := own_virtual X0 hx hZ hown (w48 hw) (w49 hw) (notFace_of_selects (args := #[]) (mvT hZ (w51 hw))) (w51 hw) (w50 hw) (w7 hw) (w52 hw) (by decide) (r9_isLatin1 l Z a0 hw [] o0 i_1 h0 n0 Z0 S_COMPACT_STRINGS O0 hp0 F_o0_coder) e0 E_o0 (W := 0) (by decide) (g := (mkF m 1 #[vr o0, vi 0] [(.ref o0)])) rfl (by rw [hml]; rfl) (argsL := []) (rest := []) (lenOf pd_8 rfl) rfl rfl (own_wr rfl rfl) (hb hby d380)
  obtain ⟨rfl, N2q, e2⟩ := hQ2
  have N2 := Fr.app N0 N2q
  obtain ⟨T4, X4, e4, st4⟩ := getF X2 hx hZ hown (host := "") (Or.inl (w32 hw)) Via.refl e2 F_o0_value (g := (mkF m 8 #[vr o0, vi 0] [(.ref o0)])) rfl rfl (hb hby d383)
  obtain ⟨_, T9, L9, X9, hQ9, st9⟩ := own_static X4 hx hZ hown (w163 hw) (w164 hw) (w65 hw) (w165 hw) (by decide) (r50_charAt l Z a0 hw [] o_3 i_5 i_6 i_7 k_o_3 u_8 h0 n0 Z0 V_o_3 S_SIOOBE_FORMATTER hp1 O0) e4 (W := 0) (by decide) (g := (mkF m 12 #[vr o0, vi 0] [z0, (.ref o_3)])) rfl (by rw [hml]; rfl) (argsL := [(.ref o_3), z0]) (rest := []) (lenOf pd_27 rfl) rfl rfl (own_wr rfl rfl) (hb hby d385)
  obtain ⟨rfl, N9q, e9⟩ := hQ9
  have N9 := Fr.app N2 N9q
  refine ⟨T9, _, some (.int (i_5 &&& (255 : Int32))), X9, (fun h => by cases h <;> rfl), ?_, fun fs hr => ?_⟩
  · show Q_r49_charAt Z o0 i_1 o_3 i_5 i_6 i_7 k_o_3 u_8 h0 n0 _ T9.heap _
    rw [e9]
    exact ⟨rfl, N9, rfl⟩
  · rw [← (show (nar .char (i_5 &&& (255 : Int32))) = (i_5 &&& (255 : Int32)) from (i2c_mask _))] at hr
    refine t_aloadN 1 X0.here hx (hb hby d379) rfl rfl rfl ?_
    refine st2 _ ?_
    refine t_ifNo 7 X2.here hx (hb hby d381) (by decide) rfl ?_
    refine t_aloadN 8 X2.here hx (hb hby d382) rfl rfl rfl ?_
    refine st4 _ ?_
    refine t_iloadN 12 X4.here hx (hb hby d384) rfl rfl ?_
    refine st9 _ ?_
    exact retN X9 hx (t := .char) hret (by simp) (hb hby d397) hr
theorem d416 : decode b33_ 33 = .ok (.aload_n 0, 1) := by decide +kernel
theorem d417 : decode b33_ 34 = .ok (.iconst 1, 1) := by decide +kernel
theorem d418 : decode b33_ 35 = .ok (.invokevirtual 13, 3) := by decide +kernel
def Q_r52_charAt (Z : State) (o0 : Addr) (i_1 i_2 i_3 : Int32) (k_o0 : ClassId) (u_4 : Value) (h0 : Heap) (n0 : Nat) (v : Option Value) (h : Heap) (L : List Loc) : Prop := v = some (.int (i_2 &&& (255 : Int32))) ∧ Fr n0 L ∧ h = h0
theorem ef_r52_charAt (o0 : Addr) (m : MethodId) : entryFrame m #[(.ref o0), (.int 1)] 2 = mkF m 0 #[.val (.ref o0), .val (.int 1)] [] := by first | (simp [entryFrame, mkF, argsToLocals, Value.category]; done) | rfl
set_option maxRecDepth 65536 in
set_option maxHeartbeats 40000000 in
theorem r52_charAt (l : Launch) (Z : State) (a0 : Array Value) (hw : HW Z a0) (ws : List Jvm.Cond) (o0 : Addr) (i_1 i_2 i_3 : Int32) (k_o0 : ClassId) (u_4 : Value) (h0 : Heap) (n0 : Nat) (Z0 : n0 ≤ h0.size) (V_o0 : Arv Z h0 o0 k_o0 .byte 3 [(.int i_1), (.int i_2), (.int i_3)] z0) (S_SIOOBE_FORMATTER : Sta Z Z.heap "jdk/internal/util/Preconditions" "SIOOBE_FORMATTER" "Ljava/util/function/BiFunction;" u_4) (hp0 : u_4.isRef = true) (O0 : Old Z n0 h0) :
    MF l Z y33_charAt b35_ 2 (some .char) ws ⟨2, 0, 0, 27⟩ #[(.ref o0), (.int 1)] h0 (Q_r52_charAt Z o0 i_1 i_2 i_3 k_o0 u_4 h0 n0) := by
  refine own_body (plainFor_of_name pn_StringLatin1120) (ef_r52_charAt o0) (by decide) (by decide) ?_
  intro p e s m below meth c s₁ hx hby hml hown hnm hret hZ hh e0 X0
  have N0 := Fr.nil n0
  obtain ⟨_, T5, L5, X5, hQ5, st5⟩ := own_static X0 hx hZ hown (w166 hw) (w167 hw) (w7 hw) (w168 hw) (by decide) (r_checkIndex l Z a0 hw [] (1 : Int32) (3 : Int32) u_4 h0 n0 Z0 hp0 S_SIOOBE_FORMATTER O0 (by decide) (by decide)) e0 (W := 0) (by decide) (g := (mkF m 3 #[vr o0, vi 1] [(.int 3), (.int 1)])) rfl (by rw [hml]; rfl) (argsL := [(.int 1), (.int 3)]) (rest := []) (lenOf pd_16 rfl) rfl rfl (own_wr rfl rfl) (hb hby d389)
  obtain ⟨rfl, N5q, e5⟩ := hQ5
  have N5 := Fr.app N0 N5q
  refine ⟨T5, _, some (.int (i_2 &&& (255 : Int32))), X5, (fun h => by cases h <;> rfl), ?_, fun fs hr => ?_⟩
  · show Q_r52_charAt Z o0 i_1 i_2 i_3 k_o0 u_4 h0 n0 _ T5.heap _
    rw [e5]
    exact ⟨rfl, N5, rfl⟩
  · rw [← (show (nar .char (i_2 &&& (255 : Int32))) = (i_2 &&& (255 : Int32)) from (i2c_mask _))] at hr
    refine t_iloadN 1 X0.here hx (hb hby d386) rfl rfl ?_
    refine t_aloadN 2 X0.here hx (hb hby d387) rfl rfl rfl ?_
    refine own_arlen (pc' := 3) X0 hx hZ e0 V_o0 (hb hby d388) rfl ?_
    refine st5 _ ?_
    refine t_aloadN 7 X5.here hx (hb hby d390) rfl rfl rfl ?_
    refine t_iloadN 8 X5.here hx (hb hby d391) rfl rfl ?_
    refine own_aldB (pc' := 9) X5 hx hZ e5 V_o0 (j := 1) (v := (.int i_2)) (by decide) rfl (hb hby d392) rfl ?_
    refine t_sipush 12 (r := 255) X5.here hx (hb hby d393) (by decide) rfl ?_
    refine t_iand 13 X5.here hx (hb hby d394) rfl rfl ?_
    refine t_i2c 14 (r := (i_2 &&& (255 : Int32))) X5.here hx (hb hby d395) (i2c_mask _) rfl ?_
    exact retN X5 hx (t := .char) hret (by simp) (hb hby d396) hr
def Q_r51_charAt (Z : State) (o0 : Addr) (i_1 : Int32) (o_3 : Addr) (i_5 i_6 i_7 : Int32) (k_o_3 : ClassId) (u_8 : Value) (h0 : Heap) (n0 : Nat) (v : Option Value) (h : Heap) (L : List Loc) : Prop := v = some (.int (i_6 &&& (255 : Int32))) ∧ Fr n0 L ∧ h = h0
theorem ef_r51_charAt (o0 : Addr) (m : MethodId) : entryFrame m #[(.ref o0), (.int 1)] 2 = mkF m 0 #[.val (.ref o0), .val (.int 1)] [] := by first | (simp [entryFrame, mkF, argsToLocals, Value.category]; done) | rfl
set_option maxRecDepth 65536 in
set_option maxHeartbeats 40000000 in
theorem r51_charAt (l : Launch) (Z : State) (a0 : Array Value) (hw : HW Z a0) (ws : List Jvm.Cond) (o0 : Addr) (i_1 : Int32) (o_3 : Addr) (i_5 i_6 i_7 : Int32) (k_o_3 : ClassId) (u_8 : Value) (h0 : Heap) (n0 : Nat) (Z0 : n0 ≤ h0.size) (E_o0 : Ex0 Z h0 o0) (S_COMPACT_STRINGS : SCS Z i_1) (F_o0_coder : Fd0 Z h0 o0 z0) (O0 : Old Z n0 h0) (hp0 : ¬ (i_1 = (0 : Int32))) (F_o0_value : Fd1 Z h0 o0 (.ref o_3)) (V_o_3 : Arv Z h0 o_3 k_o_3 .byte 3 [(.int i_5), (.int i_6), (.int i_7)] z0) (S_SIOOBE_FORMATTER : Sta Z Z.heap "jdk/internal/util/Preconditions" "SIOOBE_FORMATTER" "Ljava/util/function/BiFunction;" u_8) (hp1 : u_8.isRef = true) :
    MF l Z y34_charAt b34_ 2 (some .char) ws ⟨3, 0, 0, 40⟩ #[(.ref o0), (.int 1)] h0 (Q_r51_charAt Z o0 i_1 o_3 i_5 i_6 i_7 k_o_3 u_8 h0 n0) := by
  refine own_body (plainFor_of_name pn_String564) (ef_r51_charAt o0) (by decide) (by decide) ?_
  intro p e s m below meth c s₁ hx hby hml hown hnm hret hZ hh e0 X0
  have N0 := Fr.nil n0
  obtain ⟨_, T2, L2, X2, hQ2, st2⟩ := own_virtual X0 hx hZ hown (w48 hw) (w49 hw) (notFace_of_selects (args := #[]) (mvT hZ (w51 hw))) (w51 hw) (w50 hw) (w7 hw) (w52 hw) (by decide) (r9_isLatin1 l Z a0 hw [] o0 i_1 h0 n0 Z0 S_COMPACT_STRINGS O0 hp0 F_o0_coder) e0 E_o0 (W := 0) (by decide) (g := (mkF m 1 #[vr o0, vi 1] [(.ref o0)])) rfl (by rw [hml]; rfl) (argsL := []) (rest := []) (lenOf pd_8 rfl) rfl rfl (own_wr rfl rfl) (hb hby d380)
  obtain ⟨rfl, N2q, e2⟩ := hQ2
  have N2 := Fr.app N0 N2q
  obtain ⟨T4, X4, e4, st4⟩ := getF X2 hx hZ hown (host := "") (Or.inl (w32 hw)) Via.refl e2 F_o0_value (g := (mkF m 8 #[vr o0, vi 1] [(.ref o0)])) rfl rfl (hb hby d383)
  obtain ⟨_, T9, L9, X9, hQ9, st9⟩ := own_static X4 hx hZ hown (w163 hw) (w164 hw) (w65 hw) (w165 hw) (by decide) (r52_charAt l Z a0 hw [] o_3 i_5 i_6 i_7 k_o_3 u_8 h0 n0 Z0 V_o_3 S_SIOOBE_FORMATTER hp1 O0) e4 (W := 0) (by decide) (g := (mkF m 12 #[vr o0, vi 1] [(.int 1), (.ref o_3)])) rfl (by rw [hml]; rfl) (argsL := [(.ref o_3), (.int 1)]) (rest := []) (lenOf pd_27 rfl) rfl rfl (own_wr rfl rfl) (hb hby d385)
  obtain ⟨rfl, N9q, e9⟩ := hQ9
  have N9 := Fr.app N2 N9q
  refine ⟨T9, _, some (.int (i_6 &&& (255 : Int32))), X9, (fun h => by cases h <;> rfl), ?_, fun fs hr => ?_⟩
  · show Q_r51_charAt Z o0 i_1 o_3 i_5 i_6 i_7 k_o_3 u_8 h0 n0 _ T9.heap _
    rw [e9]
    exact ⟨rfl, N9, rfl⟩
  · rw [← (show (nar .char (i_6 &&& (255 : Int32))) = (i_6 &&& (255 : Int32)) from (i2c_mask _))] at hr
    refine t_aloadN 1 X0.here hx (hb hby d379) rfl rfl rfl ?_
    refine st2 _ ?_
    refine t_ifNo 7 X2.here hx (hb hby d381) (by decide) rfl ?_
    refine t_aloadN 8 X2.here hx (hb hby d382) rfl rfl rfl ?_
    refine st4 _ ?_
    refine t_iloadN 12 X4.here hx (hb hby d384) rfl rfl ?_
    refine st9 _ ?_
    exact retN X9 hx (t := .char) hret (by simp) (hb hby d397) hr
theorem d419 : decode b33_ 38 = .ok (.aload_n 1, 1) := by decide +kernel
theorem d420 : decode b33_ 39 = .ok (.iload_n 2, 1) := by decide +kernel
theorem d421 : decode b33_ 40 = .ok (.iconst 1, 1) := by decide +kernel
theorem d422 : decode b33_ 41 = .ok (.iadd, 1) := by decide +kernel
theorem d423 : decode b33_ 42 = .ok (.caload, 1) := by decide +kernel
theorem d424 : decode b33_ 43 = .ok (.if_icmp .eq 5, 3) := by decide +kernel
theorem d425 : decode b33_ 53 = .ok (.aload_n 0, 1) := by decide +kernel
theorem d426 : decode b33_ 54 = .ok (.iconst 2, 1) := by decide +kernel
theorem d427 : decode b33_ 55 = .ok (.invokevirtual 13, 3) := by decide +kernel
def Q_r54_charAt (Z : State) (o0 : Addr) (i_1 i_2 i_3 : Int32) (k_o0 : ClassId) (u_4 : Value) (h0 : Heap) (n0 : Nat) (v : Option Value) (h : Heap) (L : List Loc) : Prop := v = some (.int (i_3 &&& (255 : Int32))) ∧ Fr n0 L ∧ h = h0
theorem ef_r54_charAt (o0 : Addr) (m : MethodId) : entryFrame m #[(.ref o0), (.int 2)] 2 = mkF m 0 #[.val (.ref o0), .val (.int 2)] [] := by first | (simp [entryFrame, mkF, argsToLocals, Value.category]; done) | rfl
set_option maxRecDepth 65536 in
set_option maxHeartbeats 40000000 in
theorem r54_charAt (l : Launch) (Z : State) (a0 : Array Value) (hw : HW Z a0) (ws : List Jvm.Cond) (o0 : Addr) (i_1 i_2 i_3 : Int32) (k_o0 : ClassId) (u_4 : Value) (h0 : Heap) (n0 : Nat) (Z0 : n0 ≤ h0.size) (V_o0 : Arv Z h0 o0 k_o0 .byte 3 [(.int i_1), (.int i_2), (.int i_3)] z0) (S_SIOOBE_FORMATTER : Sta Z Z.heap "jdk/internal/util/Preconditions" "SIOOBE_FORMATTER" "Ljava/util/function/BiFunction;" u_4) (hp0 : u_4.isRef = true) (O0 : Old Z n0 h0) :
    MF l Z y33_charAt b35_ 2 (some .char) ws ⟨2, 0, 0, 27⟩ #[(.ref o0), (.int 2)] h0 (Q_r54_charAt Z o0 i_1 i_2 i_3 k_o0 u_4 h0 n0) := by
  refine own_body (plainFor_of_name pn_StringLatin1120) (ef_r54_charAt o0) (by decide) (by decide) ?_
  intro p e s m below meth c s₁ hx hby hml hown hnm hret hZ hh e0 X0
  have N0 := Fr.nil n0
  obtain ⟨_, T5, L5, X5, hQ5, st5⟩ := own_static X0 hx hZ hown (w166 hw) (w167 hw) (w7 hw) (w168 hw) (by decide) (r_checkIndex l Z a0 hw [] (2 : Int32) (3 : Int32) u_4 h0 n0 Z0 hp0 S_SIOOBE_FORMATTER O0 (by decide) (by decide)) e0 (W := 0) (by decide) (g := (mkF m 3 #[vr o0, vi 2] [(.int 3), (.int 2)])) rfl (by rw [hml]; rfl) (argsL := [(.int 2), (.int 3)]) (rest := []) (lenOf pd_16 rfl) rfl rfl (own_wr rfl rfl) (hb hby d389)
  obtain ⟨rfl, N5q, e5⟩ := hQ5
  have N5 := Fr.app N0 N5q
  refine ⟨T5, _, some (.int (i_3 &&& (255 : Int32))), X5, (fun h => by cases h <;> rfl), ?_, fun fs hr => ?_⟩
  · show Q_r54_charAt Z o0 i_1 i_2 i_3 k_o0 u_4 h0 n0 _ T5.heap _
    rw [e5]
    exact ⟨rfl, N5, rfl⟩
  · rw [← (show (nar .char (i_3 &&& (255 : Int32))) = (i_3 &&& (255 : Int32)) from (i2c_mask _))] at hr
    refine t_iloadN 1 X0.here hx (hb hby d386) rfl rfl ?_
    refine t_aloadN 2 X0.here hx (hb hby d387) rfl rfl rfl ?_
    refine own_arlen (pc' := 3) X0 hx hZ e0 V_o0 (hb hby d388) rfl ?_
    refine st5 _ ?_
    refine t_aloadN 7 X5.here hx (hb hby d390) rfl rfl rfl ?_
    refine t_iloadN 8 X5.here hx (hb hby d391) rfl rfl ?_
    refine own_aldB (pc' := 9) X5 hx hZ e5 V_o0 (j := 2) (v := (.int i_3)) (by decide) rfl (hb hby d392) rfl ?_
    refine t_sipush 12 (r := 255) X5.here hx (hb hby d393) (by decide) rfl ?_
    refine t_iand 13 X5.here hx (hb hby d394) rfl rfl ?_
    refine t_i2c 14 (r := (i_3 &&& (255 : Int32))) X5.here hx (hb hby d395) (i2c_mask _) rfl ?_
    exact retN X5 hx (t := .char) hret (by simp) (hb hby d396) hr
def Q_r53_charAt (Z : State) (o0 : Addr) (i_1 : Int32) (o_3 : Addr) (i_5 i_6 i_7 : Int32) (k_o_3 : ClassId) (u_8 : Value) (h0 : Heap) (n0 : Nat) (v : Option Value) (h : Heap) (L : List Loc) : Prop := v = some (.int (i_7 &&& (255 : Int32))) ∧ Fr n0 L ∧ h = h0
theorem ef_r53_charAt (o0 : Addr) (m : MethodId) : entryFrame m #[(.ref o0), (.int 2)] 2 = mkF m 0 #[.val (.ref o0), .val (.int 2)] [] := by first | (simp [entryFrame, mkF, argsToLocals, Value.category]; done) | rfl
set_option maxRecDepth 65536 in
set_option maxHeartbeats 40000000 in
theorem r53_charAt (l : Launch) (Z : State) (a0 : Array Value) (hw : HW Z a0) (ws : List Jvm.Cond) (o0 : Addr) (i_1 : Int32) (o_3 : Addr) (i_5 i_6 i_7 : Int32) (k_o_3 : ClassId) (u_8 : Value) (h0 : Heap) (n0 : Nat) (Z0 : n0 ≤ h0.size) (E_o0 : Ex0 Z h0 o0) (S_COMPACT_STRINGS : SCS Z i_1) (F_o0_coder : Fd0 Z h0 o0 z0) (O0 : Old Z n0 h0) (hp0 : ¬ (i_1 = (0 : Int32))) (F_o0_value : Fd1 Z h0 o0 (.ref o_3)) (V_o_3 : Arv Z h0 o_3 k_o_3 .byte 3 [(.int i_5), (.int i_6), (.int i_7)] z0) (S_SIOOBE_FORMATTER : Sta Z Z.heap "jdk/internal/util/Preconditions" "SIOOBE_FORMATTER" "Ljava/util/function/BiFunction;" u_8) (hp1 : u_8.isRef = true) :
    MF l Z y34_charAt b34_ 2 (some .char) ws ⟨3, 0, 0, 40⟩ #[(.ref o0), (.int 2)] h0 (Q_r53_charAt Z o0 i_1 o_3 i_5 i_6 i_7 k_o_3 u_8 h0 n0) := by
  refine own_body (plainFor_of_name pn_String564) (ef_r53_charAt o0) (by decide) (by decide) ?_
  intro p e s m below meth c s₁ hx hby hml hown hnm hret hZ hh e0 X0
  have N0 := Fr.nil n0
  obtain ⟨_, T2, L2, X2, hQ2, st2⟩ := own_virtual X0 hx hZ hown (w48 hw) (w49 hw) (notFace_of_selects (args := #[]) (mvT hZ (w51 hw))) (w51 hw) (w50 hw) (w7 hw) (w52 hw) (by decide) (r9_isLatin1 l Z a0 hw [] o0 i_1 h0 n0 Z0 S_COMPACT_STRINGS O0 hp0 F_o0_coder) e0 E_o0 (W := 0) (by decide) (g := (mkF m 1 #[vr o0, vi 2] [(.ref o0)])) rfl (by rw [hml]; rfl) (argsL := []) (rest := []) (lenOf pd_8 rfl) rfl rfl (own_wr rfl rfl) (hb hby d380)
  obtain ⟨rfl, N2q, e2⟩ := hQ2
  have N2 := Fr.app N0 N2q
  obtain ⟨T4, X4, e4, st4⟩ := getF X2 hx hZ hown (host := "") (Or.inl (w32 hw)) Via.refl e2 F_o0_value (g := (mkF m 8 #[vr o0, vi 2] [(.ref o0)])) rfl rfl (hb hby d383)
  obtain ⟨_, T9, L9, X9, hQ9, st9⟩ := own_static X4 hx hZ hown (w163 hw) (w164 hw) (w65 hw) (w165 hw) (by decide) (r54_charAt l Z a0 hw [] o_3 i_5 i_6 i_7 k_o_3 u_8 h0 n0 Z0 V_o_3 S_SIOOBE_FORMATTER hp1 O0) e4 (W := 0) (by decide) (g := (mkF m 12 #[vr o0, vi 2] [(.int 2), (.ref o_3)])) rfl (by rw [hml]; rfl) (argsL := [(.ref o_3), (.int 2)]) (rest := []) (lenOf pd_27 rfl) rfl rfl (own_wr rfl rfl) (hb hby d385)
  obtain ⟨rfl, N9q, e9⟩ := hQ9
  have N9 := Fr.app N2 N9q
  refine ⟨T9, _, some (.int (i_7 &&& (255 : Int32))), X9, (fun h => by cases h <;> rfl), ?_, fun fs hr => ?_⟩
  · show Q_r53_charAt Z o0 i_1 o_3 i_5 i_6 i_7 k_o_3 u_8 h0 n0 _ T9.heap _
    rw [e9]
    exact ⟨rfl, N9, rfl⟩
  · rw [← (show (nar .char (i_7 &&& (255 : Int32))) = (i_7 &&& (255 : Int32)) from (i2c_mask _))] at hr
    refine t_aloadN 1 X0.here hx (hb hby d379) rfl rfl rfl ?_
    refine st2 _ ?_
    refine t_ifNo 7 X2.here hx (hb hby d381) (by decide) rfl ?_
    refine t_aloadN 8 X2.here hx (hb hby d382) rfl rfl rfl ?_
    refine st4 _ ?_
    refine t_iloadN 12 X4.here hx (hb hby d384) rfl rfl ?_
    refine st9 _ ?_
    exact retN X9 hx (t := .char) hret (by simp) (hb hby d397) hr
theorem d428 : decode b33_ 58 = .ok (.aload_n 1, 1) := by decide +kernel
theorem d429 : decode b33_ 59 = .ok (.iload_n 2, 1) := by decide +kernel
theorem d430 : decode b33_ 60 = .ok (.iconst 2, 1) := by decide +kernel
theorem d431 : decode b33_ 61 = .ok (.iadd, 1) := by decide +kernel
theorem d432 : decode b33_ 62 = .ok (.caload, 1) := by decide +kernel
theorem d433 : decode b33_ 63 = .ok (.if_icmp .eq 5, 3) := by decide +kernel
def Q_r47_same (Z : State) (o0 o1 o_1 : Addr) (i_2 i_3 i_4 : Int32) (k_o_1 : ClassId) (i_5 : Int32) (u_7 : Value) (i_9 i_10 i_11 i_12 i_13 : Int32) (k_o1 : ClassId) (h0 : Heap) (n0 : Nat) (v : Option Value) (h : Heap) (L : List Loc) : Prop := v = some (.int 1) ∧ Fr n0 L ∧ h = h0
theorem ef_r47_same (o0 o1 : Addr) (m : MethodId) : entryFrame m #[(.ref o0), (.ref o1), (.int 2), (.int 3)] 4 = mkF m 0 #[.val (.ref o0), .val (.ref o1), .val (.int 2), .val (.int 3)] [] := by first | (simp [entryFrame, mkF, argsToLocals, Value.category]; done) | rfl
set_option maxRecDepth 65536 in
set_option maxHeartbeats 40000000 in
theorem r47_same (l : Launch) (Z : State) (a0 : Array Value) (hw : HW Z a0) (ws : List Jvm.Cond) (o0 o1 o_1 : Addr) (i_2 i_3 i_4 : Int32) (k_o_1 : ClassId) (i_5 : Int32) (u_7 : Value) (i_9 i_10 i_11 i_12 i_13 : Int32) (k_o1 : ClassId) (h0 : Heap) (n0 : Nat) (Z0 : n0 ≤ h0.size) (E_o0 : Ex0 Z h0 o0) (F_o0_value : Fd1 Z h0 o0 (.ref o_1)) (V_o_1 : Arv Z h0 o_1 k_o_1 .byte 3 [(.int i_2), (.int i_3), (.int i_4)] z0) (S_COMPACT_STRINGS : SCS Z i_5) (F_o0_coder : Fd0 Z h0 o0 z0) (O0 : Old Z n0 h0) (hp0 : ¬ (i_5 = (0 : Int32))) (S_SIOOBE_FORMATTER : Sta Z Z.heap "jdk/internal/util/Preconditions" "SIOOBE_FORMATTER" "Ljava/util/function/BiFunction;" u_7) (hp1 : u_7.isRef = true) (V_o1 : Arv Z h0 o1 k_o1 .char 5 [(.int i_9), (.int i_10), (.int i_11), (.int i_12), (.int i_13)] z0) (hp2 : (i_2 &&& (255 : Int32)) = i_11) (hp3 : (i_3 &&& (255 : Int32)) = i_12) (hp4 : (i_4 &&& (255 : Int32)) = i_13) :
    MF l Z y35_same b33_ 4 (some .boolean) ws ⟨4, 0, 0, 53⟩ #[(.ref o0), (.ref o1), (.int 2), (.int 3)] h0 (Q_r47_same Z o0 o1 o_1 i_2 i_3 i_4 k_o_1 i_5 u_7 i_9 i_10 i_11 i_12 i_13 k_o1 h0 n0) := by
  refine own_body (plainFor_of_name pn_IdentifierParsePinLaw141) (ef_r47_same o0 o1) (by decide) (by decide) ?_
  intro p e s m below meth c s₁ hx hby hml hown hnm hret hZ hh e0 X0
  have N0 := Fr.nil n0
  obtain ⟨_, T6, L6, X6, hQ6, st6⟩ := own_virtual X0 hx hZ hown (w157 hw) (w54 hw) (notFace_of_selects (args := #[]) (mvT hZ (w56 hw))) (w56 hw) (w55 hw) (w7 hw) (w57 hw) (by decide) (r48_length l Z a0 hw [] o0 o_1 i_2 i_3 i_4 k_o_1 i_5 h0 n0 Z0 F_o0_value V_o_1 E_o0 S_COMPACT_STRINGS F_o0_coder O0 hp0) e0 E_o0 (W := 0) (by decide) (g := (mkF m 1 #[vr o0, vr o1, vi 2, vi 3] [(.ref o0)])) rfl (by rw [hml]; rfl) (argsL := []) (rest := []) (lenOf pd_10 rfl) rfl rfl (own_wr rfl rfl) (hb hby d370)
  obtain ⟨rfl, N6q, e6⟩ := hQ6
  have N6 := Fr.app N0 N6q
  obtain ⟨_, T8, L8, X8, hQ8, st8⟩ := own_virtual X6 hx hZ hown (w158 hw) (w159 hw) (notFace_of_selects (args := #[]) (mvT hZ (w161 hw))) (w161 hw) (w160 hw) (w7 hw) (w162 hw) (by decide) (r49_charAt l Z a0 hw [] o0 i_5 o_1 i_2 i_3 i_4 k_o_1 u_7 h0 n0 Z0 E_o0 S_COMPACT_STRINGS F_o0_coder O0 hp0 F_o0_value V_o_1 S_SIOOBE_FORMATTER hp1) e6 E_o0 (W := 0) (by decide) (g := (mkF m 17 #[vr o0, vr o1, vi 2, vi 3] [z0, (.ref o0)])) rfl (by rw [hml]; rfl) (argsL := [z0]) (rest := []) (lenOf pd_2 rfl) rfl rfl (own_wr rfl rfl) (hb hby d378)
  obtain ⟨rfl, N8q, e8⟩ := hQ8
  have N8 := Fr.app N6 N8q
  obtain ⟨_, T14, L14, X14, hQ14, st14⟩ := own_virtual X8 hx hZ hown (w158 hw) (w159 hw) (notFace_of_selects (args := #[]) (mvT hZ (w161 hw))) (w161 hw) (w160 hw) (w7 hw) (w162 hw) (by decide) (r51_charAt l Z a0 hw [] o0 i_5 o_1 i_2 i_3 i_4 k_o_1 u_7 h0 n0 Z0 E_o0 S_COMPACT_STRINGS F_o0_coder O0 hp0 F_o0_value V_o_1 S_SIOOBE_FORMATTER hp1) e8 E_o0 (W := 0) (by decide) (g := (mkF m 35 #[vr o0, vr o1, vi 2, vi 3] [(.int 1), (.ref o0)])) rfl (by rw [hml]; rfl) (argsL := [(.int 1)]) (rest := []) (lenOf pd_2 rfl) rfl rfl (own_wr rfl rfl) (hb hby d418)
  obtain ⟨rfl, N14q, e14⟩ := hQ14
  have N14 := Fr.app N8 N14q
  obtain ⟨_, T15, L15, X15, hQ15, st15⟩ := own_virtual X14 hx hZ hown (w158 hw) (w159 hw) (notFace_of_selects (args := #[]) (mvT hZ (w161 hw))) (w161 hw) (w160 hw) (w7 hw) (w162 hw) (by decide) (r53_charAt l Z a0 hw [] o0 i_5 o_1 i_2 i_3 i_4 k_o_1 u_7 h0 n0 Z0 E_o0 S_COMPACT_STRINGS F_o0_coder O0 hp0 F_o0_value V_o_1 S_SIOOBE_FORMATTER hp1) e14 E_o0 (W := 0) (by decide) (g := (mkF m 55 #[vr o0, vr o1, vi 2, vi 3] [(.int 2), (.ref o0)])) rfl (by rw [hml]; rfl) (argsL := [(.int 2)]) (rest := []) (lenOf pd_2 rfl) rfl rfl (own_wr rfl rfl) (hb hby d427)
  obtain ⟨rfl, N15q, e15⟩ := hQ15
  have N15 := Fr.app N14 N15q
  refine ⟨T15, _, some (.int 1), X15, (fun h => by cases h <;> rfl), ?_, fun fs hr => ?_⟩
  · show Q_r47_same Z o0 o1 o_1 i_2 i_3 i_4 k_o_1 i_5 u_7 i_9 i_10 i_11 i_12 i_13 k_o1 h0 n0 _ T15.heap _
    rw [e15]
    exact ⟨rfl, N15, rfl⟩
  · refine t_aloadN 1 X0.here hx (hb hby d369) rfl rfl rfl ?_
    refine st6 _ ?_
    refine t_iloadN 5 X6.here hx (hb hby d371) rfl rfl ?_
    refine t_icmpYes (pc := 5) 10 X6.here hx (hb hby d372) (by decide) (by decide) (by decide) ?_
    refine t_iloadN 11 X6.here hx (hb hby d373) rfl rfl ?_
    refine t_iconst 12 (r := 1) X6.here hx (hb hby d374) (by decide) rfl ?_
    refine t_icmpNo 15 X6.here hx (hb hby d375) (by decide) rfl ?_
    refine t_aloadN 16 X6.here hx (hb hby d376) rfl rfl rfl ?_
    refine t_iconst 17 (r := 0) X6.here hx (hb hby d377) (by decide) rfl ?_
    refine st8 _ ?_
    refine t_aloadN 21 X8.here hx (hb hby d398) rfl rfl rfl ?_
    refine t_iloadN 22 X8.here hx (hb hby d399) rfl rfl ?_
    refine own_aldC (pc' := 23) X8 hx hZ e8 V_o1 (j := 2) (v := (.int i_11)) (by decide) rfl (hb hby d400) rfl ?_
    refine t_icmpYes (pc := 23) 28 X8.here hx (hb hby d401) (teq hp2).1 (by decide) (by decide) ?_
    refine t_iloadN 29 X8.here hx (hb hby d402) rfl rfl ?_
    refine t_iconst 30 (r := 2) X8.here hx (hb hby d403) (by decide) rfl ?_
    refine t_icmpNo 33 X8.here hx (hb hby d404) (by decide) rfl ?_
    refine t_aloadN 34 X8.here hx (hb hby d416) rfl rfl rfl ?_
    refine t_iconst 35 (r := 1) X8.here hx (hb hby d417) (by decide) rfl ?_
    refine st14 _ ?_
    refine t_aloadN 39 X14.here hx (hb hby d419) rfl rfl rfl ?_
    refine t_iloadN 40 X14.here hx (hb hby d420) rfl rfl ?_
    refine t_iconst 41 (r := 1) X14.here hx (hb hby d421) (by decide) rfl ?_
    refine t_iadd 42 (r := 3) X14.here hx (hb hby d422) (by decide : ((2 : Int32) + (1 : Int32)) = (3 : Int32)) rfl ?_
    refine own_aldC (pc' := 43) X14 hx hZ e14 V_o1 (j := 3) (v := (.int i_12)) (by decide) rfl (hb hby d423) rfl ?_
    refine t_icmpYes (pc := 43) 48 X14.here hx (hb hby d424) (teq hp3).1 (by decide) (by decide) ?_
    refine t_iloadN 49 X14.here hx (hb hby d405) rfl rfl ?_
    refine t_iconst 50 (r := 3) X14.here hx (hb hby d406) (by decide) rfl ?_
    refine t_icmpNo 53 X14.here hx (hb hby d407) (by decide) rfl ?_
    refine t_aloadN 54 X14.here hx (hb hby d425) rfl rfl rfl ?_
    refine t_iconst 55 (r := 2) X14.here hx (hb hby d426) (by decide) rfl ?_
    refine st15 _ ?_
    refine t_aloadN 59 X15.here hx (hb hby d428) rfl rfl rfl ?_
    refine t_iloadN 60 X15.here hx (hb hby d429) rfl rfl ?_
    refine t_iconst 61 (r := 2) X15.here hx (hb hby d430) (by decide) rfl ?_
    refine t_iadd 62 (r := 4) X15.here hx (hb hby d431) (by decide : ((2 : Int32) + (2 : Int32)) = (4 : Int32)) rfl ?_
    refine own_aldC (pc' := 63) X15 hx hZ e15 V_o1 (j := 4) (v := (.int i_13)) (by decide) rfl (hb hby d432) rfl ?_
    refine t_icmpYes (pc := 63) 68 X15.here hx (hb hby d433) (teq hp4).1 (by decide) (by decide) ?_
    refine t_iloadN 69 X15.here hx (hb hby d408) rfl rfl ?_
    refine t_iconst 70 (r := 4) X15.here hx (hb hby d409) (by decide) rfl ?_
    refine t_icmpYes (pc := 70) 88 X15.here hx (hb hby d410) (by decide) (by decide) (by decide) ?_
    refine t_iconst 89 (r := 1) X15.here hx (hb hby d411) (by decide) rfl ?_
    exact retN X15 hx (t := .boolean) hret (by simp) (hb hby d412) hr
theorem ef_law_1 (p0 p1 p2 p3 p4 : Int32) (m : MethodId) : entryFrame m #[(.int p0), (.int p1), (.int p2), (.int p3), (.int p4)] maxLocals = mkF m 0 #[.val (.int p0), .val (.int p1), .val (.int p2), .val (.int p3), .val (.int p4), .unset, .unset, .unset] [] := by first | (simp [entryFrame, mkF, argsToLocals, Value.category, maxLocals]; done) | rfl
set_option maxRecDepth 65536 in
set_option maxHeartbeats 40000000 in
theorem law_1 (l : Launch) (Z : State) (a0 : Array Value) (hw : HW Z a0) (ws : List Jvm.Cond) (p0 p1 p2 p3 p4 cs : Int32) (fm : Value) (h0 : Heap) (n0 : Nat) (Z0 : n0 ≤ h0.size) (hn0 : ¬ ((p0 &&& (255 : Int32)) = (58 : Int32))) (he1 : (own_pick p1) = (58 : Int32)) (hcs : ¬ (cs = (0 : Int32))) (hfm : fm.isRef = true) (S_COMPACT_STRINGS : SCS Z cs) (O0 : Old Z n0 h0) (S_SIOOBE_FORMATTER : Sta Z Z.heap "jdk/internal/util/Preconditions" "SIOOBE_FORMATTER" "Ljava/util/function/BiFunction;" fm) :
    MetFree l x (head1 (Jvm.Cond.code x code maxLocals ret :: ws) room_1) (fun a U => a = #[(.int p0), (.int p1), (.int p2), (.int p3), (.int p4)] ∧ Z.Warmed39 U.vm ∧ U.heap = h0) (fun _ _ _ _ _ => True) (fun _ U o U' => ∃ v L, o = .returned v ∧ Q_law n0 v L ∧ ReturnedEndW U o U' L 32 2176) := by
  refine own_bodyS (k := 12) (n := 68) (y := x) (Q := fun v _ L => Q_law n0 v L) (plainFor_of_name pn_IdentifierParsePinLaw141) (ef_law_1 p0 p1 p2 p3 p4) (by decide) (by decide) ?_
  intro p e s m below meth c s₁ hx hby hml hown hnm hret hZ e0 hS0 hk0 X0
  have N0 := Fr.nil n0
  obtain ⟨T1, h1, k1, X1, e1, E1, A1, st1⟩ := newP (aty := .char) X0 hx hZ (w0 hw) e0 (g := (mkF m 1 #[vi p0, vi p1, vi p2, vi p3, vi p4, .unset, .unset, .unset] [(.int 5)])) rfl (hb hby at_1) rfl (by decide) (cap := 5) (by decide) (by decide) (by decide) (by decide)
  obtain ⟨b1, g1⟩ : ∃ z, z = h0.size := ⟨_, rfl⟩
  rw [← g1] at A1 st1
  have ge_b1 : h0.size ≤ b1 := Nat.le_of_eq g1.symm
  have K1 := KL.ofE E1
  have V1 : Arv Z h1 b1 k1 .char 5 [z0, z0, z0, z0, z0] z0 := (Arv.new A1 (by decide)).pad (pad_rep [] z0 5)
  obtain ⟨T2, h2, X2, e2, W2, V2, st2⟩ := own_astC X1 hx hZ e1 V1 (j := 0) (by decide) 0 rfl (Nat.le_of_ble_eq_true rfl) (g := (mkF m 14 #[vi p0, vi p1, vi p2, vi p3, vi p4, vr b1, .unset, .unset] [(.int (p0 &&& (255 : Int32))), z0, (.ref b1)])) rfl rfl (hb hby at_14)
  rw [show (nar .char (p0 &&& (255 : Int32))) = (p0 &&& (255 : Int32)) from (i2c_mask _)] at V2
  have K2 := KL.ofW W2
  replace V2 : Arv Z h2 b1 k1 .char 5 [(.int (p0 &&& (255 : Int32))), z0, z0, z0, z0] z0 := V2
  have N2 := Fr.snoc X2 N0 (Nat.le_trans Z0 (Nat.le_trans (Nat.le_refl _) ge_b1))
  have sz_0_2 := (Nat.le_trans K1.1 K2.1)
  obtain ⟨_, T3, L3, X3, hQ3, st3⟩ := own_static X2 hx hZ hown (w1 hw) (w2 hw) (w3 hw) (w4 hw) (by decide) (r_pick l Z a0 hw [] p1 h2 n0 (Nat.le_trans Z0 sz_0_2)) e2 (W := 2) (by decide) (g := (mkF m 19 #[vi p0, vi p1, vi p2, vi p3, vi p4, vr b1, .unset, .unset] [(.int p1), (.int 1), (.ref b1)])) rfl (by rw [hml]; rfl) (argsL := [(.int p1)]) (rest := [(.int 1), (.ref b1)]) (lenOf pd_2 rfl) rfl rfl (own_wr rfl rfl) (hb hby at_19)
  obtain ⟨rfl, N3q, e3⟩ := hQ3
  have N3 := Fr.app N2 N3q
  obtain ⟨T4, h4, X4, e4, W4, V4, st4⟩ := own_astC X3 hx hZ e3 V2 (j := 1) (by decide) 1 rfl (Nat.le_of_ble_eq_true rfl) (g := (mkF m 22 #[vi p0, vi p1, vi p2, vi p3, vi p4, vr b1, .unset, .unset] [(.int (own_pick p1)), (.int 1), (.ref b1)])) rfl rfl (hb hby at_22)
  rw [show (nar .char (own_pick p1)) = (own_pick p1) from (own_c2c (own_picka p1) (own_pickb p1))] at V4
  have K4 := KL.ofW W4
  replace V4 : Arv Z h4 b1 k1 .char 5 [(.int (p0 &&& (255 : Int32))), (.int (own_pick p1)), z0, z0, z0] z0 := V4
  have N4 := Fr.snoc X4 N3 (Nat.le_trans Z0 (Nat.le_trans (Nat.le_refl _) ge_b1))
  have sz_0_3 := (Nat.le_trans sz_0_2 K4.1)
  obtain ⟨_, T5, L5, X5, hQ5, st5⟩ := own_static X4 hx hZ hown (w1 hw) (w2 hw) (w3 hw) (w4 hw) (by decide) (r_pick l Z a0 hw [] p2 h4 n0 (Nat.le_trans Z0 sz_0_3)) e4 (W := 2) (by decide) (g := (mkF m 27 #[vi p0, vi p1, vi p2, vi p3, vi p4, vr b1, .unset, .unset] [(.int p2), (.int 2), (.ref b1)])) rfl (by rw [hml]; rfl) (argsL := [(.int p2)]) (rest := [(.int 2), (.ref b1)]) (lenOf pd_2 rfl) rfl rfl (own_wr rfl rfl) (hb hby at_27)
  obtain ⟨rfl, N5q, e5⟩ := hQ5
  have N5 := Fr.app N4 N5q
  obtain ⟨T6, h6, X6, e6, W6, V6, st6⟩ := own_astC X5 hx hZ e5 V4 (j := 2) (by decide) 2 rfl (Nat.le_of_ble_eq_true rfl) (g := (mkF m 30 #[vi p0, vi p1, vi p2, vi p3, vi p4, vr b1, .unset, .unset] [(.int (own_pick p2)), (.int 2), (.ref b1)])) rfl rfl (hb hby at_30)
  rw [show (nar .char (own_pick p2)) = (own_pick p2) from (own_c2c (own_picka p2) (own_pickb p2))] at V6
  have K6 := KL.ofW W6
  replace V6 : Arv Z h6 b1 k1 .char 5 [(.int (p0 &&& (255 : Int32))), (.int (own_pick p1)), (.int (own_pick p2)), z0, z0] z0 := V6
  have N6 := Fr.snoc X6 N5 (Nat.le_trans Z0 (Nat.le_trans (Nat.le_refl _) ge_b1))
  have sz_0_4 := (Nat.le_trans sz_0_3 K6.1)
  obtain ⟨_, T7, L7, X7, hQ7, st7⟩ := own_static X6 hx hZ hown (w1 hw) (w2 hw) (w3 hw) (w4 hw) (by decide) (r_pick l Z a0 hw [] p3 h6 n0 (Nat.le_trans Z0 sz_0_4)) e6 (W := 2) (by decide) (g := (mkF m 35 #[vi p0, vi p1, vi p2, vi p3, vi p4, vr b1, .unset, .unset] [(.int p3), (.int 3), (.ref b1)])) rfl (by rw [hml]; rfl) (argsL := [(.int p3)]) (rest := [(.int 3), (.ref b1)]) (lenOf pd_2 rfl) rfl rfl (own_wr rfl rfl) (hb hby at_35)
  obtain ⟨rfl, N7q, e7⟩ := hQ7
  have N7 := Fr.app N6 N7q
  obtain ⟨T8, h8, X8, e8, W8, V8, st8⟩ := own_astC X7 hx hZ e7 V6 (j := 3) (by decide) 3 rfl (Nat.le_of_ble_eq_true rfl) (g := (mkF m 38 #[vi p0, vi p1, vi p2, vi p3, vi p4, vr b1, .unset, .unset] [(.int (own_pick p3)), (.int 3), (.ref b1)])) rfl rfl (hb hby at_38)
  rw [show (nar .char (own_pick p3)) = (own_pick p3) from (own_c2c (own_picka p3) (own_pickb p3))] at V8
  have K8 := KL.ofW W8
  replace V8 : Arv Z h8 b1 k1 .char 5 [(.int (p0 &&& (255 : Int32))), (.int (own_pick p1)), (.int (own_pick p2)), (.int (own_pick p3)), z0] z0 := V8
  have N8 := Fr.snoc X8 N7 (Nat.le_trans Z0 (Nat.le_trans (Nat.le_refl _) ge_b1))
  have sz_0_5 := (Nat.le_trans sz_0_4 K8.1)
  obtain ⟨_, T9, L9, X9, hQ9, st9⟩ := own_static X8 hx hZ hown (w1 hw) (w2 hw) (w3 hw) (w4 hw) (by decide) (r_pick l Z a0 hw [] p4 h8 n0 (Nat.le_trans Z0 sz_0_5)) e8 (W := 2) (by decide) (g := (mkF m 44 #[vi p0, vi p1, vi p2, vi p3, vi p4, vr b1, .unset, .unset] [(.int p4), (.int 4), (.ref b1)])) rfl (by rw [hml]; rfl) (argsL := [(.int p4)]) (rest := [(.int 4), (.ref b1)]) (lenOf pd_2 rfl) rfl rfl (own_wr rfl rfl) (hb hby at_44)
  obtain ⟨rfl, N9q, e9⟩ := hQ9
  have N9 := Fr.app N8 N9q
  obtain ⟨T10, h10, X10, e10, W10, V10, st10⟩ := own_astC X9 hx hZ e9 V8 (j := 4) (by decide) 4 rfl (Nat.le_of_ble_eq_true rfl) (g := (mkF m 47 #[vi p0, vi p1, vi p2, vi p3, vi p4, vr b1, .unset, .unset] [(.int (own_pick p4)), (.int 4), (.ref b1)])) rfl rfl (hb hby at_47)
  rw [show (nar .char (own_pick p4)) = (own_pick p4) from (own_c2c (own_picka p4) (own_pickb p4))] at V10
  have K10 := KL.ofW W10
  replace V10 : Arv Z h10 b1 k1 .char 5 [(.int (p0 &&& (255 : Int32))), (.int (own_pick p1)), (.int (own_pick p2)), (.int (own_pick p3)), (.int (own_pick p4))] z0 := V10
  have N10 := Fr.snoc X10 N9 (Nat.le_trans Z0 (Nat.le_trans (Nat.le_refl _) ge_b1))
  obtain ⟨T11, h11, X11, e11, E11, A11, D11, -, st11⟩ := newO X10 hx hZ hown (w5 hw) (w6 hw) (w7 hw) e10 (g := (mkF m 136 #[vi p0, vi p1, vi p2, vi p3, vi p4, vr b1, vi 1, .unset] [])) rfl (hb hby at_136) (by decide) (by decide)
  obtain ⟨b11, g11⟩ : ∃ z, z = h10.size := ⟨_, rfl⟩
  rw [← g11] at A11 D11 st11
  have ge_b11 : h10.size ≤ b11 := Nat.le_of_eq g11.symm
  have K11 := KL.ofE E11
  have F_b11_coder : Fd0 Z h11 b11 z0 := D11 (Or.inr (w31 hw)) (ty := .byte) (by decide)
  have F_b11_value : Fd1 Z h11 b11 .null := D11 (Or.inr (w33 hw)) (ty := (.array .byte)) (by decide)
  have f13 := (kArv K11 V10 na0)
  have f14 := (kOld K11 (kOld K10 (kOld K8 (kOld K6 (kOld K4 (kOld K2 (kOld K1 O0 na0) (naS (P := fun w => n0 ≤ w.1) (Nat.le_trans Z0 (Nat.le_trans (Nat.le_refl _) ge_b1)) na0)) (naS (P := fun w => n0 ≤ w.1) (Nat.le_trans Z0 (Nat.le_trans (Nat.le_refl _) ge_b1)) na0)) (naS (P := fun w => n0 ≤ w.1) (Nat.le_trans Z0 (Nat.le_trans (Nat.le_refl _) ge_b1)) na0)) (naS (P := fun w => n0 ≤ w.1) (Nat.le_trans Z0 (Nat.le_trans (Nat.le_refl _) ge_b1)) na0)) (naS (P := fun w => n0 ≤ w.1) (Nat.le_trans Z0 (Nat.le_trans (Nat.le_refl _) ge_b1)) na0)) na0)
  have sz_0_6 := (Nat.le_trans sz_0_5 K10.1)
  have sz_0_7 := (Nat.le_trans sz_0_6 K11.1)
  obtain ⟨_, T12, L12, X12, hQ12, st12⟩ := own_init X11 hx hZ rfl hown (w8 hw) (w9 hw) (w7 hw) (w10 hw) (by decide) (r1__init_ l Z a0 hw [] b11 b1 (p0 &&& (255 : Int32)) (own_pick p1) (own_pick p2) (own_pick p3) (own_pick p4) k1 cs h11 n0 (Nat.le_trans Z0 sz_0_7) f13 S_COMPACT_STRINGS F_b11_coder A11 F_b11_value f14 hcs (own_m255b p0) (own_pickb p1) (own_pickb p2) (own_pickb p3) (own_pickb p4) (Nat.le_trans Z0 (Nat.le_trans sz_0_6 ge_b11))) e11 (W := 1) (by decide) (g := (mkF m 142 #[vi p0, vi p1, vi p2, vi p3, vi p4, vr b1, vi 1, .unset] [(.ref b1), (.ref b11), (.ref b11)])) rfl (by rw [hml]; rfl) (argsL := [(.ref b1)]) (rest := [(.ref b11)]) (lenOf pd_7 rfl) rfl rfl (own_wr rfl rfl) (hb hby at_142)
  obtain ⟨b1_9_7_12, k1_9_7_12, rfl, N12q, K12, Q12_0, Q12_1, Q12_2, Q12_3⟩ := hQ12
  have N12 := Fr.app N10 N12q
  have f17 := (kExa K12 A11)
  have f18 := (kOld K12 f14 (naS (P := fun w => n0 ≤ w.1) (Nat.le_trans Z0 (Nat.le_trans sz_0_6 ge_b11)) (naS (P := fun w => n0 ≤ w.1) (Nat.le_trans Z0 (Nat.le_trans sz_0_6 ge_b11)) na0)))
  have sz_0_8 := (Nat.le_trans sz_0_7 K12.1)
  obtain ⟨_, T16, L16, X16, hS16, hk16, hZ16, hown16, hQ16, st16⟩ := own_Sstatic X12 hx hZ hown (w34 hw) (w35 hw) (w36 hw) (w37 hw) (by decide) (r6_parse l Z a0 hw [] b11 cs b1_9_7_12 ((p0 &&& (255 : Int32)).toInt8.toInt32) ((own_pick p1).toInt8.toInt32) ((own_pick p2).toInt8.toInt32) ((own_pick p3).toInt8.toInt32) ((own_pick p4).toInt8.toInt32) k1_9_7_12 fm T12.heap n0 (Nat.le_trans Z0 sz_0_8) f17 S_COMPACT_STRINGS Q12_1 Q12_2 Q12_3 f18 hcs (own_n58 (own_m255a p0) (own_m255b p0) hn0) (own_b58 he1) S_SIOOBE_FORMATTER hfm) rfl (W := 0) (by decide) (g := (mkF m 145 #[vi p0, vi p1, vi p2, vi p3, vi p4, vr b1, vi 1, .unset] [(.ref b11)])) rfl (by rw [hml]; rfl) (argsL := [(.ref b11)]) (rest := []) (lenOf pd_25 rfl) rfl rfl (own_wr rfl rfl) (hb hby at_145) hS0 (Nat.le_trans hk0 sz_0_8)
  obtain ⟨b9_16, b1_13_11_16, b1_13_10_19_16, b2_6_7_13_10_19_16, k2_6_7_13_10_19_16, b2_6_7_13_11_16, k2_6_7_13_11_16, rfl, N16q, K16, Q16_0, Q16_1, Q16_2, Q16_3, Q16_4, Q16_5, Q16_6, Q16_7, Q16_8, Q16_9, Q16_10, Q16_11, Q16_12, Q16_13, Q16_14, Q16_15, Q16_16, Q16_17, Q16_18, Q16_19, Q16_20, Q16_21, Q16_22, Q16_23, Q16_24, Q16_25⟩ := hQ16
  have N16 := Fr.app N12 N16q
  have sz_0_9 := (Nat.le_trans sz_0_8 K16.1)
  obtain ⟨_, T24, L24, X24, hQ24, st24⟩ := own_virtual X16 hx hZ16 hown16 (w149 hw) (w150 hw) (notFace_of_selects (args := #[]) (mvT hZ16 (w152 hw))) (w152 hw) (w151 hw) (w36 hw) (w153 hw) (by decide) (r42_system l Z a0 hw [] b9_16 b1_13_11_16 T16.heap n0 (Nat.le_trans Z0 sz_0_9) Q16_16) rfl Q16_15 (W := 0) (by decide) (g := (mkF m 152 #[vi p0, vi p1, vi p2, vi p3, vi p4, vr b1, vi 1, vr b9_16] [(.ref b9_16)])) rfl (by rw [hml]; rfl) (argsL := []) (rest := []) (lenOf pd_26 rfl) rfl rfl (own_wr rfl rfl) (hb hby at_152)
  obtain ⟨rfl, N24q, e24⟩ := hQ24
  have N24 := Fr.app N16 N24q
  have f26 := (kOld K16 f18 na0)
  have lt_b1 : b1 < h1.size := Arv.lt V1
  have sz_1_3 := (Nat.le_trans K2.1 K4.1)
  have sz_1_4 := (Nat.le_trans sz_1_3 K6.1)
  have sz_1_5 := (Nat.le_trans sz_1_4 K8.1)
  have sz_1_6 := (Nat.le_trans sz_1_5 K10.1)
  have f27 := (kArv K16 (kArv K12 f13 (naN (Ne.symm (lt_ne (Nat.lt_of_lt_of_le lt_b1 sz_1_6) ge_b11)) (naN (Ne.symm (lt_ne (Nat.lt_of_lt_of_le lt_b1 sz_1_6) ge_b11)) na0))) na0)
  obtain ⟨_, T25, L25, X25, hQ25, st25⟩ := own_static X24 hx hZ16 hown16 (w154 hw) (w155 hw) (w3 hw) (w156 hw) (by decide) (r43_same l Z a0 hw [] b1_13_11_16 b1 b2_6_7_13_11_16 ((p0 &&& (255 : Int32)).toInt8.toInt32) k2_6_7_13_11_16 cs fm (p0 &&& (255 : Int32)) (own_pick p1) (own_pick p2) (own_pick p3) (own_pick p4) k1 T16.heap n0 (Nat.le_trans Z0 sz_0_9) Q16_18 Q16_20 Q16_25 S_COMPACT_STRINGS Q16_19 f26 hcs S_SIOOBE_FORMATTER hfm f27 (own_b2c (own_m255a p0) (own_m255b p0))) e24 (W := 0) (by decide) (g := (mkF m 160 #[vi p0, vi p1, vi p2, vi p3, vi p4, vr b1, vi 1, vr b9_16] [(.int 1), z0, (.ref b1), (.ref b1_13_11_16)])) rfl (by rw [hml]; rfl) (argsL := [(.ref b1_13_11_16), (.ref b1), z0, (.int 1)]) (rest := []) (lenOf pd_28 rfl) rfl rfl (own_wr rfl rfl) (hb hby at_160)
  obtain ⟨rfl, N25q, e25⟩ := hQ25
  have N25 := Fr.app N24 N25q
  obtain ⟨_, T28, L28, X28, hQ28, st28⟩ := own_virtual X25 hx hZ16 hown16 (w172 hw) (w173 hw) (notFace_of_selects (args := #[]) (mvT hZ16 (w175 hw))) (w175 hw) (w174 hw) (w36 hw) (w176 hw) (by decide) (r46_id l Z a0 hw [] b9_16 b1_13_10_19_16 T16.heap n0 (Nat.le_trans Z0 sz_0_9) Q16_17) e25 Q16_15 (W := 0) (by decide) (g := (mkF m 168 #[vi p0, vi p1, vi p2, vi p3, vi p4, vr b1, vi 1, vr b9_16] [(.ref b9_16)])) rfl (by rw [hml]; rfl) (argsL := []) (rest := []) (lenOf pd_26 rfl) rfl rfl (own_wr rfl rfl) (hb hby at_168)
  obtain ⟨rfl, N28q, e28⟩ := hQ28
  have N28 := Fr.app N25 N28q
  obtain ⟨_, T29, L29, X29, hQ29, st29⟩ := own_static X28 hx hZ16 hown16 (w154 hw) (w155 hw) (w3 hw) (w156 hw) (by decide) (r47_same l Z a0 hw [] b1_13_10_19_16 b1 b2_6_7_13_10_19_16 ((own_pick p2).toInt8.toInt32) ((own_pick p3).toInt8.toInt32) ((own_pick p4).toInt8.toInt32) k2_6_7_13_10_19_16 cs fm (p0 &&& (255 : Int32)) (own_pick p1) (own_pick p2) (own_pick p3) (own_pick p4) k1 T16.heap n0 (Nat.le_trans Z0 sz_0_9) Q16_21 Q16_23 Q16_24 S_COMPACT_STRINGS Q16_22 f26 hcs S_SIOOBE_FORMATTER hfm f27 (own_b2c (own_picka p2) (own_pickb p2)) (own_b2c (own_picka p3) (own_pickb p3)) (own_b2c (own_picka p4) (own_pickb p4))) e28 (W := 0) (by decide) (g := (mkF m 181 #[vi p0, vi p1, vi p2, vi p3, vi p4, vr b1, vi 1, vr b9_16] [(.int 3), (.int 2), (.ref b1), (.ref b1_13_10_19_16)])) rfl (by rw [hml]; rfl) (argsL := [(.ref b1_13_10_19_16), (.ref b1), (.int 2), (.int 3)]) (rest := []) (lenOf pd_28 rfl) rfl rfl (own_wr rfl rfl) (hb hby at_181)
  obtain ⟨rfl, N29q, e29⟩ := hQ29
  have N29 := Fr.app N28 N29q
  refine ⟨T29, _, some (.int 1), _, _, X29, hS16, (by rw [e29]; exact hk16), (fun h => by cases h <;> rfl), ?_, fun fs hr => ?_⟩
  · show Q_law n0 _ _
    exact ⟨rfl, N29⟩
  · refine t_iconst 1 (r := 5) X0.here hx (hb hby at_0) (by decide) rfl ?_
    refine st1 _ ?_
    refine t_astore (pc' := 5) (L' := #[vi p0, vi p1, vi p2, vi p3, vi p4, vr b1, .unset, .unset]) X1.here hx (hb hby at_3) rfl rfl rfl ?_
    refine t_aload 7 X1.here hx (hb hby at_5) rfl rfl rfl ?_
    refine t_iconst 8 (r := 0) X1.here hx (hb hby at_7) (by decide) rfl ?_
    refine t_iloadN 9 X1.here hx (hb hby at_8) rfl rfl ?_
    refine t_sipush 12 (r := 255) X1.here hx (hb hby at_9) (by decide) rfl ?_
    refine t_iand 13 X1.here hx (hb hby at_12) rfl rfl ?_
    refine t_i2c 14 (r := (p0 &&& (255 : Int32))) X1.here hx (hb hby at_13) (i2c_mask _) rfl ?_
    refine st2 _ ?_
    refine t_aload 17 X2.here hx (hb hby at_15) rfl rfl rfl ?_
    refine t_iconst 18 (r := 1) X2.here hx (hb hby at_17) (by decide) rfl ?_
    refine t_iloadN 19 X2.here hx (hb hby at_18) rfl rfl ?_
    refine st3 _ ?_
    refine st4 _ ?_
    refine t_aload 25 X4.here hx (hb hby at_23) rfl rfl rfl ?_
    refine t_iconst 26 (r := 2) X4.here hx (hb hby at_25) (by decide) rfl ?_
    refine t_iloadN 27 X4.here hx (hb hby at_26) rfl rfl ?_
    refine st5 _ ?_
    refine st6 _ ?_
    refine t_aload 33 X6.here hx (hb hby at_31) rfl rfl rfl ?_
    refine t_iconst 34 (r := 3) X6.here hx (hb hby at_33) (by decide) rfl ?_
    refine t_iloadN 35 X6.here hx (hb hby at_34) rfl rfl ?_
    refine st7 _ ?_
    refine st8 _ ?_
    refine t_aload 41 X8.here hx (hb hby at_39) rfl rfl rfl ?_
    refine t_iconst 42 (r := 4) X8.here hx (hb hby at_41) (by decide) rfl ?_
    refine t_iload 44 X8.here hx (hb hby at_42) rfl rfl ?_
    refine st9 _ ?_
    refine st10 _ ?_
    refine t_iconst 49 (r := (-1 : Int32)) X10.here hx (hb hby at_48) (by decide) rfl ?_
    refine t_istore (pc' := 51) (L' := #[vi p0, vi p1, vi p2, vi p3, vi p4, vr b1, vi ((-1)), .unset]) X10.here hx (hb hby at_49) rfl rfl ?_
    refine t_aload 53 X10.here hx (hb hby at_51) rfl rfl rfl ?_
    refine t_iconst 54 (r := 0) X10.here hx (hb hby at_53) (by decide) rfl ?_
    refine own_aldC (pc' := 55) X10 hx hZ e10 V10 (j := 0) (v := (.int (p0 &&& (255 : Int32)))) (by decide) rfl (hb hby at_54) rfl ?_
    refine t_bipush 57 (r := 58) X10.here hx (hb hby at_55) (by decide) rfl ?_
    refine t_icmpYes (pc := 57) 66 X10.here hx (hb hby at_57) (feq hn0).2 (by decide) (by decide) ?_
    refine t_aload 68 X10.here hx (hb hby at_66) rfl rfl rfl ?_
    refine t_iconst 69 (r := 1) X10.here hx (hb hby at_68) (by decide) rfl ?_
    refine own_aldC (pc' := 70) X10 hx hZ e10 V10 (j := 1) (v := (.int (own_pick p1))) (by decide) rfl (hb hby at_69) rfl ?_
    refine t_bipush 72 (r := 58) X10.here hx (hb hby at_70) (by decide) rfl ?_
    refine t_icmpNo 75 X10.here hx (hb hby at_72) (teq he1).2 rfl ?_
    refine t_iconst 76 (r := 1) X10.here hx (hb hby at_75) (by decide) rfl ?_
    refine t_istore (pc' := 78) (L' := #[vi p0, vi p1, vi p2, vi p3, vi p4, vr b1, vi 1, .unset]) X10.here hx (hb hby at_76) rfl rfl ?_
    refine t_goto (pc := 78) 123 X10.here hx (hb hby at_78) (by decide) (by decide) ?_
    refine t_iload 125 X10.here hx (hb hby at_123) rfl rfl ?_
    refine t_ifNo 128 X10.here hx (hb hby at_125) (by decide) rfl ?_
    refine t_iload 130 X10.here hx (hb hby at_128) rfl rfl ?_
    refine t_iconst 131 (r := 4) X10.here hx (hb hby at_130) (by decide) rfl ?_
    refine t_icmpYes (pc := 131) 136 X10.here hx (hb hby at_131) (by decide) (by decide) (by decide) ?_
    refine st11 _ ?_
    refine t_dup 140 X11.here hx (hb hby at_139) rfl rfl ?_
    refine t_aload 142 X11.here hx (hb hby at_140) rfl rfl rfl ?_
    refine st12 _ ?_
    refine st16 _ ?_
    refine t_astore (pc' := 150) (L' := #[vi p0, vi p1, vi p2, vi p3, vi p4, vr b1, vi 1, vr b9_16]) X16.here hx (hb hby at_148) rfl rfl rfl ?_
    refine t_aload 152 X16.here hx (hb hby at_150) rfl rfl rfl ?_
    refine st24 _ ?_
    refine t_aload 157 X24.here hx (hb hby at_155) rfl rfl rfl ?_
    refine t_iconst 158 (r := 0) X24.here hx (hb hby at_157) (by decide) rfl ?_
    refine t_iload 160 X24.here hx (hb hby at_158) rfl rfl ?_
    refine st25 _ ?_
    refine t_ifNo 166 X25.here hx (hb hby at_163) (by decide) rfl ?_
    refine t_aload 168 X25.here hx (hb hby at_166) rfl rfl rfl ?_
    refine st28 _ ?_
    refine t_aload 173 X28.here hx (hb hby at_171) rfl rfl rfl ?_
    refine t_iload 175 X28.here hx (hb hby at_173) rfl rfl ?_
    refine t_iconst 176 (r := 1) X28.here hx (hb hby at_175) (by decide) rfl ?_
    refine t_iadd 177 (r := 2) X28.here hx (hb hby at_176) (by decide : ((1 : Int32) + (1 : Int32)) = (2 : Int32)) rfl ?_
    refine t_iconst 178 (r := 4) X28.here hx (hb hby at_177) (by decide) rfl ?_
    refine t_iload 180 X28.here hx (hb hby at_178) rfl rfl ?_
    refine t_isub 181 (r := 3) X28.here hx (hb hby at_180) (by decide : ((4 : Int32) - (1 : Int32)) = (3 : Int32)) rfl ?_
    refine st29 _ ?_
    refine t_ifNo 187 X29.here hx (hb hby at_184) (by decide) rfl ?_
    refine t_iconst 188 (r := 1) X29.here hx (hb hby at_187) (by decide) rfl ?_
    refine t_goto (pc := 188) 192 X29.here hx (hb hby at_188) (by decide) (by decide) ?_
    exact retN X29 hx (t := .boolean) hret (by simp) (hb hby at_192) hr
def Q_r59_indexOfChar (Z : State) (o0 : Addr) (i_1 i_2 i_3 i_4 i_5 : Int32) (k_o0 : ClassId) (h0 : Heap) (n0 : Nat) (v : Option Value) (h : Heap) (L : List Loc) : Prop := v = some (.int 2) ∧ Fr n0 L ∧ h = h0
theorem ef_r59_indexOfChar (o0 : Addr) (m : MethodId) : entryFrame m #[(.ref o0), (.int 58), (.int 0), (.int 5)] 6 = mkF m 0 #[.val (.ref o0), .val (.int 58), .val (.int 0), .val (.int 5), .unset, .unset] [] := by first | (simp [entryFrame, mkF, argsToLocals, Value.category]; done) | rfl
set_option maxRecDepth 65536 in
set_option maxHeartbeats 40000000 in
theorem r59_indexOfChar (l : Launch) (Z : State) (a0 : Array Value) (hw : HW Z a0) (ws : List Jvm.Cond) (o0 : Addr) (i_1 i_2 i_3 i_4 i_5 : Int32) (k_o0 : ClassId) (h0 : Heap) (n0 : Nat) (Z0 : n0 ≤ h0.size) (V_o0 : Arv Z h0 o0 k_o0 .byte 5 [(.int i_1), (.int i_2), (.int i_3), (.int i_4), (.int i_5)] z0) (hp0 : ¬ (i_1 = (58 : Int32))) (hp1 : ¬ (i_2 = (58 : Int32))) (hp2 : i_3 = (58 : Int32)) :
    MF l Z y16_indexOfChar b20_ 6 (some .int) ws ⟨0, 0, 0, 0⟩ #[(.ref o0), (.int 58), z0, (.int 5)] h0 (Q_r59_indexOfChar Z o0 i_1 i_2 i_3 i_4 i_5 k_o0 h0 n0) := by
  refine own_body (plainFor_of_name pn_StringLatin1120) (ef_r59_indexOfChar o0) (by decide) (by decide) ?_
  intro p e s m below meth c s₁ hx hby hml hown hnm hret hZ hh e0 X0
  have N0 := Fr.nil n0
  refine ⟨s₁, _, some (.int 2), X0, (fun h => by cases h <;> rfl), ?_, fun fs hr => ?_⟩
  · show Q_r59_indexOfChar Z o0 i_1 i_2 i_3 i_4 i_5 k_o0 h0 n0 _ s₁.heap _
    rw [e0]
    exact ⟨rfl, N0, rfl⟩
  · refine t_iloadN 1 X0.here hx (hb hby d194) rfl rfl ?_
    refine t_i2b 2 (r := 58) X0.here hx (hb hby d195) (by decide : ((58 : Int32).toInt8.toInt32) = (58 : Int32)) rfl ?_
    refine t_istore (pc' := 4) (L' := #[vr o0, vi 58, vi 0, vi 5, vi 58, .unset]) X0.here hx (hb hby d196) rfl rfl ?_
    refine t_iloadN 5 X0.here hx (hb hby d197) rfl rfl ?_
    refine t_istore (pc' := 7) (L' := #[vr o0, vi 58, vi 0, vi 5, vi 58, vi 0]) X0.here hx (hb hby d198) rfl rfl ?_
    refine t_iload 9 X0.here hx (hb hby d199) rfl rfl ?_
    refine t_iloadN 10 X0.here hx (hb hby d200) rfl rfl ?_
    refine t_icmpNo 13 X0.here hx (hb hby d201) (by decide) rfl ?_
    refine t_aloadN 14 X0.here hx (hb hby d202) rfl rfl rfl ?_
    refine t_iload 16 X0.here hx (hb hby d203) rfl rfl ?_
    refine own_aldB (pc' := 17) X0 hx hZ e0 V_o0 (j := 0) (v := (.int i_1)) (by decide) rfl (hb hby d204) rfl ?_
    refine t_iload 19 X0.here hx (hb hby d205) rfl rfl ?_
    refine t_icmpYes (pc := 19) 25 X0.here hx (hb hby d206) (feq hp0).2 (by decide) (by decide) ?_
    refine t_iinc (pc' := 28) (L' := #[vr o0, vi 58, vi 0, vi 5, vi 58, vi 1]) X0.here hx (hb hby d207) rfl (by first | rfl | decide) rfl ?_
    refine t_goto (pc := 28) 7 X0.here hx (hb hby d208) (by decide) (by decide) ?_
    refine t_iload 9 X0.here hx (hb hby d199) rfl rfl ?_
    refine t_iloadN 10 X0.here hx (hb hby d200) rfl rfl ?_
    refine t_icmpNo 13 X0.here hx (hb hby d201) (by decide) rfl ?_
    refine t_aloadN 14 X0.here hx (hb hby d202) rfl rfl rfl ?_
    refine t_iload 16 X0.here hx (hb hby d203) rfl rfl ?_
    refine own_aldB (pc' := 17) X0 hx hZ e0 V_o0 (j := 1) (v := (.int i_2)) (by decide) rfl (hb hby d204) rfl ?_
    refine t_iload 19 X0.here hx (hb hby d205) rfl rfl ?_
    refine t_icmpYes (pc := 19) 25 X0.here hx (hb hby d206) (feq hp1).2 (by decide) (by decide) ?_
    refine t_iinc (pc' := 28) (L' := #[vr o0, vi 58, vi 0, vi 5, vi 58, vi 2]) X0.here hx (hb hby d207) rfl (by first | rfl | decide) rfl ?_
    refine t_goto (pc := 28) 7 X0.here hx (hb hby d208) (by decide) (by decide) ?_
    refine t_iload 9 X0.here hx (hb hby d199) rfl rfl ?_
    refine t_iloadN 10 X0.here hx (hb hby d200) rfl rfl ?_
    refine t_icmpNo 13 X0.here hx (hb hby d201) (by decide) rfl ?_
    refine t_aloadN 14 X0.here hx (hb hby d202) rfl rfl rfl ?_
    refine t_iload 16 X0.here hx (hb hby d203) rfl rfl ?_
    refine own_aldB (pc' := 17) X0 hx hZ e0 V_o0 (j := 2) (v := (.int i_3)) (by decide) rfl (hb hby d204) rfl ?_
    refine t_iload 19 X0.here hx (hb hby d205) rfl rfl ?_
    refine t_icmpNo 22 X0.here hx (hb hby d206) (teq hp2).2 rfl ?_
    refine t_iload 24 X0.here hx (hb hby d209) rfl rfl ?_
    exact retI X0 hx hret (hb hby d210) hr
def Q_r58_indexOf (Z : State) (o0 : Addr) (i_3 i_4 i_5 i_6 i_7 : Int32) (k_o0 : ClassId) (h0 : Heap) (n0 : Nat) (v : Option Value) (h : Heap) (L : List Loc) : Prop := v = some (.int 2) ∧ Fr n0 L ∧ h = h0
theorem ef_r58_indexOf (o0 : Addr) (m : MethodId) : entryFrame m #[(.ref o0), (.int 58), (.int 0), (.int 5)] 4 = mkF m 0 #[.val (.ref o0), .val (.int 58), .val (.int 0), .val (.int 5)] [] := by first | (simp [entryFrame, mkF, argsToLocals, Value.category]; done) | rfl
set_option maxRecDepth 65536 in
set_option maxHeartbeats 40000000 in
theorem r58_indexOf (l : Launch) (Z : State) (a0 : Array Value) (hw : HW Z a0) (ws : List Jvm.Cond) (o0 : Addr) (i_3 i_4 i_5 i_6 i_7 : Int32) (k_o0 : ClassId) (h0 : Heap) (n0 : Nat) (Z0 : n0 ≤ h0.size) (V_o0 : Arv Z h0 o0 k_o0 .byte 5 [(.int i_3), (.int i_4), (.int i_5), (.int i_6), (.int i_7)] z0) (hp0 : ¬ (i_3 = (58 : Int32))) (hp1 : ¬ (i_4 = (58 : Int32))) (hp2 : i_5 = (58 : Int32)) :
    MF l Z y17_indexOf b16_ 4 (some .int) ws ⟨1, 0, 0, 17⟩ #[(.ref o0), (.int 58), z0, (.int 5)] h0 (Q_r58_indexOf Z o0 i_3 i_4 i_5 i_6 i_7 k_o0 h0 n0) := by
  refine own_body (plainFor_of_name pn_StringLatin1120) (ef_r58_indexOf o0) (by decide) (by decide) ?_
  intro p e s m below meth c s₁ hx hby hml hown hnm hret hZ hh e0 X0
  have N0 := Fr.nil n0
  obtain ⟨_, T1, L1, X1, hQ1, st1⟩ := own_static X0 hx hZ hown (w67 hw) (w68 hw) (w65 hw) (w69 hw) (by decide) (r13_canEncode l Z a0 hw []  h0 n0 Z0) e0 (W := 0) (by decide) (g := (mkF m 1 #[vr o0, vi 58, vi 0, vi 5] [(.int 58)])) rfl (by rw [hml]; rfl) (argsL := [(.int 58)]) (rest := []) (lenOf pd_11 rfl) rfl rfl (own_wr rfl rfl) (hb hby d155)
  obtain ⟨rfl, N1q, e1⟩ := hQ1
  have N1 := Fr.app N0 N1q
  obtain ⟨_, T2, L2, X2, hQ2, st2⟩ := own_static X1 hx hZ hown (w70 hw) (w71 hw) (w72 hw) (w73 hw) (by decide) (r14_max l Z a0 hw []  h0 n0 Z0) e1 (W := 0) (by decide) (g := (mkF m 11 #[vr o0, vi 58, vi 0, vi 5] [z0, z0])) rfl (by rw [hml]; rfl) (argsL := [z0, z0]) (rest := []) (lenOf pd_12 rfl) rfl rfl (own_wr rfl rfl) (hb hby d167)
  obtain ⟨rfl, N2q, e2⟩ := hQ2
  have N2 := Fr.app N1 N2q
  obtain ⟨_, T8, L8, X8, hQ8, st8⟩ := own_static X2 hx hZ hown (w74 hw) (w75 hw) (w72 hw) (w76 hw) (by decide) (r15_min l Z a0 hw []  h0 n0 Z0) e2 (W := 0) (by decide) (g := (mkF m 18 #[vr o0, vi 58, vi 0, vi 5] [(.int 5), (.int 5)])) rfl (by rw [hml]; rfl) (argsL := [(.int 5), (.int 5)]) (rest := []) (lenOf pd_12 rfl) rfl rfl (own_wr rfl rfl) (hb hby d178)
  obtain ⟨rfl, N8q, e8⟩ := hQ8
  have N8 := Fr.app N2 N8q
  obtain ⟨_, T9, L9, X9, hQ9, st9⟩ := own_static X8 hx hZ hown (w77 hw) (w78 hw) (w65 hw) (w79 hw) (by decide) (r59_indexOfChar l Z a0 hw [] o0 i_3 i_4 i_5 i_6 i_7 k_o0 h0 n0 Z0 V_o0 hp0 hp1 hp2) e8 (W := 0) (by decide) (g := (mkF m 33 #[vr o0, vi 58, vi 0, vi 5] [(.int 5), z0, (.int 58), (.ref o0)])) rfl (by rw [hml]; rfl) (argsL := [(.ref o0), (.int 58), z0, (.int 5)]) (rest := []) (lenOf pd_13 rfl) rfl rfl (own_wr rfl rfl) (hb hby d193)
  obtain ⟨rfl, N9q, e9⟩ := hQ9
  have N9 := Fr.app N8 N9q
  refine ⟨T9, _, some (.int 2), X9, (fun h => by cases h <;> rfl), ?_, fun fs hr => ?_⟩
  · show Q_r58_indexOf Z o0 i_3 i_4 i_5 i_6 i_7 k_o0 h0 n0 _ T9.heap _
    rw [e9]
    exact ⟨rfl, N9, rfl⟩
  · refine t_iloadN 1 X0.here hx (hb hby d154) rfl rfl ?_
    refine st1 _ ?_
    refine t_ifYes (pc := 4) 9 X1.here hx (hb hby d164) (by decide) (by decide) (by decide) ?_
    refine t_iloadN 10 X1.here hx (hb hby d165) rfl rfl ?_
    refine t_iconst 11 (r := 0) X1.here hx (hb hby d166) (by decide) rfl ?_
    refine st2 _ ?_
    refine t_istoreN (pc' := 15) (L' := #[vr o0, vi 58, vi 0, vi 5]) X2.here hx (hb hby d174) rfl rfl ?_
    refine t_iloadN 16 X2.here hx (hb hby d175) rfl rfl ?_
    refine t_aloadN 17 X2.here hx (hb hby d176) rfl rfl rfl ?_
    refine own_arlen (pc' := 18) X2 hx hZ e2 V_o0 (hb hby d177) rfl ?_
    refine st8 _ ?_
    refine t_istoreN (pc' := 22) (L' := #[vr o0, vi 58, vi 0, vi 5]) X8.here hx (hb hby d185) rfl rfl ?_
    refine t_iloadN 23 X8.here hx (hb hby d186) rfl rfl ?_
    refine t_iloadN 24 X8.here hx (hb hby d187) rfl rfl ?_
    refine t_icmpYes (pc := 24) 29 X8.here hx (hb hby d188) (by decide) (by decide) (by decide) ?_
    refine t_aloadN 30 X8.here hx (hb hby d189) rfl rfl rfl ?_
    refine t_iloadN 31 X8.here hx (hb hby d190) rfl rfl ?_
    refine t_iloadN 32 X8.here hx (hb hby d191) rfl rfl ?_
    refine t_iloadN 33 X8.here hx (hb hby d192) rfl rfl ?_
    refine st9 _ ?_
    exact retI X9 hx hret (hb hby d211) hr
def Q_r57_indexOf (Z : State) (o0 : Addr) (i_1 : Int32) (o_3 : Addr) (i_5 i_6 i_7 i_8 i_9 : Int32) (k_o_3 : ClassId) (h0 : Heap) (n0 : Nat) (v : Option Value) (h : Heap) (L : List Loc) : Prop := v = some (.int 2) ∧ Fr n0 L ∧ h = h0
theorem ef_r57_indexOf (o0 : Addr) (m : MethodId) : entryFrame m #[(.ref o0), (.int 58), (.int 0)] 3 = mkF m 0 #[.val (.ref o0), .val (.int 58), .val (.int 0)] [] := by first | (simp [entryFrame, mkF, argsToLocals, Value.category]; done) | rfl
set_option maxRecDepth 65536 in
set_option maxHeartbeats 40000000 in
theorem r57_indexOf (l : Launch) (Z : State) (a0 : Array Value) (hw : HW Z a0) (ws : List Jvm.Cond) (o0 : Addr) (i_1 : Int32) (o_3 : Addr) (i_5 i_6 i_7 i_8 i_9 : Int32) (k_o_3 : ClassId) (h0 : Heap) (n0 : Nat) (Z0 : n0 ≤ h0.size) (E_o0 : Ex0 Z h0 o0) (S_COMPACT_STRINGS : SCS Z i_1) (F_o0_coder : Fd0 Z h0 o0 z0) (O0 : Old Z n0 h0) (hp0 : ¬ (i_1 = (0 : Int32))) (F_o0_value : Fd1 Z h0 o0 (.ref o_3)) (V_o_3 : Arv Z h0 o_3 k_o_3 .byte 5 [(.int i_5), (.int i_6), (.int i_7), (.int i_8), (.int i_9)] z0) (hp1 : ¬ (i_5 = (58 : Int32))) (hp2 : ¬ (i_6 = (58 : Int32))) (hp3 : i_7 = (58 : Int32)) :
    MF l Z y18_indexOf b12_ 3 (some .int) ws ⟨2, 0, 0, 32⟩ #[(.ref o0), (.int 58), z0] h0 (Q_r57_indexOf Z o0 i_1 o_3 i_5 i_6 i_7 i_8 i_9 k_o_3 h0 n0) := by
  refine own_body (plainFor_of_name pn_String564) (ef_r57_indexOf o0) (by decide) (by decide) ?_
  intro p e s m below meth c s₁ hx hby hml hown hnm hret hZ hh e0 X0
  have N0 := Fr.nil n0
  obtain ⟨_, T2, L2, X2, hQ2, st2⟩ := own_virtual X0 hx hZ hown (w48 hw) (w49 hw) (notFace_of_selects (args := #[]) (mvT hZ (w51 hw))) (w51 hw) (w50 hw) (w7 hw) (w52 hw) (by decide) (r9_isLatin1 l Z a0 hw [] o0 i_1 h0 n0 Z0 S_COMPACT_STRINGS O0 hp0 F_o0_coder) e0 E_o0 (W := 0) (by decide) (g := (mkF m 1 #[vr o0, vi 58, vi 0] [(.ref o0)])) rfl (by rw [hml]; rfl) (argsL := []) (rest := []) (lenOf pd_8 rfl) rfl rfl (own_wr rfl rfl) (hb hby d124)
  obtain ⟨rfl, N2q, e2⟩ := hQ2
  have N2 := Fr.app N0 N2q
  obtain ⟨T4, X4, e4, st4⟩ := getF X2 hx hZ hown (host := "") (Or.inl (w32 hw)) Via.refl e2 F_o0_value (g := (mkF m 8 #[vr o0, vi 58, vi 0] [(.ref o0)])) rfl rfl (hb hby d135)
  obtain ⟨_, T10, L10, X10, hQ10, st10⟩ := own_virtual X4 hx hZ hown (w53 hw) (w54 hw) (notFace_of_selects (args := #[]) (mvT hZ (w56 hw))) (w56 hw) (w55 hw) (w7 hw) (w57 hw) (by decide) (r10_length l Z a0 hw [] o0 o_3 i_5 i_6 i_7 i_8 i_9 k_o_3 i_1 h0 n0 Z0 F_o0_value V_o_3 E_o0 S_COMPACT_STRINGS F_o0_coder O0 hp0) e4 E_o0 (W := 3) (by decide) (g := (mkF m 14 #[vr o0, vi 58, vi 0] [(.ref o0), z0, (.int 58), (.ref o_3)])) rfl (by rw [hml]; rfl) (argsL := []) (rest := [z0, (.int 58), (.ref o_3)]) (lenOf pd_10 rfl) rfl rfl (own_wr rfl rfl) (hb hby d139)
  obtain ⟨rfl, N10q, e10⟩ := hQ10
  have N10 := Fr.app N2 N10q
  obtain ⟨_, T11, L11, X11, hQ11, st11⟩ := own_static X10 hx hZ hown (w63 hw) (w64 hw) (w65 hw) (w66 hw) (by decide) (r58_indexOf l Z a0 hw [] o_3 i_5 i_6 i_7 i_8 i_9 k_o_3 h0 n0 Z0 V_o_3 hp1 hp2 hp3) e10 (W := 0) (by decide) (g := (mkF m 17 #[vr o0, vi 58, vi 0] [(.int 5), z0, (.int 58), (.ref o_3)])) rfl (by rw [hml]; rfl) (argsL := [(.ref o_3), (.int 58), z0, (.int 5)]) (rest := []) (lenOf pd_13 rfl) rfl rfl (own_wr rfl rfl) (hb hby d153)
  obtain ⟨rfl, N11q, e11⟩ := hQ11
  have N11 := Fr.app N10 N11q
  refine ⟨T11, _, some (.int 2), X11, (fun h => by cases h <;> rfl), ?_, fun fs hr => ?_⟩
  · show Q_r57_indexOf Z o0 i_1 o_3 i_5 i_6 i_7 i_8 i_9 k_o_3 h0 n0 _ T11.heap _
    rw [e11]
    exact ⟨rfl, N11, rfl⟩
  · refine t_aloadN 1 X0.here hx (hb hby d123) rfl rfl rfl ?_
    refine st2 _ ?_
    refine t_ifNo 7 X2.here hx (hb hby d133) (by decide) rfl ?_
    refine t_aloadN 8 X2.here hx (hb hby d134) rfl rfl rfl ?_
    refine st4 _ ?_
    refine t_iloadN 12 X4.here hx (hb hby d136) rfl rfl ?_
    refine t_iloadN 13 X4.here hx (hb hby d137) rfl rfl ?_
    refine t_aloadN 14 X4.here hx (hb hby d138) rfl rfl rfl ?_
    refine st10 _ ?_
    refine st11 _ ?_
    refine t_goto (pc := 20) 36 X11.here hx (hb hby d212) (by decide) (by decide) ?_
    exact retI X11 hx hret (hb hby d213) hr
def Q_r56_indexOf (Z : State) (o0 : Addr) (i_1 : Int32) (o_2 : Addr) (i_3 i_4 i_5 i_6 i_7 : Int32) (k_o_2 : ClassId) (h0 : Heap) (n0 : Nat) (v : Option Value) (h : Heap) (L : List Loc) : Prop := v = some (.int 2) ∧ Fr n0 L ∧ h = h0
theorem ef_r56_indexOf (o0 : Addr) (m : MethodId) : entryFrame m #[(.ref o0), (.int 58)] 2 = mkF m 0 #[.val (.ref o0), .val (.int 58)] [] := by first | (simp [entryFrame, mkF, argsToLocals, Value.category]; done) | rfl
set_option maxRecDepth 65536 in
set_option maxHeartbeats 40000000 in
theorem r56_indexOf (l : Launch) (Z : State) (a0 : Array Value) (hw : HW Z a0) (ws : List Jvm.Cond) (o0 : Addr) (i_1 : Int32) (o_2 : Addr) (i_3 i_4 i_5 i_6 i_7 : Int32) (k_o_2 : ClassId) (h0 : Heap) (n0 : Nat) (Z0 : n0 ≤ h0.size) (E_o0 : Ex0 Z h0 o0) (S_COMPACT_STRINGS : SCS Z i_1) (F_o0_coder : Fd0 Z h0 o0 z0) (F_o0_value : Fd1 Z h0 o0 (.ref o_2)) (V_o_2 : Arv Z h0 o_2 k_o_2 .byte 5 [(.int i_3), (.int i_4), (.int i_5), (.int i_6), (.int i_7)] z0) (O0 : Old Z n0 h0) (hp0 : ¬ (i_1 = (0 : Int32))) (hp1 : ¬ (i_3 = (58 : Int32))) (hp2 : ¬ (i_4 = (58 : Int32))) (hp3 : i_5 = (58 : Int32)) :
    MF l Z y19_indexOf b11_ 2 (some .int) ws ⟨3, 0, 0, 46⟩ #[(.ref o0), (.int 58)] h0 (Q_r56_indexOf Z o0 i_1 o_2 i_3 i_4 i_5 i_6 i_7 k_o_2 h0 n0) := by
  refine own_body (plainFor_of_name pn_String564) (ef_r56_indexOf o0) (by decide) (by decide) ?_
  intro p e s m below meth c s₁ hx hby hml hown hnm hret hZ hh e0 X0
  have N0 := Fr.nil n0
  obtain ⟨_, T8, L8, X8, hQ8, st8⟩ := own_virtual X0 hx hZ hown (w43 hw) (w44 hw) (notFace_of_selects (args := #[]) (mvT hZ (w46 hw))) (w46 hw) (w45 hw) (w7 hw) (w47 hw) (by decide) (r57_indexOf l Z a0 hw [] o0 i_1 o_2 i_3 i_4 i_5 i_6 i_7 k_o_2 h0 n0 Z0 E_o0 S_COMPACT_STRINGS F_o0_coder O0 hp0 F_o0_value V_o_2 hp1 hp2 hp3) e0 E_o0 (W := 0) (by decide) (g := (mkF m 3 #[vr o0, vi 58] [z0, (.int 58), (.ref o0)])) rfl (by rw [hml]; rfl) (argsL := [(.int 58), z0]) (rest := []) (lenOf pd_12 rfl) rfl rfl (own_wr rfl rfl) (hb hby d122)
  obtain ⟨rfl, N8q, e8⟩ := hQ8
  have N8 := Fr.app N0 N8q
  refine ⟨T8, _, some (.int 2), X8, (fun h => by cases h <;> rfl), ?_, fun fs hr => ?_⟩
  · show Q_r56_indexOf Z o0 i_1 o_2 i_3 i_4 i_5 i_6 i_7 k_o_2 h0 n0 _ T8.heap _
    rw [e8]
    exact ⟨rfl, N8, rfl⟩
  · refine t_aloadN 1 X0.here hx (hb hby d119) rfl rfl rfl ?_
    refine t_iloadN 2 X0.here hx (hb hby d120) rfl rfl ?_
    refine t_iconst 3 (r := 0) X0.here hx (hb hby d121) (by decide) rfl ?_
    refine st8 _ ?_
    exact retI X8 hx hret (hb hby d214) hr
def Q_r64_checkLength (Z : State)  (h0 : Heap) (n0 : Nat) (v : Option Value) (h : Heap) (L : List Loc) : Prop := v = none ∧ Fr n0 L ∧ h = h0
theorem ef_r64_checkLength (m : MethodId) : entryFrame m #[(.int 0), (.int 2)] 2 = mkF m 0 #[.val (.int 0), .val (.int 2)] [] := by first | (simp [entryFrame, mkF, argsToLocals, Value.category]; done) | rfl
set_option maxRecDepth 65536 in
set_option maxHeartbeats 40000000 in
theorem r64_checkLength (l : Launch) (Z : State) (a0 : Array Value) (hw : HW Z a0) (ws : List Jvm.Cond)  (h0 : Heap) (n0 : Nat) (Z0 : n0 ≤ h0.size) :
    MF l Z y20_checkLength b25_ 2 none ws ⟨0, 0, 0, 0⟩ #[z0, (.int 2)] h0 (Q_r64_checkLength Z  h0 n0) := by
  refine own_body (plainFor_of_name pn_Arrays587) (ef_r64_checkLength) (by decide) (by decide) ?_
  intro p e s m below meth c s₁ hx hby hml hown hnm hret hZ hh e0 X0
  have N0 := Fr.nil n0
  refine ⟨s₁, _, none, X0, (fun h => by cases h <;> rfl), ?_, fun fs hr => ?_⟩
  · show Q_r64_checkLength Z  h0 n0 _ s₁.heap _
    rw [e0]
    exact ⟨rfl, N0, rfl⟩
  · refine t_iloadN 1 X0.here hx (hb hby d271) rfl rfl ?_
    refine t_iloadN 2 X0.here hx (hb hby d272) rfl rfl ?_
    refine t_icmpYes (pc := 2) 37 X0.here hx (hb hby d273) (by decide) (by decide) (by decide) ?_
    exact X0.returnOut hx hret (hb hby d274) hr
def Q_r65_min (Z : State)  (h0 : Heap) (n0 : Nat) (v : Option Value) (h : Heap) (L : List Loc) : Prop := v = some (.int 2) ∧ Fr n0 L ∧ h = h0
theorem ef_r65_min (m : MethodId) : entryFrame m #[(.int 5), (.int 2)] 2 = mkF m 0 #[.val (.int 5), .val (.int 2)] [] := by first | (simp [entryFrame, mkF, argsToLocals, Value.category]; done) | rfl
set_option maxRecDepth 65536 in
set_option maxHeartbeats 40000000 in
theorem r65_min (l : Launch) (Z : State) (a0 : Array Value) (hw : HW Z a0) (ws : List Jvm.Cond)  (h0 : Heap) (n0 : Nat) (Z0 : n0 ≤ h0.size) :
    MF l Z y15_min b19_ 2 (some .int) ws ⟨0, 0, 0, 0⟩ #[(.int 5), (.int 2)] h0 (Q_r65_min Z  h0 n0) := by
  refine own_body (Jvm.Free.JP.mathPlain rfl (by decide +kernel)) (ef_r65_min) (by decide) (by decide) ?_
  intro p e s m below meth c s₁ hx hby hml hown hnm hret hZ hh e0 X0
  have N0 := Fr.nil n0
  refine ⟨s₁, _, some (.int 2), X0, (fun h => by cases h <;> rfl), ?_, fun fs hr => ?_⟩
  · show Q_r65_min Z  h0 n0 _ s₁.heap _
    rw [e0]
    exact ⟨rfl, N0, rfl⟩
  · refine t_iloadN 1 X0.here hx (hb hby d179) rfl rfl ?_
    refine t_iloadN 2 X0.here hx (hb hby d180) rfl rfl ?_
    refine t_icmpYes (pc := 2) 9 X0.here hx (hb hby d181) (by decide) (by decide) (by decide) ?_
    refine t_iloadN 10 X0.here hx (hb hby d292) rfl rfl ?_
    exact retI X0 hx hret (hb hby d184) hr
def Q_r63_copyOfRangeByte (Z : State) (o0 : Addr) (i_3 i_4 i_5 i_6 i_7 : Int32) (k_o0 : ClassId) (h0 : Heap) (n0 : Nat) (v : Option Value) (h : Heap) (L : List Loc) : Prop := ∃ b2 : Addr, ∃ k2 : ClassId, v = some (.ref b2) ∧ Fr n0 L ∧ KL h0 h [] ∧ h0.size ≤ b2 ∧ Arv Z h b2 k2 .byte 2 [(.int i_3), (.int i_4)] z0
theorem ef_r63_copyOfRangeByte (o0 : Addr) (m : MethodId) : entryFrame m #[(.ref o0), (.int 0), (.int 2)] 5 = mkF m 0 #[.val (.ref o0), .val (.int 0), .val (.int 2), .unset, .unset] [] := by first | (simp [entryFrame, mkF, argsToLocals, Value.category]; done) | rfl
set_option maxRecDepth 65536 in
set_option maxHeartbeats 40000000 in
theorem r63_copyOfRangeByte (l : Launch) (Z : State) (a0 : Array Value) (hw : HW Z a0) (ws : List Jvm.Cond) (o0 : Addr) (i_3 i_4 i_5 i_6 i_7 : Int32) (k_o0 : ClassId) (h0 : Heap) (n0 : Nat) (Z0 : n0 ≤ h0.size) (V_o0 : Arv Z h0 o0 k_o0 .byte 5 [(.int i_3), (.int i_4), (.int i_5), (.int i_6), (.int i_7)] z0) :
    MF l Z y21_copyOfRangeByte b24_ 5 (some (.array .byte)) ws ⟨1, 1, 2, 18⟩ #[(.ref o0), z0, (.int 2)] h0 (Q_r63_copyOfRangeByte Z o0 i_3 i_4 i_5 i_6 i_7 k_o0 h0 n0) := by
  refine own_body (plainFor_of_name pn_Arrays587) (ef_r63_copyOfRangeByte o0) (by decide) (by decide) ?_
  intro p e s m below meth c s₁ hx hby hml hown hnm hret hZ hh e0 X0
  have N0 := Fr.nil n0
  obtain ⟨_, T1, L1, X1, hQ1, st1⟩ := own_static X0 hx hZ hown (w106 hw) (w107 hw) (w101 hw) (w108 hw) (by decide) (r64_checkLength l Z a0 hw []  h0 n0 Z0) e0 (W := 0) (by decide) (g := (mkF m 2 #[vr o0, vi 0, vi 2, .unset, .unset] [(.int 2), z0])) rfl (by rw [hml]; rfl) (argsL := [z0, (.int 2)]) (rest := []) (lenOf pd_16 rfl) rfl rfl (own_wr rfl rfl) (hb hby d270)
  obtain ⟨rfl, N1q, e1⟩ := hQ1
  have N1 := Fr.app N0 N1q
  obtain ⟨T2, h2, k2, X2, e2, E2, A2, st2⟩ := newP (aty := .byte) X1 hx hZ (w23 hw) e1 (g := (mkF m 10 #[vr o0, vi 0, vi 2, vi 2, .unset] [(.int 2)])) rfl (hb hby d280) rfl (by decide) (cap := 2) (by decide) (by decide) (by decide) (by decide)
  obtain ⟨b2, g2⟩ : ∃ z, z = h0.size := ⟨_, rfl⟩
  rw [← g2] at A2 st2
  have ge_b2 : h0.size ≤ b2 := Nat.le_of_eq g2.symm
  have K2 := KL.ofE E2
  have V2 : Arv Z h2 b2 k2 .byte 2 [z0, z0] z0 := (Arv.new A2 (by decide)).pad (pad_rep [] z0 2)
  have f8 := (kArv K2 V_o0 na0)
  obtain ⟨_, T9, L9, X9, hQ9, st9⟩ := own_static X2 hx hZ hown (w109 hw) (w75 hw) (w72 hw) (w76 hw) (by decide) (r65_min l Z a0 hw []  h2 n0 (Nat.le_trans Z0 K2.1)) e2 (W := 4) (by decide) (g := (mkF m 24 #[vr o0, vi 0, vi 2, vi 2, vr b2] [(.int 2), (.int 5), z0, (.ref b2), z0, (.ref o0)])) rfl (by rw [hml]; rfl) (argsL := [(.int 5), (.int 2)]) (rest := [z0, (.ref b2), z0, (.ref o0)]) (lenOf pd_12 rfl) rfl rfl (own_wr rfl rfl) (hb hby d291)
  obtain ⟨rfl, N9q, e9⟩ := hQ9
  have N9 := Fr.app N1 N9q
  obtain ⟨T10, h10, L10, X10, e10, N10, Kp10, V10, st10⟩ := cpA X9 hx hZ hown (w110 hw) (w113 hw) (w111 hw) (w112 hw) e9 (us := [(.int i_3), (.int i_4)]) f8 V2 (Or.inl ⟨rfl, rfl⟩) (by decide) (by decide) (by decide) (by decide) (by decide) rfl (by decide) N9 (Nat.le_trans Z0 (Nat.le_trans (Nat.le_refl _) ge_b2)) (g := (mkF m 27 #[vr o0, vi 0, vi 2, vi 2, vr b2] [(.int 2), z0, (.ref b2), z0, (.ref o0)])) rfl (by rw [hml]; rfl) rfl (hb hby d293) (by decide) (W := 0) (by show 2 * 0 + _ ≤ _; exact Nat.le_of_eq rfl) (by decide)
  have K10 : KL h2 h10 [(b2, 0), (b2, 1)] := own_kcp Kp10 V2 (n := 2) rfl ⟨_, rfl⟩
  replace V10 : Arv Z h10 b2 k2 .byte 2 [(.int i_3), (.int i_4)] z0 := V10
  -- what was kept, from the start on
  have C0 := (KL.refl h0 []).trans K2 na0
  have C1 := C0.trans K10 (naO (Or.inr (Nat.le_trans (Nat.le_refl _) ge_b2)) (naO (Or.inr (Nat.le_trans (Nat.le_refl _) ge_b2)) na0))
  refine ⟨T10, _, some (.ref b2), X10, (fun h => by cases h <;> rfl), ?_, fun fs hr => ?_⟩
  · show Q_r63_copyOfRangeByte Z o0 i_3 i_4 i_5 i_6 i_7 k_o0 h0 n0 _ T10.heap _
    rw [e10]
    exact ⟨b2, k2, rfl, N10, C1, (Nat.le_trans (Nat.le_refl _) ge_b2), V10⟩
  · refine t_iloadN 1 X0.here hx (hb hby d268) rfl rfl ?_
    refine t_iloadN 2 X0.here hx (hb hby d269) rfl rfl ?_
    refine st1 _ ?_
    refine t_iloadN 6 X1.here hx (hb hby d275) rfl rfl ?_
    refine t_iloadN 7 X1.here hx (hb hby d276) rfl rfl ?_
    refine t_isub 8 (r := 2) X1.here hx (hb hby d277) (by decide : ((2 : Int32) - (0 : Int32)) = (2 : Int32)) rfl ?_
    refine t_istoreN (pc' := 9) (L' := #[vr o0, vi 0, vi 2, vi 2, .unset]) X1.here hx (hb hby d278) rfl rfl ?_
    refine t_iloadN 10 X1.here hx (hb hby d279) rfl rfl ?_
    refine st2 _ ?_
    refine t_astore (pc' := 14) (L' := #[vr o0, vi 0, vi 2, vi 2, vr b2]) X2.here hx (hb hby d281) rfl rfl rfl ?_
    refine t_aloadN 15 X2.here hx (hb hby d282) rfl rfl rfl ?_
    refine t_iloadN 16 X2.here hx (hb hby d283) rfl rfl ?_
    refine t_aload 18 X2.here hx (hb hby d284) rfl rfl rfl ?_
    refine t_iconst 19 (r := 0) X2.here hx (hb hby d285) (by decide) rfl ?_
    refine t_aloadN 20 X2.here hx (hb hby d286) rfl rfl rfl ?_
    refine own_arlen (pc' := 21) X2 hx hZ e2 f8 (hb hby d287) rfl ?_
    refine t_iloadN 22 X2.here hx (hb hby d288) rfl rfl ?_
    refine t_isub 23 (r := 5) X2.here hx (hb hby d289) (by decide : ((5 : Int32) - (0 : Int32)) = (5 : Int32)) rfl ?_
    refine t_iloadN 24 X2.here hx (hb hby d290) rfl rfl ?_
    refine st9 _ ?_
    refine st10 _ ?_
    refine t_aload 32 X10.here hx (hb hby d294) rfl rfl rfl ?_
    jvm_step X10.here [X10.here.top, hx, (hb hby d295), X10.method', hret, Value.isRef, FieldType.isReference]
    first | (intro acts; rw [hr _ acts rfl rfl rfl]) | rw [hr _ _ rfl rfl rfl]
    exact Steps.refl _
def Q_r62_copyOfRange (Z : State) (o0 : Addr) (i_1 i_2 i_3 i_4 i_5 : Int32) (k_o0 : ClassId) (h0 : Heap) (n0 : Nat) (v : Option Value) (h : Heap) (L : List Loc) : Prop := ∃ b2_6 : Addr, ∃ k2_6 : ClassId, v = some (.ref b2_6) ∧ Fr n0 L ∧ KL h0 h [] ∧ h0.size ≤ b2_6 ∧ Arv Z h b2_6 k2_6 .byte 2 [(.int i_1), (.int i_2)] z0
theorem ef_r62_copyOfRange (o0 : Addr) (m : MethodId) : entryFrame m #[(.ref o0), (.int 0), (.int 2)] 3 = mkF m 0 #[.val (.ref o0), .val (.int 0), .val (.int 2)] [] := by first | (simp [entryFrame, mkF, argsToLocals, Value.category]; done) | rfl
set_option maxRecDepth 65536 in
set_option maxHeartbeats 40000000 in
theorem r62_copyOfRange (l : Launch) (Z : State) (a0 : Array Value) (hw : HW Z a0) (ws : List Jvm.Cond) (o0 : Addr) (i_1 i_2 i_3 i_4 i_5 : Int32) (k_o0 : ClassId) (h0 : Heap) (n0 : Nat) (Z0 : n0 ≤ h0.size) (V_o0 : Arv Z h0 o0 k_o0 .byte 5 [(.int i_1), (.int i_2), (.int i_3), (.int i_4), (.int i_5)] z0) :
    MF l Z y22_copyOfRange b23_ 3 (some (.array .byte)) ws ⟨2, 1, 2, 34⟩ #[(.ref o0), z0, (.int 2)] h0 (Q_r62_copyOfRange Z o0 i_1 i_2 i_3 i_4 i_5 k_o0 h0 n0) := by
  refine own_body (plainFor_of_name pn_Arrays587) (ef_r62_copyOfRange o0) (by decide) (by decide) ?_
  intro p e s m below meth c s₁ hx hby hml hown hnm hret hZ hh e0 X0
  have N0 := Fr.nil n0
  obtain ⟨_, T6, L6, X6, hQ6, st6⟩ := own_static X0 hx hZ hown (w103 hw) (w104 hw) (w101 hw) (w105 hw) (by decide) (r63_copyOfRangeByte l Z a0 hw [] o0 i_1 i_2 i_3 i_4 i_5 k_o0 h0 n0 Z0 V_o0) e0 (W := 0) (by decide) (g := (mkF m 13 #[vr o0, vi 0, vi 2] [(.int 2), z0, (.ref o0)])) rfl (by rw [hml]; rfl) (argsL := [(.ref o0), z0, (.int 2)]) (rest := []) (lenOf pd_17 rfl) rfl rfl (own_wr rfl rfl) (hb hby d267)
  obtain ⟨b2_6, k2_6, rfl, N6q, K6, Q6_0, Q6_1⟩ := hQ6
  have N6 := Fr.app N0 N6q
  -- what was kept, from the start on
  have C0 := (KL.refl h0 []).trans K6 na0
  refine ⟨T6, _, some (.ref b2_6), X6, (fun h => by cases h <;> rfl), ?_, fun fs hr => ?_⟩
  · show Q_r62_copyOfRange Z o0 i_1 i_2 i_3 i_4 i_5 k_o0 h0 n0 _ T6.heap _
    exact ⟨b2_6, k2_6, rfl, N6, C0, (Nat.le_trans (Nat.le_refl _) Q6_0), Q6_1⟩
  · refine t_iloadN 1 X0.here hx (hb hby d258) rfl rfl ?_
    refine t_ifNo 4 X0.here hx (hb hby d259) (by decide) rfl ?_
    refine t_iloadN 5 X0.here hx (hb hby d260) rfl rfl ?_
    refine t_aloadN 6 X0.here hx (hb hby d261) rfl rfl rfl ?_
    refine own_arlen (pc' := 7) X0 hx hZ e0 V_o0 (hb hby d262) rfl ?_
    refine t_icmpNo 10 X0.here hx (hb hby d263) (by decide) rfl ?_
    refine t_aloadN 11 X0.here hx (hb hby d264) rfl rfl rfl ?_
    refine t_iloadN 12 X0.here hx (hb hby d265) rfl rfl ?_
    refine t_iloadN 13 X0.here hx (hb hby d266) rfl rfl ?_
    refine st6 _ ?_
    jvm_step X6.here [X6.here.top, hx, (hb hby d296), X6.method', hret, Value.isRef, FieldType.isReference]
    first | (intro acts; rw [hr _ acts rfl rfl rfl]) | rw [hr _ _ rfl rfl rfl]
    exact Steps.refl _
def Q_r61_newString (Z : State) (o0 : Addr) (i_2 i_3 i_4 i_5 i_6 : Int32) (k_o0 : ClassId) (h0 : Heap) (n0 : Nat) (v : Option Value) (h : Heap) (L : List Loc) : Prop := ∃ b1 : Addr, ∃ b2_6_7 : Addr, ∃ k2_6_7 : ClassId, v = some (.ref b1) ∧ Fr n0 L ∧ KL h0 h [] ∧ h0.size ≤ b1 ∧ h0.size ≤ b2_6_7 ∧ b1 ≠ b2_6_7 ∧ Ex0 Z h b1 ∧ Fd0 Z h b1 z0 ∧ Fd1 Z h b1 (.ref b2_6_7) ∧ Arv Z h b2_6_7 k2_6_7 .byte 2 [(.int i_2), (.int i_3)] z0
theorem ef_r61_newString (o0 : Addr) (m : MethodId) : entryFrame m #[(.ref o0), (.int 0), (.int 2)] 3 = mkF m 0 #[.val (.ref o0), .val (.int 0), .val (.int 2)] [] := by first | (simp [entryFrame, mkF, argsToLocals, Value.category]; done) | rfl
set_option maxRecDepth 65536 in
set_option maxHeartbeats 40000000 in
theorem r61_newString (l : Launch) (Z : State) (a0 : Array Value) (hw : HW Z a0) (ws : List Jvm.Cond) (o0 : Addr) (i_2 i_3 i_4 i_5 i_6 : Int32) (k_o0 : ClassId) (h0 : Heap) (n0 : Nat) (Z0 : n0 ≤ h0.size) (V_o0 : Arv Z h0 o0 k_o0 .byte 5 [(.int i_2), (.int i_3), (.int i_4), (.int i_5), (.int i_6)] z0) :
    MF l Z y24_newString b22_ 3 (some (.object "java/lang/String")) ws ⟨3, 2, 6, 50⟩ #[(.ref o0), z0, (.int 2)] h0 (Q_r61_newString Z o0 i_2 i_3 i_4 i_5 i_6 k_o0 h0 n0) := by
  refine own_body (plainFor_of_name pn_StringLatin1120) (ef_r61_newString o0) (by decide) (by decide) ?_
  intro p e s m below meth c s₁ hx hby hml hown hnm hret hZ hh e0 X0
  have N0 := Fr.nil n0
  obtain ⟨T1, h1, X1, e1, E1, A1, D1, -, st1⟩ := newO X0 hx hZ hown (w98 hw) (w6 hw) (w7 hw) e0 (g := (mkF m 7 #[vr o0, vi 0, vi 2] [])) rfl (hb hby d250) (by decide) (by decide)
  obtain ⟨b1, g1⟩ : ∃ z, z = h0.size := ⟨_, rfl⟩
  rw [← g1] at A1 D1 st1
  have ge_b1 : h0.size ≤ b1 := Nat.le_of_eq g1.symm
  have K1 := KL.ofE E1
  have F_b1_coder : Fd0 Z h1 b1 z0 := D1 (Or.inr (w31 hw)) (ty := .byte) (by decide)
  have F_b1_value : Fd1 Z h1 b1 .null := D1 (Or.inr (w33 hw)) (ty := (.array .byte)) (by decide)
  have f8 := (kArv K1 V_o0 na0)
  obtain ⟨_, T7, L7, X7, hQ7, st7⟩ := own_static X1 hx hZ hown (w99 hw) (w100 hw) (w101 hw) (w102 hw) (by decide) (r62_copyOfRange l Z a0 hw [] o0 i_2 i_3 i_4 i_5 i_6 k_o0 h1 n0 (Nat.le_trans Z0 K1.1) f8) e1 (W := 2) (by decide) (g := (mkF m 16 #[vr o0, vi 0, vi 2] [(.int 2), z0, (.ref o0), (.ref b1), (.ref b1)])) rfl (by rw [hml]; rfl) (argsL := [(.ref o0), z0, (.int 2)]) (rest := [(.ref b1), (.ref b1)]) (lenOf pd_17 rfl) rfl rfl (own_wr rfl rfl) (hb hby d257)
  obtain ⟨b2_6_7, k2_6_7, rfl, N7q, K7, Q7_0, Q7_1⟩ := hQ7
  have N7 := Fr.app N0 N7q
  have f11 := (kFld K7 F_b1_value nw0)
  have f12 := (kExa K7 A1)
  have f13 := (kFld K7 F_b1_coder nw0)
  have sz_0_2 := (Nat.le_trans K1.1 K7.1)
  obtain ⟨_, T10, L10, X10, hQ10, st10⟩ := own_init X7 hx hZ rfl hown (w114 hw) (w115 hw) (w7 hw) (w116 hw) (by decide) (r23__init_ l Z a0 hw [] b1 b2_6_7 T7.heap n0 (Nat.le_trans Z0 sz_0_2) f11 f12 (Nat.le_trans Z0 (Nat.le_trans (Nat.le_refl _) ge_b1)) f13) rfl (W := 1) (by decide) (g := (mkF m 20 #[vr o0, vi 0, vi 2] [z0, (.ref b2_6_7), (.ref b1), (.ref b1)])) rfl (by rw [hml]; rfl) (argsL := [(.ref b2_6_7), z0]) (rest := [(.ref b1)]) (lenOf pd_18 rfl) rfl rfl (own_wr rfl rfl) (hb hby d298)
  obtain ⟨rfl, N10q, K10, Q10_0, Q10_1⟩ := hQ10
  have N10 := Fr.app N7 N10q
  -- what was kept, from the start on
  have C0 := (KL.refl h0 []).trans K1 na0
  have C1 := C0.trans K7 na0
  have C2 := C1.trans K10 (naO (Or.inr (Nat.le_trans (Nat.le_refl _) ge_b1)) (naO (Or.inr (Nat.le_trans (Nat.le_refl _) ge_b1)) na0))
  have lt_b1 : b1 < h1.size := Exa.lt A1
  have f14 := (kExa K10 f12)
  have f15 := (kArv K10 Q7_1 (naN (lt_ne lt_b1 Q7_0) (naN (lt_ne lt_b1 Q7_0) na0)))
  refine ⟨T10, _, some (.ref b1), X10, (fun h => by cases h <;> rfl), ?_, fun fs hr => ?_⟩
  · show Q_r61_newString Z o0 i_2 i_3 i_4 i_5 i_6 k_o0 h0 n0 _ T10.heap _
    exact ⟨b1, b2_6_7, k2_6_7, rfl, N10, C2, (Nat.le_trans (Nat.le_refl _) ge_b1), (Nat.le_trans K1.1 Q7_0), (lt_ne lt_b1 Q7_0), f14, Q10_1, Q10_0, f15⟩
  · refine t_iloadN 1 X0.here hx (hb hby d248) rfl rfl ?_
    refine t_ifYes (pc := 1) 7 X0.here hx (hb hby d249) (by decide) (by decide) (by decide) ?_
    refine st1 _ ?_
    refine t_dup 11 X1.here hx (hb hby d251) rfl rfl ?_
    refine t_aloadN 12 X1.here hx (hb hby d252) rfl rfl rfl ?_
    refine t_iloadN 13 X1.here hx (hb hby d253) rfl rfl ?_
    refine t_iloadN 14 X1.here hx (hb hby d254) rfl rfl ?_
    refine t_iloadN 15 X1.here hx (hb hby d255) rfl rfl ?_
    refine t_iadd 16 (r := 2) X1.here hx (hb hby d256) (by decide : ((0 : Int32) + (2 : Int32)) = (2 : Int32)) rfl ?_
    refine st7 _ ?_
    refine t_iconst 20 (r := 0) X7.here hx (hb hby d297) (by decide) rfl ?_
    refine st10 _ ?_
    jvm_step X10.here [X10.here.top, hx, (hb hby d308), X10.method', hret, Value.isRef, FieldType.isReference]
    first | (intro acts; rw [hr _ acts rfl rfl rfl]) | rw [hr _ _ rfl rfl rfl]
    exact Steps.refl _
def Q_r60_substring (Z : State) (o0 o_1 : Addr) (i_2 i_3 i_4 i_5 i_6 : Int32) (k_o_1 : ClassId) (i_7 : Int32) (u_9 : Value) (h0 : Heap) (n0 : Nat) (v : Option Value) (h : Heap) (L : List Loc) : Prop := ∃ b1_13 : Addr, ∃ b2_6_7_13 : Addr, ∃ k2_6_7_13 : ClassId, v = some (.ref b1_13) ∧ Fr n0 L ∧ KL h0 h [] ∧ h0.size ≤ b1_13 ∧ h0.size ≤ b2_6_7_13 ∧ b1_13 ≠ b2_6_7_13 ∧ Ex0 Z h b1_13 ∧ Fd0 Z h b1_13 z0 ∧ Fd1 Z h b1_13 (.ref b2_6_7_13) ∧ Arv Z h b2_6_7_13 k2_6_7_13 .byte 2 [(.int i_2), (.int i_3)] z0
theorem ef_r60_substring (o0 : Addr) (m : MethodId) : entryFrame m #[(.ref o0), (.int 0), (.int 2)] 5 = mkF m 0 #[.val (.ref o0), .val (.int 0), .val (.int 2), .unset, .unset] [] := by first | (simp [entryFrame, mkF, argsToLocals, Value.category]; done) | rfl
set_option maxRecDepth 65536 in
set_option maxHeartbeats 40000000 in
theorem r60_substring (l : Launch) (Z : State) (a0 : Array Value) (hw : HW Z a0) (ws : List Jvm.Cond) (o0 o_1 : Addr) (i_2 i_3 i_4 i_5 i_6 : Int32) (k_o_1 : ClassId) (i_7 : Int32) (u_9 : Value) (h0 : Heap) (n0 : Nat) (Z0 : n0 ≤ h0.size) (E_o0 : Ex0 Z h0 o0) (F_o0_value : Fd1 Z h0 o0 (.ref o_1)) (V_o_1 : Arv Z h0 o_1 k_o_1 .byte 5 [(.int i_2), (.int i_3), (.int i_4), (.int i_5), (.int i_6)] z0) (S_COMPACT_STRINGS : SCS Z i_7) (F_o0_coder : Fd0 Z h0 o0 z0) (O0 : Old Z n0 h0) (hp0 : ¬ (i_7 = (0 : Int32))) (S_SIOOBE_FORMATTER : Sta Z Z.heap "jdk/internal/util/Preconditions" "SIOOBE_FORMATTER" "Ljava/util/function/BiFunction;" u_9) (hp1 : u_9.isRef = true) :
    MF l Z y25_substring b21_ 5 (some (.object "java/lang/String")) ws ⟨4, 2, 6, 64⟩ #[(.ref o0), z0, (.int 2)] h0 (Q_r60_substring Z o0 o_1 i_2 i_3 i_4 i_5 i_6 k_o_1 i_7 u_9 h0 n0) := by
  refine own_body (plainFor_of_name pn_String564) (ef_r60_substring o0) (by decide) (by decide) ?_
  intro p e s m below meth c s₁ hx hby hml hown hnm hret hZ hh e0 X0
  have N0 := Fr.nil n0
  obtain ⟨_, T8, L8, X8, hQ8, st8⟩ := own_virtual X0 hx hZ hown (w53 hw) (w54 hw) (notFace_of_selects (args := #[]) (mvT hZ (w56 hw))) (w56 hw) (w55 hw) (w7 hw) (w57 hw) (by decide) (r10_length l Z a0 hw [] o0 o_1 i_2 i_3 i_4 i_5 i_6 k_o_1 i_7 h0 n0 Z0 F_o0_value V_o_1 E_o0 S_COMPACT_STRINGS F_o0_coder O0 hp0) e0 E_o0 (W := 0) (by decide) (g := (mkF m 1 #[vr o0, vi 0, vi 2, .unset, .unset] [(.ref o0)])) rfl (by rw [hml]; rfl) (argsL := []) (rest := []) (lenOf pd_10 rfl) rfl rfl (own_wr rfl rfl) (hb hby d225)
  obtain ⟨rfl, N8q, e8⟩ := hQ8
  have N8 := Fr.app N0 N8q
  obtain ⟨_, T10, L10, X10, hQ10, st10⟩ := own_static X8 hx hZ hown (w87 hw) (w88 hw) (w7 hw) (w89 hw) (by decide) (r_checkBoundsBeginEnd l Z a0 hw [] (0 : Int32) (2 : Int32) (5 : Int32) u_9 h0 n0 Z0 hp1 S_SIOOBE_FORMATTER O0 (by decide) (by decide) (by decide)) e8 (W := 0) (by decide) (g := (mkF m 8 #[vr o0, vi 0, vi 2, vi 5, .unset] [(.int 5), (.int 2), z0])) rfl (by rw [hml]; rfl) (argsL := [z0, (.int 2), (.int 5)]) (rest := []) (lenOf pd_15 rfl) rfl rfl (own_wr rfl rfl) (hb hby d230)
  obtain ⟨rfl, N10q, e10⟩ := hQ10
  have N10 := Fr.app N8 N10q
  obtain ⟨_, T11, L11, X11, hQ11, st11⟩ := own_virtual X10 hx hZ hown (w48 hw) (w49 hw) (notFace_of_selects (args := #[]) (mvT hZ (w51 hw))) (w51 hw) (w50 hw) (w7 hw) (w52 hw) (by decide) (r9_isLatin1 l Z a0 hw [] o0 i_7 h0 n0 Z0 S_COMPACT_STRINGS O0 hp0 F_o0_coder) e10 E_o0 (W := 0) (by decide) (g := (mkF m 28 #[vr o0, vi 0, vi 2, vi 5, vi 2] [(.ref o0)])) rfl (by rw [hml]; rfl) (argsL := []) (rest := []) (lenOf pd_8 rfl) rfl rfl (own_wr rfl rfl) (hb hby d241)
  obtain ⟨rfl, N11q, e11⟩ := hQ11
  have N11 := Fr.app N10 N11q
  obtain ⟨T12, X12, e12, st12⟩ := getF X11 hx hZ hown (host := "") (Or.inl (w32 hw)) Via.refl e11 F_o0_value (g := (mkF m 35 #[vr o0, vi 0, vi 2, vi 5, vi 2] [(.ref o0)])) rfl rfl (hb hby d244)
  obtain ⟨_, T13, L13, X13, hQ13, st13⟩ := own_static X12 hx hZ hown (w95 hw) (w96 hw) (w65 hw) (w97 hw) (by decide) (r61_newString l Z a0 hw [] o_1 i_2 i_3 i_4 i_5 i_6 k_o_1 h0 n0 Z0 V_o_1) e12 (W := 0) (by decide) (g := (mkF m 41 #[vr o0, vi 0, vi 2, vi 5, vi 2] [(.int 2), z0, (.ref o_1)])) rfl (by rw [hml]; rfl) (argsL := [(.ref o_1), z0, (.int 2)]) (rest := []) (lenOf pd_19 rfl) rfl rfl (own_wr rfl rfl) (hb hby d247)
  obtain ⟨b1_13, b2_6_7_13, k2_6_7_13, rfl, N13q, K13, Q13_0, Q13_1, Q13_2, Q13_3, Q13_4, Q13_5, Q13_6⟩ := hQ13
  have N13 := Fr.app N11 N13q
  -- what was kept, from the start on
  have C0 := (KL.refl h0 []).trans K13 na0
  refine ⟨T13, _, some (.ref b1_13), X13, (fun h => by cases h <;> rfl), ?_, fun fs hr => ?_⟩
  · show Q_r60_substring Z o0 o_1 i_2 i_3 i_4 i_5 i_6 k_o_1 i_7 u_9 h0 n0 _ T13.heap _
    exact ⟨b1_13, b2_6_7_13, k2_6_7_13, rfl, N13, C0, (Nat.le_trans (Nat.le_refl _) Q13_0), (Nat.le_trans (Nat.le_refl _) Q13_1), Q13_2, Q13_3, Q13_4, Q13_5, Q13_6⟩
  · refine t_aloadN 1 X0.here hx (hb hby d224) rfl rfl rfl ?_
    refine st8 _ ?_
    refine t_istoreN (pc' := 5) (L' := #[vr o0, vi 0, vi 2, vi 5, .unset]) X8.here hx (hb hby d226) rfl rfl ?_
    refine t_iloadN 6 X8.here hx (hb hby d227) rfl rfl ?_
    refine t_iloadN 7 X8.here hx (hb hby d228) rfl rfl ?_
    refine t_iloadN 8 X8.here hx (hb hby d229) rfl rfl ?_
    refine st10 _ ?_
    refine t_iloadN 12 X10.here hx (hb hby d231) rfl rfl ?_
    refine t_ifNo 15 X10.here hx (hb hby d232) (by decide) rfl ?_
    refine t_iloadN 16 X10.here hx (hb hby d233) rfl rfl ?_
    refine t_iloadN 17 X10.here hx (hb hby d234) rfl rfl ?_
    refine t_icmpYes (pc := 17) 22 X10.here hx (hb hby d235) (by decide) (by decide) (by decide) ?_
    refine t_iloadN 23 X10.here hx (hb hby d236) rfl rfl ?_
    refine t_iloadN 24 X10.here hx (hb hby d237) rfl rfl ?_
    refine t_isub 25 (r := 2) X10.here hx (hb hby d238) (by decide : ((2 : Int32) - (0 : Int32)) = (2 : Int32)) rfl ?_
    refine t_istore (pc' := 27) (L' := #[vr o0, vi 0, vi 2, vi 5, vi 2]) X10.here hx (hb hby d239) rfl rfl ?_
    refine t_aloadN 28 X10.here hx (hb hby d240) rfl rfl rfl ?_
    refine st11 _ ?_
    refine t_ifNo 34 X11.here hx (hb hby d242) (by decide) rfl ?_
    refine t_aloadN 35 X11.here hx (hb hby d243) rfl rfl rfl ?_
    refine st12 _ ?_
    refine t_iloadN 39 X12.here hx (hb hby d245) rfl rfl ?_
    refine t_iload 41 X12.here hx (hb hby d246) rfl rfl ?_
    refine st13 _ ?_
    refine t_goto (pc := 44) 57 X13.here hx (hb hby d309) (by decide) (by decide) ?_
    jvm_step X13.here [X13.here.top, hx, (hb hby d310), X13.method', hret, Value.isRef, FieldType.isReference]
    first | (intro acts; rw [hr _ acts rfl rfl rfl]) | rw [hr _ _ rfl rfl rfl]
    exact Steps.refl _
def Q_r71_checkLength (Z : State)  (h0 : Heap) (n0 : Nat) (v : Option Value) (h : Heap) (L : List Loc) : Prop := v = none ∧ Fr n0 L ∧ h = h0
theorem ef_r71_checkLength (m : MethodId) : entryFrame m #[(.int 3), (.int 5)] 2 = mkF m 0 #[.val (.int 3), .val (.int 5)] [] := by first | (simp [entryFrame, mkF, argsToLocals, Value.category]; done) | rfl
set_option maxRecDepth 65536 in
set_option maxHeartbeats 40000000 in
theorem r71_checkLength (l : Launch) (Z : State) (a0 : Array Value) (hw : HW Z a0) (ws : List Jvm.Cond)  (h0 : Heap) (n0 : Nat) (Z0 : n0 ≤ h0.size) :
    MF l Z y20_checkLength b25_ 2 none ws ⟨0, 0, 0, 0⟩ #[(.int 3), (.int 5)] h0 (Q_r71_checkLength Z  h0 n0) := by
  refine own_body (plainFor_of_name pn_Arrays587) (ef_r71_checkLength) (by decide) (by decide) ?_
  intro p e s m below meth c s₁ hx hby hml hown hnm hret hZ hh e0 X0
  have N0 := Fr.nil n0
  refine ⟨s₁, _, none, X0, (fun h => by cases h <;> rfl), ?_, fun fs hr => ?_⟩
  · show Q_r71_checkLength Z  h0 n0 _ s₁.heap _
    rw [e0]
    exact ⟨rfl, N0, rfl⟩
  · refine t_iloadN 1 X0.here hx (hb hby d271) rfl rfl ?_
    refine t_iloadN 2 X0.here hx (hb hby d272) rfl rfl ?_
    refine t_icmpYes (pc := 2) 37 X0.here hx (hb hby d273) (by decide) (by decide) (by decide) ?_
    exact X0.returnOut hx hret (hb hby d274) hr
def Q_r72_min (Z : State)  (h0 : Heap) (n0 : Nat) (v : Option Value) (h : Heap) (L : List Loc) : Prop := v = some (.int 2) ∧ Fr n0 L ∧ h = h0
theorem ef_r72_min (m : MethodId) : entryFrame m #[(.int 2), (.int 2)] 2 = mkF m 0 #[.val (.int 2), .val (.int 2)] [] := by first | (simp [entryFrame, mkF, argsToLocals, Value.category]; done) | rfl
set_option maxRecDepth 65536 in
set_option maxHeartbeats 40000000 in
theorem r72_min (l : Launch) (Z : State) (a0 : Array Value) (hw : HW Z a0) (ws : List Jvm.Cond)  (h0 : Heap) (n0 : Nat) (Z0 : n0 ≤ h0.size) :
    MF l Z y15_min b19_ 2 (some .int) ws ⟨0, 0, 0, 0⟩ #[(.int 2), (.int 2)] h0 (Q_r72_min Z  h0 n0) := by
  refine own_body (Jvm.Free.JP.mathPlain rfl (by decide +kernel)) (ef_r72_min) (by decide) (by decide) ?_
  intro p e s m below meth c s₁ hx hby hml hown hnm hret hZ hh e0 X0
  have N0 := Fr.nil n0
  refine ⟨s₁, _, some (.int 2), X0, (fun h => by cases h <;> rfl), ?_, fun fs hr => ?_⟩
  · show Q_r72_min Z  h0 n0 _ s₁.heap _
    rw [e0]
    exact ⟨rfl, N0, rfl⟩
  · refine t_iloadN 1 X0.here hx (hb hby d179) rfl rfl ?_
    refine t_iloadN 2 X0.here hx (hb hby d180) rfl rfl ?_
    refine t_icmpNo 5 X0.here hx (hb hby d181) (by decide) rfl ?_
    refine t_iloadN 6 X0.here hx (hb hby d182) rfl rfl ?_
    refine t_goto (pc := 6) 10 X0.here hx (hb hby d183) (by decide) (by decide) ?_
    exact retI X0 hx hret (hb hby d184) hr
def Q_r70_copyOfRangeByte (Z : State) (o0 : Addr) (i_3 i_4 i_5 i_6 i_7 : Int32) (k_o0 : ClassId) (h0 : Heap) (n0 : Nat) (v : Option Value) (h : Heap) (L : List Loc) : Prop := ∃ b2 : Addr, ∃ k2 : ClassId, v = some (.ref b2) ∧ Fr n0 L ∧ KL h0 h [] ∧ h0.size ≤ b2 ∧ Arv Z h b2 k2 .byte 2 [(.int i_6), (.int i_7)] z0
theorem ef_r70_copyOfRangeByte (o0 : Addr) (m : MethodId) : entryFrame m #[(.ref o0), (.int 3), (.int 5)] 5 = mkF m 0 #[.val (.ref o0), .val (.int 3), .val (.int 5), .unset, .unset] [] := by first | (simp [entryFrame, mkF, argsToLocals, Value.category]; done) | rfl
set_option maxRecDepth 65536 in
set_option maxHeartbeats 40000000 in
theorem r70_copyOfRangeByte (l : Launch) (Z : State) (a0 : Array Value) (hw : HW Z a0) (ws : List Jvm.Cond) (o0 : Addr) (i_3 i_4 i_5 i_6 i_7 : Int32) (k_o0 : ClassId) (h0 : Heap) (n0 : Nat) (Z0 : n0 ≤ h0.size) (V_o0 : Arv Z h0 o0 k_o0 .byte 5 [(.int i_3), (.int i_4), (.int i_5), (.int i_6), (.int i_7)] z0) :
    MF l Z y21_copyOfRangeByte b24_ 5 (some (.array .byte)) ws ⟨1, 1, 2, 18⟩ #[(.ref o0), (.int 3), (.int 5)] h0 (Q_r70_copyOfRangeByte Z o0 i_3 i_4 i_5 i_6 i_7 k_o0 h0 n0) := by
  refine own_body (plainFor_of_name pn_Arrays587) (ef_r70_copyOfRangeByte o0) (by decide) (by decide) ?_
  intro p e s m below meth c s₁ hx hby hml hown hnm hret hZ hh e0 X0
  have N0 := Fr.nil n0
  obtain ⟨_, T1, L1, X1, hQ1, st1⟩ := own_static X0 hx hZ hown (w106 hw) (w107 hw) (w101 hw) (w108 hw) (by decide) (r71_checkLength l Z a0 hw []  h0 n0 Z0) e0 (W := 0) (by decide) (g := (mkF m 2 #[vr o0, vi 3, vi 5, .unset, .unset] [(.int 5), (.int 3)])) rfl (by rw [hml]; rfl) (argsL := [(.int 3), (.int 5)]) (rest := []) (lenOf pd_16 rfl) rfl rfl (own_wr rfl rfl) (hb hby d270)
  obtain ⟨rfl, N1q, e1⟩ := hQ1
  have N1 := Fr.app N0 N1q
  obtain ⟨T2, h2, k2, X2, e2, E2, A2, st2⟩ := newP (aty := .byte) X1 hx hZ (w23 hw) e1 (g := (mkF m 10 #[vr o0, vi 3, vi 5, vi 2, .unset] [(.int 2)])) rfl (hb hby d280) rfl (by decide) (cap := 2) (by decide) (by decide) (by decide) (by decide)
  obtain ⟨b2, g2⟩ : ∃ z, z = h0.size := ⟨_, rfl⟩
  rw [← g2] at A2 st2
  have ge_b2 : h0.size ≤ b2 := Nat.le_of_eq g2.symm
  have K2 := KL.ofE E2
  have V2 : Arv Z h2 b2 k2 .byte 2 [z0, z0] z0 := (Arv.new A2 (by decide)).pad (pad_rep [] z0 2)
  have f8 := (kArv K2 V_o0 na0)
  obtain ⟨_, T9, L9, X9, hQ9, st9⟩ := own_static X2 hx hZ hown (w109 hw) (w75 hw) (w72 hw) (w76 hw) (by decide) (r72_min l Z a0 hw []  h2 n0 (Nat.le_trans Z0 K2.1)) e2 (W := 4) (by decide) (g := (mkF m 24 #[vr o0, vi 3, vi 5, vi 2, vr b2] [(.int 2), (.int 2), z0, (.ref b2), (.int 3), (.ref o0)])) rfl (by rw [hml]; rfl) (argsL := [(.int 2), (.int 2)]) (rest := [z0, (.ref b2), (.int 3), (.ref o0)]) (lenOf pd_12 rfl) rfl rfl (own_wr rfl rfl) (hb hby d291)
  obtain ⟨rfl, N9q, e9⟩ := hQ9
  have N9 := Fr.app N1 N9q
  obtain ⟨T10, h10, L10, X10, e10, N10, Kp10, V10, st10⟩ := cpA X9 hx hZ hown (w110 hw) (w113 hw) (w111 hw) (w112 hw) e9 (us := [(.int i_6), (.int i_7)]) f8 V2 (Or.inl ⟨rfl, rfl⟩) (by decide) (by decide) (by decide) (by decide) (by decide) rfl (by decide) N9 (Nat.le_trans Z0 (Nat.le_trans (Nat.le_refl _) ge_b2)) (g := (mkF m 27 #[vr o0, vi 3, vi 5, vi 2, vr b2] [(.int 2), z0, (.ref b2), (.int 3), (.ref o0)])) rfl (by rw [hml]; rfl) rfl (hb hby d293) (by decide) (W := 0) (by show 2 * 0 + _ ≤ _; exact Nat.le_of_eq rfl) (by decide)
  have K10 : KL h2 h10 [(b2, 0), (b2, 1)] := own_kcp Kp10 V2 (n := 2) rfl ⟨_, rfl⟩
  replace V10 : Arv Z h10 b2 k2 .byte 2 [(.int i_6), (.int i_7)] z0 := V10
  -- what was kept, from the start on
  have C0 := (KL.refl h0 []).trans K2 na0
  have C1 := C0.trans K10 (naO (Or.inr (Nat.le_trans (Nat.le_refl _) ge_b2)) (naO (Or.inr (Nat.le_trans (Nat.le_refl _) ge_b2)) na0))
  refine ⟨T10, _, some (.ref b2), X10, (fun h => by cases h <;> rfl), ?_, fun fs hr => ?_⟩
  · show Q_r70_copyOfRangeByte Z o0 i_3 i_4 i_5 i_6 i_7 k_o0 h0 n0 _ T10.heap _
    rw [e10]
    exact ⟨b2, k2, rfl, N10, C1, (Nat.le_trans (Nat.le_refl _) ge_b2), V10⟩
  · refine t_iloadN 1 X0.here hx (hb hby d268) rfl rfl ?_
    refine t_iloadN 2 X0.here hx (hb hby d269) rfl rfl ?_
    refine st1 _ ?_
    refine t_iloadN 6 X1.here hx (hb hby d275) rfl rfl ?_
    refine t_iloadN 7 X1.here hx (hb hby d276) rfl rfl ?_
    refine t_isub 8 (r := 2) X1.here hx (hb hby d277) (by decide : ((5 : Int32) - (3 : Int32)) = (2 : Int32)) rfl ?_
    refine t_istoreN (pc' := 9) (L' := #[vr o0, vi 3, vi 5, vi 2, .unset]) X1.here hx (hb hby d278) rfl rfl ?_
    refine t_iloadN 10 X1.here hx (hb hby d279) rfl rfl ?_
    refine st2 _ ?_
    refine t_astore (pc' := 14) (L' := #[vr o0, vi 3, vi 5, vi 2, vr b2]) X2.here hx (hb hby d281) rfl rfl rfl ?_
    refine t_aloadN 15 X2.here hx (hb hby d282) rfl rfl rfl ?_
    refine t_iloadN 16 X2.here hx (hb hby d283) rfl rfl ?_
    refine t_aload 18 X2.here hx (hb hby d284) rfl rfl rfl ?_
    refine t_iconst 19 (r := 0) X2.here hx (hb hby d285) (by decide) rfl ?_
    refine t_aloadN 20 X2.here hx (hb hby d286) rfl rfl rfl ?_
    refine own_arlen (pc' := 21) X2 hx hZ e2 f8 (hb hby d287) rfl ?_
    refine t_iloadN 22 X2.here hx (hb hby d288) rfl rfl ?_
    refine t_isub 23 (r := 2) X2.here hx (hb hby d289) (by decide : ((5 : Int32) - (3 : Int32)) = (2 : Int32)) rfl ?_
    refine t_iloadN 24 X2.here hx (hb hby d290) rfl rfl ?_
    refine st9 _ ?_
    refine st10 _ ?_
    refine t_aload 32 X10.here hx (hb hby d294) rfl rfl rfl ?_
    jvm_step X10.here [X10.here.top, hx, (hb hby d295), X10.method', hret, Value.isRef, FieldType.isReference]
    first | (intro acts; rw [hr _ acts rfl rfl rfl]) | rw [hr _ _ rfl rfl rfl]
    exact Steps.refl _
def Q_r69_copyOfRange (Z : State) (o0 : Addr) (i_1 i_2 i_3 i_4 i_5 : Int32) (k_o0 : ClassId) (h0 : Heap) (n0 : Nat) (v : Option Value) (h : Heap) (L : List Loc) : Prop := ∃ b2_6 : Addr, ∃ k2_6 : ClassId, v = some (.ref b2_6) ∧ Fr n0 L ∧ KL h0 h [] ∧ h0.size ≤ b2_6 ∧ Arv Z h b2_6 k2_6 .byte 2 [(.int i_4), (.int i_5)] z0
theorem ef_r69_copyOfRange (o0 : Addr) (m : MethodId) : entryFrame m #[(.ref o0), (.int 3), (.int 5)] 3 = mkF m 0 #[.val (.ref o0), .val (.int 3), .val (.int 5)] [] := by first | (simp [entryFrame, mkF, argsToLocals, Value.category]; done) | rfl
set_option maxRecDepth 65536 in
set_option maxHeartbeats 40000000 in
theorem r69_copyOfRange (l : Launch) (Z : State) (a0 : Array Value) (hw : HW Z a0) (ws : List Jvm.Cond) (o0 : Addr) (i_1 i_2 i_3 i_4 i_5 : Int32) (k_o0 : ClassId) (h0 : Heap) (n0 : Nat) (Z0 : n0 ≤ h0.size) (V_o0 : Arv Z h0 o0 k_o0 .byte 5 [(.int i_1), (.int i_2), (.int i_3), (.int i_4), (.int i_5)] z0) :
    MF l Z y22_copyOfRange b23_ 3 (some (.array .byte)) ws ⟨2, 1, 2, 34⟩ #[(.ref o0), (.int 3), (.int 5)] h0 (Q_r69_copyOfRange Z o0 i_1 i_2 i_3 i_4 i_5 k_o0 h0 n0) := by
  refine own_body (plainFor_of_name pn_Arrays587) (ef_r69_copyOfRange o0) (by decide) (by decide) ?_
  intro p e s m below meth c s₁ hx hby hml hown hnm hret hZ hh e0 X0
  have N0 := Fr.nil n0
  obtain ⟨_, T6, L6, X6, hQ6, st6⟩ := own_static X0 hx hZ hown (w103 hw) (w104 hw) (w101 hw) (w105 hw) (by decide) (r70_copyOfRangeByte l Z a0 hw [] o0 i_1 i_2 i_3 i_4 i_5 k_o0 h0 n0 Z0 V_o0) e0 (W := 0) (by decide) (g := (mkF m 13 #[vr o0, vi 3, vi 5] [(.int 5), (.int 3), (.ref o0)])) rfl (by rw [hml]; rfl) (argsL := [(.ref o0), (.int 3), (.int 5)]) (rest := []) (lenOf pd_17 rfl) rfl rfl (own_wr rfl rfl) (hb hby d267)
  obtain ⟨b2_6, k2_6, rfl, N6q, K6, Q6_0, Q6_1⟩ := hQ6
  have N6 := Fr.app N0 N6q
  -- what was kept, from the start on
  have C0 := (KL.refl h0 []).trans K6 na0
  refine ⟨T6, _, some (.ref b2_6), X6, (fun h => by cases h <;> rfl), ?_, fun fs hr => ?_⟩
  · show Q_r69_copyOfRange Z o0 i_1 i_2 i_3 i_4 i_5 k_o0 h0 n0 _ T6.heap _
    exact ⟨b2_6, k2_6, rfl, N6, C0, (Nat.le_trans (Nat.le_refl _) Q6_0), Q6_1⟩
  · refine t_iloadN 1 X0.here hx (hb hby d258) rfl rfl ?_
    refine t_ifYes (pc := 1) 10 X0.here hx (hb hby d259) (by decide) (by decide) (by decide) ?_
    refine t_aloadN 11 X0.here hx (hb hby d264) rfl rfl rfl ?_
    refine t_iloadN 12 X0.here hx (hb hby d265) rfl rfl ?_
    refine t_iloadN 13 X0.here hx (hb hby d266) rfl rfl ?_
    refine st6 _ ?_
    jvm_step X6.here [X6.here.top, hx, (hb hby d296), X6.method', hret, Value.isRef, FieldType.isReference]
    first | (intro acts; rw [hr _ acts rfl rfl rfl]) | rw [hr _ _ rfl rfl rfl]
    exact Steps.refl _
def Q_r68_newString (Z : State) (o0 : Addr) (i_2 i_3 i_4 i_5 i_6 : Int32) (k_o0 : ClassId) (h0 : Heap) (n0 : Nat) (v : Option Value) (h : Heap) (L : List Loc) : Prop := ∃ b1 : Addr, ∃ b2_6_7 : Addr, ∃ k2_6_7 : ClassId, v = some (.ref b1) ∧ Fr n0 L ∧ KL h0 h [] ∧ h0.size ≤ b1 ∧ h0.size ≤ b2_6_7 ∧ b1 ≠ b2_6_7 ∧ Ex0 Z h b1 ∧ Fd0 Z h b1 z0 ∧ Fd1 Z h b1 (.ref b2_6_7) ∧ Arv Z h b2_6_7 k2_6_7 .byte 2 [(.int i_5), (.int i_6)] z0
theorem ef_r68_newString (o0 : Addr) (m : MethodId) : entryFrame m #[(.ref o0), (.int 3), (.int 2)] 3 = mkF m 0 #[.val (.ref o0), .val (.int 3), .val (.int 2)] [] := by first | (simp [entryFrame, mkF, argsToLocals, Value.category]; done) | rfl
set_option maxRecDepth 65536 in
set_option maxHeartbeats 40000000 in
theorem r68_newString (l : Launch) (Z : State) (a0 : Array Value) (hw : HW Z a0) (ws : List Jvm.Cond) (o0 : Addr) (i_2 i_3 i_4 i_5 i_6 : Int32) (k_o0 : ClassId) (h0 : Heap) (n0 : Nat) (Z0 : n0 ≤ h0.size) (V_o0 : Arv Z h0 o0 k_o0 .byte 5 [(.int i_2), (.int i_3), (.int i_4), (.int i_5), (.int i_6)] z0) :
    MF l Z y24_newString b22_ 3 (some (.object "java/lang/String")) ws ⟨3, 2, 6, 50⟩ #[(.ref o0), (.int 3), (.int 2)] h0 (Q_r68_newString Z o0 i_2 i_3 i_4 i_5 i_6 k_o0 h0 n0) := by
  refine own_body (plainFor_of_name pn_StringLatin1120) (ef_r68_newString o0) (by decide) (by decide) ?_
  intro p e s m below meth c s₁ hx hby hml hown hnm hret hZ hh e0 X0
  have N0 := Fr.nil n0
  obtain ⟨T1, h1, X1, e1, E1, A1, D1, -, st1⟩ := newO X0 hx hZ hown (w98 hw) (w6 hw) (w7 hw) e0 (g := (mkF m 7 #[vr o0, vi 3, vi 2] [])) rfl (hb hby d250) (by decide) (by decide)
  obtain ⟨b1, g1⟩ : ∃ z, z = h0.size := ⟨_, rfl⟩
  rw [← g1] at A1 D1 st1
  have ge_b1 : h0.size ≤ b1 := Nat.le_of_eq g1.symm
  have K1 := KL.ofE E1
  have F_b1_coder : Fd0 Z h1 b1 z0 := D1 (Or.inr (w31 hw)) (ty := .byte) (by decide)
  have F_b1_value : Fd1 Z h1 b1 .null := D1 (Or.inr (w33 hw)) (ty := (.array .byte)) (by decide)
  have f8 := (kArv K1 V_o0 na0)
  obtain ⟨_, T7, L7, X7, hQ7, st7⟩ := own_static X1 hx hZ hown (w99 hw) (w100 hw) (w101 hw) (w102 hw) (by decide) (r69_copyOfRange l Z a0 hw [] o0 i_2 i_3 i_4 i_5 i_6 k_o0 h1 n0 (Nat.le_trans Z0 K1.1) f8) e1 (W := 2) (by decide) (g := (mkF m 16 #[vr o0, vi 3, vi 2] [(.int 5), (.int 3), (.ref o0), (.ref b1), (.ref b1)])) rfl (by rw [hml]; rfl) (argsL := [(.ref o0), (.int 3), (.int 5)]) (rest := [(.ref b1), (.ref b1)]) (lenOf pd_17 rfl) rfl rfl (own_wr rfl rfl) (hb hby d257)
  obtain ⟨b2_6_7, k2_6_7, rfl, N7q, K7, Q7_0, Q7_1⟩ := hQ7
  have N7 := Fr.app N0 N7q
  have f11 := (kFld K7 F_b1_value nw0)
  have f12 := (kExa K7 A1)
  have f13 := (kFld K7 F_b1_coder nw0)
  have sz_0_2 := (Nat.le_trans K1.1 K7.1)
  obtain ⟨_, T10, L10, X10, hQ10, st10⟩ := own_init X7 hx hZ rfl hown (w114 hw) (w115 hw) (w7 hw) (w116 hw) (by decide) (r23__init_ l Z a0 hw [] b1 b2_6_7 T7.heap n0 (Nat.le_trans Z0 sz_0_2) f11 f12 (Nat.le_trans Z0 (Nat.le_trans (Nat.le_refl _) ge_b1)) f13) rfl (W := 1) (by decide) (g := (mkF m 20 #[vr o0, vi 3, vi 2] [z0, (.ref b2_6_7), (.ref b1), (.ref b1)])) rfl (by rw [hml]; rfl) (argsL := [(.ref b2_6_7), z0]) (rest := [(.ref b1)]) (lenOf pd_18 rfl) rfl rfl (own_wr rfl rfl) (hb hby d298)
  obtain ⟨rfl, N10q, K10, Q10_0, Q10_1⟩ := hQ10
  have N10 := Fr.app N7 N10q
  -- what was kept, from the start on
  have C0 := (KL.refl h0 []).trans K1 na0
  have C1 := C0.trans K7 na0
  have C2 := C1.trans K10 (naO (Or.inr (Nat.le_trans (Nat.le_refl _) ge_b1)) (naO (Or.inr (Nat.le_trans (Nat.le_refl _) ge_b1)) na0))
  have lt_b1 : b1 < h1.size := Exa.lt A1
  have f14 := (kExa K10 f12)
  have f15 := (kArv K10 Q7_1 (naN (lt_ne lt_b1 Q7_0) (naN (lt_ne lt_b1 Q7_0) na0)))
  refine ⟨T10, _, some (.ref b1), X10, (fun h => by cases h <;> rfl), ?_, fun fs hr => ?_⟩
  · show Q_r68_newString Z o0 i_2 i_3 i_4 i_5 i_6 k_o0 h0 n0 _ T10.heap _
    exact ⟨b1, b2_6_7, k2_6_7, rfl, N10, C2, (Nat.le_trans (Nat.le_refl _) ge_b1), (Nat.le_trans K1.1 Q7_0), (lt_ne lt_b1 Q7_0), f14, Q10_1, Q10_0, f15⟩
  · refine t_iloadN 1 X0.here hx (hb hby d248) rfl rfl ?_
    refine t_ifYes (pc := 1) 7 X0.here hx (hb hby d249) (by decide) (by decide) (by decide) ?_
    refine st1 _ ?_
    refine t_dup 11 X1.here hx (hb hby d251) rfl rfl ?_
    refine t_aloadN 12 X1.here hx (hb hby d252) rfl rfl rfl ?_
    refine t_iloadN 13 X1.here hx (hb hby d253) rfl rfl ?_
    refine t_iloadN 14 X1.here hx (hb hby d254) rfl rfl ?_
    refine t_iloadN 15 X1.here hx (hb hby d255) rfl rfl ?_
    refine t_iadd 16 (r := 5) X1.here hx (hb hby d256) (by decide : ((3 : Int32) + (2 : Int32)) = (5 : Int32)) rfl ?_
    refine st7 _ ?_
    refine t_iconst 20 (r := 0) X7.here hx (hb hby d297) (by decide) rfl ?_
    refine st10 _ ?_
    jvm_step X10.here [X10.here.top, hx, (hb hby d308), X10.method', hret, Value.isRef, FieldType.isReference]
    first | (intro acts; rw [hr _ acts rfl rfl rfl]) | rw [hr _ _ rfl rfl rfl]
    exact Steps.refl _
def Q_r67_substring (Z : State) (o0 o_1 : Addr) (i_2 i_3 i_4 i_5 i_6 : Int32) (k_o_1 : ClassId) (i_7 : Int32) (u_9 : Value) (h0 : Heap) (n0 : Nat) (v : Option Value) (h : Heap) (L : List Loc) : Prop := ∃ b1_13 : Addr, ∃ b2_6_7_13 : Addr, ∃ k2_6_7_13 : ClassId, v = some (.ref b1_13) ∧ Fr n0 L ∧ KL h0 h [] ∧ h0.size ≤ b1_13 ∧ h0.size ≤ b2_6_7_13 ∧ b1_13 ≠ b2_6_7_13 ∧ Ex0 Z h b1_13 ∧ Fd0 Z h b1_13 z0 ∧ Fd1 Z h b1_13 (.ref b2_6_7_13) ∧ Arv Z h b2_6_7_13 k2_6_7_13 .byte 2 [(.int i_5), (.int i_6)] z0
theorem ef_r67_substring (o0 : Addr) (m : MethodId) : entryFrame m #[(.ref o0), (.int 3), (.int 5)] 5 = mkF m 0 #[.val (.ref o0), .val (.int 3), .val (.int 5), .unset, .unset] [] := by first | (simp [entryFrame, mkF, argsToLocals, Value.category]; done) | rfl
set_option maxRecDepth 65536 in
set_option maxHeartbeats 40000000 in
theorem r67_substring (l : Launch) (Z : State) (a0 : Array Value) (hw : HW Z a0) (ws : List Jvm.Cond) (o0 o_1 : Addr) (i_2 i_3 i_4 i_5 i_6 : Int32) (k_o_1 : ClassId) (i_7 : Int32) (u_9 : Value) (h0 : Heap) (n0 : Nat) (Z0 : n0 ≤ h0.size) (E_o0 : Ex0 Z h0 o0) (F_o0_value : Fd1 Z h0 o0 (.ref o_1)) (V_o_1 : Arv Z h0 o_1 k_o_1 .byte 5 [(.int i_2), (.int i_3), (.int i_4), (.int i_5), (.int i_6)] z0) (S_COMPACT_STRINGS : SCS Z i_7) (F_o0_coder : Fd0 Z h0 o0 z0) (O0 : Old Z n0 h0) (hp0 : ¬ (i_7 = (0 : Int32))) (S_SIOOBE_FORMATTER : Sta Z Z.heap "jdk/internal/util/Preconditions" "SIOOBE_FORMATTER" "Ljava/util/function/BiFunction;" u_9) (hp1 : u_9.isRef = true) :
    MF l Z y25_substring b21_ 5 (some (.object "java/lang/String")) ws ⟨4, 2, 6, 64⟩ #[(.ref o0), (.int 3), (.int 5)] h0 (Q_r67_substring Z o0 o_1 i_2 i_3 i_4 i_5 i_6 k_o_1 i_7 u_9 h0 n0) := by
  refine own_body (plainFor_of_name pn_String564) (ef_r67_substring o0) (by decide) (by decide) ?_
  intro p e s m below meth c s₁ hx hby hml hown hnm hret hZ hh e0 X0
  have N0 := Fr.nil n0
  obtain ⟨_, T8, L8, X8, hQ8, st8⟩ := own_virtual X0 hx hZ hown (w53 hw) (w54 hw) (notFace_of_selects (args := #[]) (mvT hZ (w56 hw))) (w56 hw) (w55 hw) (w7 hw) (w57 hw) (by decide) (r10_length l Z a0 hw [] o0 o_1 i_2 i_3 i_4 i_5 i_6 k_o_1 i_7 h0 n0 Z0 F_o0_value V_o_1 E_o0 S_COMPACT_STRINGS F_o0_coder O0 hp0) e0 E_o0 (W := 0) (by decide) (g := (mkF m 1 #[vr o0, vi 3, vi 5, .unset, .unset] [(.ref o0)])) rfl (by rw [hml]; rfl) (argsL := []) (rest := []) (lenOf pd_10 rfl) rfl rfl (own_wr rfl rfl) (hb hby d225)
  obtain ⟨rfl, N8q, e8⟩ := hQ8
  have N8 := Fr.app N0 N8q
  obtain ⟨_, T10, L10, X10, hQ10, st10⟩ := own_static X8 hx hZ hown (w87 hw) (w88 hw) (w7 hw) (w89 hw) (by decide) (r_checkBoundsBeginEnd l Z a0 hw [] (3 : Int32) (5 : Int32) (5 : Int32) u_9 h0 n0 Z0 hp1 S_SIOOBE_FORMATTER O0 (by decide) (by decide) (by decide)) e8 (W := 0) (by decide) (g := (mkF m 8 #[vr o0, vi 3, vi 5, vi 5, .unset] [(.int 5), (.int 5), (.int 3)])) rfl (by rw [hml]; rfl) (argsL := [(.int 3), (.int 5), (.int 5)]) (rest := []) (lenOf pd_15 rfl) rfl rfl (own_wr rfl rfl) (hb hby d230)
  obtain ⟨rfl, N10q, e10⟩ := hQ10
  have N10 := Fr.app N8 N10q
  obtain ⟨_, T11, L11, X11, hQ11, st11⟩ := own_virtual X10 hx hZ hown (w48 hw) (w49 hw) (notFace_of_selects (args := #[]) (mvT hZ (w51 hw))) (w51 hw) (w50 hw) (w7 hw) (w52 hw) (by decide) (r9_isLatin1 l Z a0 hw [] o0 i_7 h0 n0 Z0 S_COMPACT_STRINGS O0 hp0 F_o0_coder) e10 E_o0 (W := 0) (by decide) (g := (mkF m 28 #[vr o0, vi 3, vi 5, vi 5, vi 2] [(.ref o0)])) rfl (by rw [hml]; rfl) (argsL := []) (rest := []) (lenOf pd_8 rfl) rfl rfl (own_wr rfl rfl) (hb hby d241)
  obtain ⟨rfl, N11q, e11⟩ := hQ11
  have N11 := Fr.app N10 N11q
  obtain ⟨T12, X12, e12, st12⟩ := getF X11 hx hZ hown (host := "") (Or.inl (w32 hw)) Via.refl e11 F_o0_value (g := (mkF m 35 #[vr o0, vi 3, vi 5, vi 5, vi 2] [(.ref o0)])) rfl rfl (hb hby d244)
  obtain ⟨_, T13, L13, X13, hQ13, st13⟩ := own_static X12 hx hZ hown (w95 hw) (w96 hw) (w65 hw) (w97 hw) (by decide) (r68_newString l Z a0 hw [] o_1 i_2 i_3 i_4 i_5 i_6 k_o_1 h0 n0 Z0 V_o_1) e12 (W := 0) (by decide) (g := (mkF m 41 #[vr o0, vi 3, vi 5, vi 5, vi 2] [(.int 2), (.int 3), (.ref o_1)])) rfl (by rw [hml]; rfl) (argsL := [(.ref o_1), (.int 3), (.int 2)]) (rest := []) (lenOf pd_19 rfl) rfl rfl (own_wr rfl rfl) (hb hby d247)
  obtain ⟨b1_13, b2_6_7_13, k2_6_7_13, rfl, N13q, K13, Q13_0, Q13_1, Q13_2, Q13_3, Q13_4, Q13_5, Q13_6⟩ := hQ13
  have N13 := Fr.app N11 N13q
  -- what was kept, from the start on
  have C0 := (KL.refl h0 []).trans K13 na0
  refine ⟨T13, _, some (.ref b1_13), X13, (fun h => by cases h <;> rfl), ?_, fun fs hr => ?_⟩
  · show Q_r67_substring Z o0 o_1 i_2 i_3 i_4 i_5 i_6 k_o_1 i_7 u_9 h0 n0 _ T13.heap _
    exact ⟨b1_13, b2_6_7_13, k2_6_7_13, rfl, N13, C0, (Nat.le_trans (Nat.le_refl _) Q13_0), (Nat.le_trans (Nat.le_refl _) Q13_1), Q13_2, Q13_3, Q13_4, Q13_5, Q13_6⟩
  · refine t_aloadN 1 X0.here hx (hb hby d224) rfl rfl rfl ?_
    refine st8 _ ?_
    refine t_istoreN (pc' := 5) (L' := #[vr o0, vi 3, vi 5, vi 5, .unset]) X8.here hx (hb hby d226) rfl rfl ?_
    refine t_iloadN 6 X8.here hx (hb hby d227) rfl rfl ?_
    refine t_iloadN 7 X8.here hx (hb hby d228) rfl rfl ?_
    refine t_iloadN 8 X8.here hx (hb hby d229) rfl rfl ?_
    refine st10 _ ?_
    refine t_iloadN 12 X10.here hx (hb hby d231) rfl rfl ?_
    refine t_ifYes (pc := 12) 22 X10.here hx (hb hby d232) (by decide) (by decide) (by decide) ?_
    refine t_iloadN 23 X10.here hx (hb hby d236) rfl rfl ?_
    refine t_iloadN 24 X10.here hx (hb hby d237) rfl rfl ?_
    refine t_isub 25 (r := 2) X10.here hx (hb hby d238) (by decide : ((5 : Int32) - (3 : Int32)) = (2 : Int32)) rfl ?_
    refine t_istore (pc' := 27) (L' := #[vr o0, vi 3, vi 5, vi 5, vi 2]) X10.here hx (hb hby d239) rfl rfl ?_
    refine t_aloadN 28 X10.here hx (hb hby d240) rfl rfl rfl ?_
    refine st11 _ ?_
    refine t_ifNo 34 X11.here hx (hb hby d242) (by decide) rfl ?_
    refine t_aloadN 35 X11.here hx (hb hby d243) rfl rfl rfl ?_
    refine st12 _ ?_
    refine t_iloadN 39 X12.here hx (hb hby d245) rfl rfl ?_
    refine t_iload 41 X12.here hx (hb hby d246) rfl rfl ?_
    refine st13 _ ?_
    refine t_goto (pc := 44) 57 X13.here hx (hb hby d309) (by decide) (by decide) ?_
    jvm_step X13.here [X13.here.top, hx, (hb hby d310), X13.method', hret, Value.isRef, FieldType.isReference]
    first | (intro acts; rw [hr _ acts rfl rfl rfl]) | rw [hr _ _ rfl rfl rfl]
    exact Steps.refl _
def Q_r66_substring (Z : State) (o0 o_1 : Addr) (i_2 i_3 i_4 i_5 i_6 : Int32) (k_o_1 : ClassId) (i_7 : Int32) (u_9 : Value) (h0 : Heap) (n0 : Nat) (v : Option Value) (h : Heap) (L : List Loc) : Prop := ∃ b1_13_10 : Addr, ∃ b2_6_7_13_10 : Addr, ∃ k2_6_7_13_10 : ClassId, v = some (.ref b1_13_10) ∧ Fr n0 L ∧ KL h0 h [] ∧ h0.size ≤ b1_13_10 ∧ h0.size ≤ b2_6_7_13_10 ∧ b1_13_10 ≠ b2_6_7_13_10 ∧ Ex0 Z h b1_13_10 ∧ Fd0 Z h b1_13_10 z0 ∧ Fd1 Z h b1_13_10 (.ref b2_6_7_13_10) ∧ Arv Z h b2_6_7_13_10 k2_6_7_13_10 .byte 2 [(.int i_5), (.int i_6)] z0
theorem ef_r66_substring (o0 : Addr) (m : MethodId) : entryFrame m #[(.ref o0), (.int 3)] 2 = mkF m 0 #[.val (.ref o0), .val (.int 3)] [] := by first | (simp [entryFrame, mkF, argsToLocals, Value.category]; done) | rfl
set_option maxRecDepth 65536 in
set_option maxHeartbeats 40000000 in
theorem r66_substring (l : Launch) (Z : State) (a0 : Array Value) (hw : HW Z a0) (ws : List Jvm.Cond) (o0 o_1 : Addr) (i_2 i_3 i_4 i_5 i_6 : Int32) (k_o_1 : ClassId) (i_7 : Int32) (u_9 : Value) (h0 : Heap) (n0 : Nat) (Z0 : n0 ≤ h0.size) (E_o0 : Ex0 Z h0 o0) (F_o0_value : Fd1 Z h0 o0 (.ref o_1)) (V_o_1 : Arv Z h0 o_1 k_o_1 .byte 5 [(.int i_2), (.int i_3), (.int i_4), (.int i_5), (.int i_6)] z0) (S_COMPACT_STRINGS : SCS Z i_7) (F_o0_coder : Fd0 Z h0 o0 z0) (O0 : Old Z n0 h0) (hp0 : ¬ (i_7 = (0 : Int32))) (S_SIOOBE_FORMATTER : Sta Z Z.heap "jdk/internal/util/Preconditions" "SIOOBE_FORMATTER" "Ljava/util/function/BiFunction;" u_9) (hp1 : u_9.isRef = true) :
    MF l Z y26_substring b27_ 2 (some (.object "java/lang/String")) ws ⟨5, 2, 6, 80⟩ #[(.ref o0), (.int 3)] h0 (Q_r66_substring Z o0 o_1 i_2 i_3 i_4 i_5 i_6 k_o_1 i_7 u_9 h0 n0) := by
  refine own_body (plainFor_of_name pn_String564) (ef_r66_substring o0) (by decide) (by decide) ?_
  intro p e s m below meth c s₁ hx hby hml hown hnm hret hZ hh e0 X0
  have N0 := Fr.nil n0
  obtain ⟨_, T8, L8, X8, hQ8, st8⟩ := own_virtual X0 hx hZ hown (w53 hw) (w54 hw) (notFace_of_selects (args := #[]) (mvT hZ (w56 hw))) (w56 hw) (w55 hw) (w7 hw) (w57 hw) (by decide) (r10_length l Z a0 hw [] o0 o_1 i_2 i_3 i_4 i_5 i_6 k_o_1 i_7 h0 n0 Z0 F_o0_value V_o_1 E_o0 S_COMPACT_STRINGS F_o0_coder O0 hp0) e0 E_o0 (W := 2) (by decide) (g := (mkF m 3 #[vr o0, vi 3] [(.ref o0), (.int 3), (.ref o0)])) rfl (by rw [hml]; rfl) (argsL := []) (rest := [(.int 3), (.ref o0)]) (lenOf pd_10 rfl) rfl rfl (own_wr rfl rfl) (hb hby d319)
  obtain ⟨rfl, N8q, e8⟩ := hQ8
  have N8 := Fr.app N0 N8q
  obtain ⟨_, T10, L10, X10, hQ10, st10⟩ := own_virtual X8 hx hZ hown (w122 hw) (w83 hw) (notFace_of_selects (args := #[]) (mvT hZ (w85 hw))) (w85 hw) (w84 hw) (w7 hw) (w86 hw) (by decide) (r67_substring l Z a0 hw [] o0 o_1 i_2 i_3 i_4 i_5 i_6 k_o_1 i_7 u_9 h0 n0 Z0 E_o0 F_o0_value V_o_1 S_COMPACT_STRINGS F_o0_coder O0 hp0 S_SIOOBE_FORMATTER hp1) e8 E_o0 (W := 0) (by decide) (g := (mkF m 6 #[vr o0, vi 3] [(.int 5), (.int 3), (.ref o0)])) rfl (by rw [hml]; rfl) (argsL := [(.int 3), (.int 5)]) (rest := []) (lenOf pd_20 rfl) rfl rfl (own_wr rfl rfl) (hb hby d320)
  obtain ⟨b1_13_10, b2_6_7_13_10, k2_6_7_13_10, rfl, N10q, K10, Q10_0, Q10_1, Q10_2, Q10_3, Q10_4, Q10_5, Q10_6⟩ := hQ10
  have N10 := Fr.app N8 N10q
  -- what was kept, from the start on
  have C0 := (KL.refl h0 []).trans K10 na0
  refine ⟨T10, _, some (.ref b1_13_10), X10, (fun h => by cases h <;> rfl), ?_, fun fs hr => ?_⟩
  · show Q_r66_substring Z o0 o_1 i_2 i_3 i_4 i_5 i_6 k_o_1 i_7 u_9 h0 n0 _ T10.heap _
    exact ⟨b1_13_10, b2_6_7_13_10, k2_6_7_13_10, rfl, N10, C0, (Nat.le_trans (Nat.le_refl _) Q10_0), (Nat.le_trans (Nat.le_refl _) Q10_1), Q10_2, Q10_3, Q10_4, Q10_5, Q10_6⟩
  · refine t_aloadN 1 X0.here hx (hb hby d316) rfl rfl rfl ?_
    refine t_iloadN 2 X0.here hx (hb hby d317) rfl rfl ?_
    refine t_aloadN 3 X0.here hx (hb hby d318) rfl rfl rfl ?_
    refine st8 _ ?_
    refine st10 _ ?_
    jvm_step X10.here [X10.here.top, hx, (hb hby d321), X10.method', hret, Value.isRef, FieldType.isReference]
    first | (intro acts; rw [hr _ acts rfl rfl rfl]) | rw [hr _ _ rfl rfl rfl]
    exact Steps.refl _
def Q_r74_isEmpty (Z : State) (o0 o_1 : Addr) (i_3 i_4 : Int32) (k_o_1 : ClassId) (h0 : Heap) (n0 : Nat) (v : Option Value) (h : Heap) (L : List Loc) : Prop := v = some z0 ∧ Fr n0 L ∧ h = h0
theorem ef_r74_isEmpty (o0 : Addr) (m : MethodId) : entryFrame m #[(.ref o0)] 1 = mkF m 0 #[.val (.ref o0)] [] := by first | (simp [entryFrame, mkF, argsToLocals, Value.category]; done) | rfl
set_option maxRecDepth 65536 in
set_option maxHeartbeats 40000000 in
theorem r74_isEmpty (l : Launch) (Z : State) (a0 : Array Value) (hw : HW Z a0) (ws : List Jvm.Cond) (o0 o_1 : Addr) (i_3 i_4 : Int32) (k_o_1 : ClassId) (h0 : Heap) (n0 : Nat) (Z0 : n0 ≤ h0.size) (F_o0_value : Fd1 Z h0 o0 (.ref o_1)) (V_o_1 : Arv Z h0 o_1 k_o_1 .byte 2 [(.int i_3), (.int i_4)] z0) :
    MF l Z y29_isEmpty b31_ 1 (some .boolean) ws ⟨0, 0, 0, 0⟩ #[(.ref o0)] h0 (Q_r74_isEmpty Z o0 o_1 i_3 i_4 k_o_1 h0 n0) := by
  refine own_body (plainFor_of_name pn_String564) (ef_r74_isEmpty o0) (by decide) (by decide) ?_
  intro p e s m below meth c s₁ hx hby hml hown hnm hret hZ hh e0 X0
  have N0 := Fr.nil n0
  obtain ⟨T2, X2, e2, st2⟩ := getF X0 hx hZ hown (host := "") (Or.inl (w32 hw)) Via.refl e0 F_o0_value (g := (mkF m 1 #[vr o0] [(.ref o0)])) rfl rfl (hb hby d343)
  refine ⟨T2, _, some z0, X2, (fun h => by cases h <;> rfl), ?_, fun fs hr => ?_⟩
  · show Q_r74_isEmpty Z o0 o_1 i_3 i_4 k_o_1 h0 n0 _ T2.heap _
    rw [e2]
    exact ⟨rfl, N0, rfl⟩
  · refine t_aloadN 1 X0.here hx (hb hby d342) rfl rfl rfl ?_
    refine st2 _ ?_
    refine own_arlen (pc' := 5) X2 hx hZ e2 V_o_1 (hb hby d344) rfl ?_
    refine t_ifYes (pc := 5) 12 X2.here hx (hb hby d345) (by decide) (by decide) (by decide) ?_
    refine t_iconst 13 (r := 0) X2.here hx (hb hby d346) (by decide) rfl ?_
    exact retN X2 hx (t := .boolean) hret (by simp) (hb hby d347) hr
def Q_r77_length (Z : State) (o0 o_1 : Addr) (i_3 i_4 : Int32) (k_o_1 : ClassId) (i_5 : Int32) (h0 : Heap) (n0 : Nat) (v : Option Value) (h : Heap) (L : List Loc) : Prop := v = some (.int 2) ∧ Fr n0 L ∧ h = h0
theorem ef_r77_length (o0 : Addr) (m : MethodId) : entryFrame m #[(.ref o0)] 1 = mkF m 0 #[.val (.ref o0)] [] := by first | (simp [entryFrame, mkF, argsToLocals, Value.category]; done) | rfl
set_option maxRecDepth 65536 in
set_option maxHeartbeats 40000000 in
theorem r77_length (l : Launch) (Z : State) (a0 : Array Value) (hw : HW Z a0) (ws : List Jvm.Cond) (o0 o_1 : Addr) (i_3 i_4 : Int32) (k_o_1 : ClassId) (i_5 : Int32) (h0 : Heap) (n0 : Nat) (Z0 : n0 ≤ h0.size) (F_o0_value : Fd1 Z h0 o0 (.ref o_1)) (V_o_1 : Arv Z h0 o_1 k_o_1 .byte 2 [(.int i_3), (.int i_4)] z0) (E_o0 : Ex0 Z h0 o0) (S_COMPACT_STRINGS : SCS Z i_5) (F_o0_coder : Fd0 Z h0 o0 z0) (O0 : Old Z n0 h0) (hp0 : ¬ (i_5 = (0 : Int32))) :
    MF l Z y12_length b14_ 1 (some .int) ws ⟨1, 0, 0, 13⟩ #[(.ref o0)] h0 (Q_r77_length Z o0 o_1 i_3 i_4 k_o_1 i_5 h0 n0) := by
  refine own_body (plainFor_of_name pn_String564) (ef_r77_length o0) (by decide) (by decide) ?_
  intro p e s m below meth c s₁ hx hby hml hown hnm hret hZ hh e0 X0
  have N0 := Fr.nil n0
  obtain ⟨T2, X2, e2, st2⟩ := getF X0 hx hZ hown (host := "") (Or.inl (w32 hw)) Via.refl e0 F_o0_value (g := (mkF m 1 #[vr o0] [(.ref o0)])) rfl rfl (hb hby d141)
  obtain ⟨_, T6, L6, X6, hQ6, st6⟩ := own_virtual X2 hx hZ hown (w58 hw) (w59 hw) (notFace_of_selects (args := #[]) (mvT hZ (w61 hw))) (w61 hw) (w60 hw) (w7 hw) (w62 hw) (by decide) (r11_coder l Z a0 hw [] o0 i_5 h0 n0 Z0 S_COMPACT_STRINGS O0 hp0 F_o0_coder) e2 E_o0 (W := 1) (by decide) (g := (mkF m 6 #[vr o0] [(.ref o0), (.int 2)])) rfl (by rw [hml]; rfl) (argsL := []) (rest := [(.int 2)]) (lenOf pd_9 rfl) rfl rfl (own_wr rfl rfl) (hb hby d144)
  obtain ⟨rfl, N6q, e6⟩ := hQ6
  have N6 := Fr.app N0 N6q
  refine ⟨T6, _, some (.int 2), X6, (fun h => by cases h <;> rfl), ?_, fun fs hr => ?_⟩
  · show Q_r77_length Z o0 o_1 i_3 i_4 k_o_1 i_5 h0 n0 _ T6.heap _
    rw [e6]
    exact ⟨rfl, N6, rfl⟩
  · refine t_aloadN 1 X0.here hx (hb hby d140) rfl rfl rfl ?_
    refine st2 _ ?_
    refine own_arlen (pc' := 5) X2 hx hZ e2 V_o_1 (hb hby d142) rfl ?_
    refine t_aloadN 6 X2.here hx (hb hby d143) rfl rfl rfl ?_
    refine st6 _ ?_
    refine t_ishr 10 (r := 2) X6.here hx (hb hby d151) (by decide : ((2 : Int32) >>> ((0 : Int32) &&& 31)) = (2 : Int32)) rfl ?_
    exact retI X6 hx hret (hb hby d152) hr
def Q_r79_indexOfChar (Z : State) (o0 : Addr) (i_1 i_2 : Int32) (k_o0 : ClassId) (h0 : Heap) (n0 : Nat) (v : Option Value) (h : Heap) (L : List Loc) : Prop := v = some (.int (-1)) ∧ Fr n0 L ∧ h = h0
theorem ef_r79_indexOfChar (o0 : Addr) (m : MethodId) : entryFrame m #[(.ref o0), (.int 58), (.int 0), (.int 2)] 6 = mkF m 0 #[.val (.ref o0), .val (.int 58), .val (.int 0), .val (.int 2), .unset, .unset] [] := by first | (simp [entryFrame, mkF, argsToLocals, Value.category]; done) | rfl
set_option maxRecDepth 65536 in
set_option maxHeartbeats 40000000 in
theorem r79_indexOfChar (l : Launch) (Z : State) (a0 : Array Value) (hw : HW Z a0) (ws : List Jvm.Cond) (o0 : Addr) (i_1 i_2 : Int32) (k_o0 : ClassId) (h0 : Heap) (n0 : Nat) (Z0 : n0 ≤ h0.size) (V_o0 : Arv Z h0 o0 k_o0 .byte 2 [(.int i_1), (.int i_2)] z0) (hp0 : ¬ (i_1 = (58 : Int32))) (hp1 : ¬ (i_2 = (58 : Int32))) :
    MF l Z y16_indexOfChar b20_ 6 (some .int) ws ⟨0, 0, 0, 0⟩ #[(.ref o0), (.int 58), z0, (.int 2)] h0 (Q_r79_indexOfChar Z o0 i_1 i_2 k_o0 h0 n0) := by
  refine own_body (plainFor_of_name pn_StringLatin1120) (ef_r79_indexOfChar o0) (by decide) (by decide) ?_
  intro p e s m below meth c s₁ hx hby hml hown hnm hret hZ hh e0 X0
  have N0 := Fr.nil n0
  refine ⟨s₁, _, some (.int (-1)), X0, (fun h => by cases h <;> rfl), ?_, fun fs hr => ?_⟩
  · show Q_r79_indexOfChar Z o0 i_1 i_2 k_o0 h0 n0 _ s₁.heap _
    rw [e0]
    exact ⟨rfl, N0, rfl⟩
  · refine t_iloadN 1 X0.here hx (hb hby d194) rfl rfl ?_
    refine t_i2b 2 (r := 58) X0.here hx (hb hby d195) (by decide : ((58 : Int32).toInt8.toInt32) = (58 : Int32)) rfl ?_
    refine t_istore (pc' := 4) (L' := #[vr o0, vi 58, vi 0, vi 2, vi 58, .unset]) X0.here hx (hb hby d196) rfl rfl ?_
    refine t_iloadN 5 X0.here hx (hb hby d197) rfl rfl ?_
    refine t_istore (pc' := 7) (L' := #[vr o0, vi 58, vi 0, vi 2, vi 58, vi 0]) X0.here hx (hb hby d198) rfl rfl ?_
    refine t_iload 9 X0.here hx (hb hby d199) rfl rfl ?_
    refine t_iloadN 10 X0.here hx (hb hby d200) rfl rfl ?_
    refine t_icmpNo 13 X0.here hx (hb hby d201) (by decide) rfl ?_
    refine t_aloadN 14 X0.here hx (hb hby d202) rfl rfl rfl ?_
    refine t_iload 16 X0.here hx (hb hby d203) rfl rfl ?_
    refine own_aldB (pc' := 17) X0 hx hZ e0 V_o0 (j := 0) (v := (.int i_1)) (by decide) rfl (hb hby d204) rfl ?_
    refine t_iload 19 X0.here hx (hb hby d205) rfl rfl ?_
    refine t_icmpYes (pc := 19) 25 X0.here hx (hb hby d206) (feq hp0).2 (by decide) (by decide) ?_
    refine t_iinc (pc' := 28) (L' := #[vr o0, vi 58, vi 0, vi 2, vi 58, vi 1]) X0.here hx (hb hby d207) rfl (by first | rfl | decide) rfl ?_
    refine t_goto (pc := 28) 7 X0.here hx (hb hby d208) (by decide) (by decide) ?_
    refine t_iload 9 X0.here hx (hb hby d199) rfl rfl ?_
    refine t_iloadN 10 X0.here hx (hb hby d200) rfl rfl ?_
    refine t_icmpNo 13 X0.here hx (hb hby d201) (by decide) rfl ?_
    refine t_aloadN 14 X0.here hx (hb hby d202) rfl rfl rfl ?_
    refine t_iload 16 X0.here hx (hb hby d203) rfl rfl ?_
    refine own_aldB (pc' := 17) X0 hx hZ e0 V_o0 (j := 1) (v := (.int i_2)) (by decide) rfl (hb hby d204) rfl ?_
    refine t_iload 19 X0.here hx (hb hby d205) rfl rfl ?_
    refine t_icmpYes (pc := 19) 25 X0.here hx (hb hby d206) (feq hp1).2 (by decide) (by decide) ?_
    refine t_iinc (pc' := 28) (L' := #[vr o0, vi 58, vi 0, vi 2, vi 58, vi 2]) X0.here hx (hb hby d207) rfl (by first | rfl | decide) rfl ?_
    refine t_goto (pc := 28) 7 X0.here hx (hb hby d208) (by decide) (by decide) ?_
    refine t_iload 9 X0.here hx (hb hby d199) rfl rfl ?_
    refine t_iloadN 10 X0.here hx (hb hby d200) rfl rfl ?_
    refine t_icmpYes (pc := 10) 31 X0.here hx (hb hby d201) (by decide) (by decide) (by decide) ?_
    refine t_iconst 32 (r := (-1 : Int32)) X0.here hx (hb hby d352) (by decide) rfl ?_
    exact retI X0 hx hret (hb hby d353) hr
def Q_r78_indexOf (Z : State) (o0 : Addr) (i_3 i_4 : Int32) (k_o0 : ClassId) (h0 : Heap) (n0 : Nat) (v : Option Value) (h : Heap) (L : List Loc) : Prop := v = some (.int (-1)) ∧ Fr n0 L ∧ h = h0
theorem ef_r78_indexOf (o0 : Addr) (m : MethodId) : entryFrame m #[(.ref o0), (.int 58), (.int 0), (.int 2)] 4 = mkF m 0 #[.val (.ref o0), .val (.int 58), .val (.int 0), .val (.int 2)] [] := by first | (simp [entryFrame, mkF, argsToLocals, Value.category]; done) | rfl
set_option maxRecDepth 65536 in
set_option maxHeartbeats 40000000 in
theorem r78_indexOf (l : Launch) (Z : State) (a0 : Array Value) (hw : HW Z a0) (ws : List Jvm.Cond) (o0 : Addr) (i_3 i_4 : Int32) (k_o0 : ClassId) (h0 : Heap) (n0 : Nat) (Z0 : n0 ≤ h0.size) (V_o0 : Arv Z h0 o0 k_o0 .byte 2 [(.int i_3), (.int i_4)] z0) (hp0 : ¬ (i_3 = (58 : Int32))) (hp1 : ¬ (i_4 = (58 : Int32))) :
    MF l Z y17_indexOf b16_ 4 (some .int) ws ⟨1, 0, 0, 17⟩ #[(.ref o0), (.int 58), z0, (.int 2)] h0 (Q_r78_indexOf Z o0 i_3 i_4 k_o0 h0 n0) := by
  refine own_body (plainFor_of_name pn_StringLatin1120) (ef_r78_indexOf o0) (by decide) (by decide) ?_
  intro p e s m below meth c s₁ hx hby hml hown hnm hret hZ hh e0 X0
  have N0 := Fr.nil n0
  obtain ⟨_, T1, L1, X1, hQ1, st1⟩ := own_static X0 hx hZ hown (w67 hw) (w68 hw) (w65 hw) (w69 hw) (by decide) (r13_canEncode l Z a0 hw []  h0 n0 Z0) e0 (W := 0) (by decide) (g := (mkF m 1 #[vr o0, vi 58, vi 0, vi 2] [(.int 58)])) rfl (by rw [hml]; rfl) (argsL := [(.int 58)]) (rest := []) (lenOf pd_11 rfl) rfl rfl (own_wr rfl rfl) (hb hby d155)
  obtain ⟨rfl, N1q, e1⟩ := hQ1
  have N1 := Fr.app N0 N1q
  obtain ⟨_, T2, L2, X2, hQ2, st2⟩ := own_static X1 hx hZ hown (w70 hw) (w71 hw) (w72 hw) (w73 hw) (by decide) (r14_max l Z a0 hw []  h0 n0 Z0) e1 (W := 0) (by decide) (g := (mkF m 11 #[vr o0, vi 58, vi 0, vi 2] [z0, z0])) rfl (by rw [hml]; rfl) (argsL := [z0, z0]) (rest := []) (lenOf pd_12 rfl) rfl rfl (own_wr rfl rfl) (hb hby d167)
  obtain ⟨rfl, N2q, e2⟩ := hQ2
  have N2 := Fr.app N1 N2q
  obtain ⟨_, T5, L5, X5, hQ5, st5⟩ := own_static X2 hx hZ hown (w74 hw) (w75 hw) (w72 hw) (w76 hw) (by decide) (r72_min l Z a0 hw []  h0 n0 Z0) e2 (W := 0) (by decide) (g := (mkF m 18 #[vr o0, vi 58, vi 0, vi 2] [(.int 2), (.int 2)])) rfl (by rw [hml]; rfl) (argsL := [(.int 2), (.int 2)]) (rest := []) (lenOf pd_12 rfl) rfl rfl (own_wr rfl rfl) (hb hby d178)
  obtain ⟨rfl, N5q, e5⟩ := hQ5
  have N5 := Fr.app N2 N5q
  obtain ⟨_, T6, L6, X6, hQ6, st6⟩ := own_static X5 hx hZ hown (w77 hw) (w78 hw) (w65 hw) (w79 hw) (by decide) (r79_indexOfChar l Z a0 hw [] o0 i_3 i_4 k_o0 h0 n0 Z0 V_o0 hp0 hp1) e5 (W := 0) (by decide) (g := (mkF m 33 #[vr o0, vi 58, vi 0, vi 2] [(.int 2), z0, (.int 58), (.ref o0)])) rfl (by rw [hml]; rfl) (argsL := [(.ref o0), (.int 58), z0, (.int 2)]) (rest := []) (lenOf pd_13 rfl) rfl rfl (own_wr rfl rfl) (hb hby d193)
  obtain ⟨rfl, N6q, e6⟩ := hQ6
  have N6 := Fr.app N5 N6q
  refine ⟨T6, _, some (.int (-1)), X6, (fun h => by cases h <;> rfl), ?_, fun fs hr => ?_⟩
  · show Q_r78_indexOf Z o0 i_3 i_4 k_o0 h0 n0 _ T6.heap _
    rw [e6]
    exact ⟨rfl, N6, rfl⟩
  · refine t_iloadN 1 X0.here hx (hb hby d154) rfl rfl ?_
    refine st1 _ ?_
    refine t_ifYes (pc := 4) 9 X1.here hx (hb hby d164) (by decide) (by decide) (by decide) ?_
    refine t_iloadN 10 X1.here hx (hb hby d165) rfl rfl ?_
    refine t_iconst 11 (r := 0) X1.here hx (hb hby d166) (by decide) rfl ?_
    refine st2 _ ?_
    refine t_istoreN (pc' := 15) (L' := #[vr o0, vi 58, vi 0, vi 2]) X2.here hx (hb hby d174) rfl rfl ?_
    refine t_iloadN 16 X2.here hx (hb hby d175) rfl rfl ?_
    refine t_aloadN 17 X2.here hx (hb hby d176) rfl rfl rfl ?_
    refine own_arlen (pc' := 18) X2 hx hZ e2 V_o0 (hb hby d177) rfl ?_
    refine st5 _ ?_
    refine t_istoreN (pc' := 22) (L' := #[vr o0, vi 58, vi 0, vi 2]) X5.here hx (hb hby d185) rfl rfl ?_
    refine t_iloadN 23 X5.here hx (hb hby d186) rfl rfl ?_
    refine t_iloadN 24 X5.here hx (hb hby d187) rfl rfl ?_
    refine t_icmpYes (pc := 24) 29 X5.here hx (hb hby d188) (by decide) (by decide) (by decide) ?_
    refine t_aloadN 30 X5.here hx (hb hby d189) rfl rfl rfl ?_
    refine t_iloadN 31 X5.here hx (hb hby d190) rfl rfl ?_
    refine t_iloadN 32 X5.here hx (hb hby d191) rfl rfl ?_
    refine t_iloadN 33 X5.here hx (hb hby d192) rfl rfl ?_
    refine st6 _ ?_
    exact retI X6 hx hret (hb hby d211) hr
def Q_r76_indexOf (Z : State) (o0 : Addr) (i_1 : Int32) (o_3 : Addr) (i_5 i_6 : Int32) (k_o_3 : ClassId) (h0 : Heap) (n0 : Nat) (v : Option Value) (h : Heap) (L : List Loc) : Prop := v = some (.int (-1)) ∧ Fr n0 L ∧ h = h0
theorem ef_r76_indexOf (o0 : Addr) (m : MethodId) : entryFrame m #[(.ref o0), (.int 58), (.int 0)] 3 = mkF m 0 #[.val (.ref o0), .val (.int 58), .val (.int 0)] [] := by first | (simp [entryFrame, mkF, argsToLocals, Value.category]; done) | rfl
set_option maxRecDepth 65536 in
set_option maxHeartbeats 40000000 in
theorem r76_indexOf (l : Launch) (Z : State) (a0 : Array Value) (hw : HW Z a0) (ws : List Jvm.Cond) (o0 : Addr) (i_1 : Int32) (o_3 : Addr) (i_5 i_6 : Int32) (k_o_3 : ClassId) (h0 : Heap) (n0 : Nat) (Z0 : n0 ≤ h0.size) (E_o0 : Ex0 Z h0 o0) (S_COMPACT_STRINGS : SCS Z i_1) (F_o0_coder : Fd0 Z h0 o0 z0) (O0 : Old Z n0 h0) (hp0 : ¬ (i_1 = (0 : Int32))) (F_o0_value : Fd1 Z h0 o0 (.ref o_3)) (V_o_3 : Arv Z h0 o_3 k_o_3 .byte 2 [(.int i_5), (.int i_6)] z0) (hp1 : ¬ (i_5 = (58 : Int32))) (hp2 : ¬ (i_6 = (58 : Int32))) :
    MF l Z y18_indexOf b12_ 3 (some .int) ws ⟨2, 0, 0, 32⟩ #[(.ref o0), (.int 58), z0] h0 (Q_r76_indexOf Z o0 i_1 o_3 i_5 i_6 k_o_3 h0 n0) := by
  refine own_body (plainFor_of_name pn_String564) (ef_r76_indexOf o0) (by decide) (by decide) ?_
  intro p e s m below meth c s₁ hx hby hml hown hnm hret hZ hh e0 X0
  have N0 := Fr.nil n0
  obtain ⟨_, T2, L2, X2, hQ2, st2⟩ := own_virtual X0 hx hZ hown (w48 hw) (w49 hw) (notFace_of_selects (args := #[]) (mvT hZ (w51 hw))) (w51 hw) (w50 hw) (w7 hw) (w52 hw) (by decide) (r9_isLatin1 l Z a0 hw [] o0 i_1 h0 n0 Z0 S_COMPACT_STRINGS O0 hp0 F_o0_coder) e0 E_o0 (W := 0) (by decide) (g := (mkF m 1 #[vr o0, vi 58, vi 0] [(.ref o0)])) rfl (by rw [hml]; rfl) (argsL := []) (rest := []) (lenOf pd_8 rfl) rfl rfl (own_wr rfl rfl) (hb hby d124)
  obtain ⟨rfl, N2q, e2⟩ := hQ2
  have N2 := Fr.app N0 N2q
  obtain ⟨T4, X4, e4, st4⟩ := getF X2 hx hZ hown (host := "") (Or.inl (w32 hw)) Via.refl e2 F_o0_value (g := (mkF m 8 #[vr o0, vi 58, vi 0] [(.ref o0)])) rfl rfl (hb hby d135)
  obtain ⟨_, T7, L7, X7, hQ7, st7⟩ := own_virtual X4 hx hZ hown (w53 hw) (w54 hw) (notFace_of_selects (args := #[]) (mvT hZ (w56 hw))) (w56 hw) (w55 hw) (w7 hw) (w57 hw) (by decide) (r77_length l Z a0 hw [] o0 o_3 i_5 i_6 k_o_3 i_1 h0 n0 Z0 F_o0_value V_o_3 E_o0 S_COMPACT_STRINGS F_o0_coder O0 hp0) e4 E_o0 (W := 3) (by decide) (g := (mkF m 14 #[vr o0, vi 58, vi 0] [(.ref o0), z0, (.int 58), (.ref o_3)])) rfl (by rw [hml]; rfl) (argsL := []) (rest := [z0, (.int 58), (.ref o_3)]) (lenOf pd_10 rfl) rfl rfl (own_wr rfl rfl) (hb hby d139)
  obtain ⟨rfl, N7q, e7⟩ := hQ7
  have N7 := Fr.app N2 N7q
  obtain ⟨_, T8, L8, X8, hQ8, st8⟩ := own_static X7 hx hZ hown (w63 hw) (w64 hw) (w65 hw) (w66 hw) (by decide) (r78_indexOf l Z a0 hw [] o_3 i_5 i_6 k_o_3 h0 n0 Z0 V_o_3 hp1 hp2) e7 (W := 0) (by decide) (g := (mkF m 17 #[vr o0, vi 58, vi 0] [(.int 2), z0, (.int 58), (.ref o_3)])) rfl (by rw [hml]; rfl) (argsL := [(.ref o_3), (.int 58), z0, (.int 2)]) (rest := []) (lenOf pd_13 rfl) rfl rfl (own_wr rfl rfl) (hb hby d153)
  obtain ⟨rfl, N8q, e8⟩ := hQ8
  have N8 := Fr.app N7 N8q
  refine ⟨T8, _, some (.int (-1)), X8, (fun h => by cases h <;> rfl), ?_, fun fs hr => ?_⟩
  · show Q_r76_indexOf Z o0 i_1 o_3 i_5 i_6 k_o_3 h0 n0 _ T8.heap _
    rw [e8]
    exact ⟨rfl, N8, rfl⟩
  · refine t_aloadN 1 X0.here hx (hb hby d123) rfl rfl rfl ?_
    refine st2 _ ?_
    refine t_ifNo 7 X2.here hx (hb hby d133) (by decide) rfl ?_
    refine t_aloadN 8 X2.here hx (hb hby d134) rfl rfl rfl ?_
    refine st4 _ ?_
    refine t_iloadN 12 X4.here hx (hb hby d136) rfl rfl ?_
    refine t_iloadN 13 X4.here hx (hb hby d137) rfl rfl ?_
    refine t_aloadN 14 X4.here hx (hb hby d138) rfl rfl rfl ?_
    refine st7 _ ?_
    refine st8 _ ?_
    refine t_goto (pc := 20) 36 X8.here hx (hb hby d212) (by decide) (by decide) ?_
    exact retI X8 hx hret (hb hby d213) hr
def Q_r75_indexOf (Z : State) (o0 : Addr) (i_1 : Int32) (o_2 : Addr) (i_3 i_4 : Int32) (k_o_2 : ClassId) (h0 : Heap) (n0 : Nat) (v : Option Value) (h : Heap) (L : List Loc) : Prop := v = some (.int (-1)) ∧ Fr n0 L ∧ h = h0
theorem ef_r75_indexOf (o0 : Addr) (m : MethodId) : entryFrame m #[(.ref o0), (.int 58)] 2 = mkF m 0 #[.val (.ref o0), .val (.int 58)] [] := by first | (simp [entryFrame, mkF, argsToLocals, Value.category]; done) | rfl
set_option maxRecDepth 65536 in
set_option maxHeartbeats 40000000 in
theorem r75_indexOf (l : Launch) (Z : State) (a0 : Array Value) (hw : HW Z a0) (ws : List Jvm.Cond) (o0 : Addr) (i_1 : Int32) (o_2 : Addr) (i_3 i_4 : Int32) (k_o_2 : ClassId) (h0 : Heap) (n0 : Nat) (Z0 : n0 ≤ h0.size) (E_o0 : Ex0 Z h0 o0) (S_COMPACT_STRINGS : SCS Z i_1) (F_o0_coder : Fd0 Z h0 o0 z0) (F_o0_value : Fd1 Z h0 o0 (.ref o_2)) (V_o_2 : Arv Z h0 o_2 k_o_2 .byte 2 [(.int i_3), (.int i_4)] z0) (O0 : Old Z n0 h0) (hp0 : ¬ (i_1 = (0 : Int32))) (hp1 : ¬ (i_3 = (58 : Int32))) (hp2 : ¬ (i_4 = (58 : Int32))) :
    MF l Z y19_indexOf b11_ 2 (some .int) ws ⟨3, 0, 0, 46⟩ #[(.ref o0), (.int 58)] h0 (Q_r75_indexOf Z o0 i_1 o_2 i_3 i_4 k_o_2 h0 n0) := by
  refine own_body (plainFor_of_name pn_String564) (ef_r75_indexOf o0) (by decide) (by decide) ?_
  intro p e s m below meth c s₁ hx hby hml hown hnm hret hZ hh e0 X0
  have N0 := Fr.nil n0
  obtain ⟨_, T5, L5, X5, hQ5, st5⟩ := own_virtual X0 hx hZ hown (w43 hw) (w44 hw) (notFace_of_selects (args := #[]) (mvT hZ (w46 hw))) (w46 hw) (w45 hw) (w7 hw) (w47 hw) (by decide) (r76_indexOf l Z a0 hw [] o0 i_1 o_2 i_3 i_4 k_o_2 h0 n0 Z0 E_o0 S_COMPACT_STRINGS F_o0_coder O0 hp0 F_o0_value V_o_2 hp1 hp2) e0 E_o0 (W := 0) (by decide) (g := (mkF m 3 #[vr o0, vi 58] [z0, (.int 58), (.ref o0)])) rfl (by rw [hml]; rfl) (argsL := [(.int 58), z0]) (rest := []) (lenOf pd_12 rfl) rfl rfl (own_wr rfl rfl) (hb hby d122)
  obtain ⟨rfl, N5q, e5⟩ := hQ5
  have N5 := Fr.app N0 N5q
  refine ⟨T5, _, some (.int (-1)), X5, (fun h => by cases h <;> rfl), ?_, fun fs hr => ?_⟩
  · show Q_r75_indexOf Z o0 i_1 o_2 i_3 i_4 k_o_2 h0 n0 _ T5.heap _
    rw [e5]
    exact ⟨rfl, N5, rfl⟩
  · refine t_aloadN 1 X0.here hx (hb hby d119) rfl rfl rfl ?_
    refine t_iloadN 2 X0.here hx (hb hby d120) rfl rfl ?_
    refine t_iconst 3 (r := 0) X0.here hx (hb hby d121) (by decide) rfl ?_
    refine st5 _ ?_
    exact retI X5 hx hret (hb hby d214) hr
def WS_r73__init_ (Z : State) (o0 : Addr) : List (Addr × Nat) := [(o0, (sl2 Z)), (o0, (sl3 Z))]
def Q_r73__init_ (Z : State) (o0 o1 o2 o_6 : Addr) (i_7 i_8 : Int32) (k_o_6 : ClassId) (i_13 : Int32) (o_17 : Addr) (i_18 i_19 : Int32) (k_o_17 : ClassId) (h0 : Heap) (n0 : Nat) (v : Option Value) (h : Heap) (L : List Loc) : Prop := v = none ∧ Fr n0 L ∧ KL h0 h (WS_r73__init_ Z o0) ∧ Fd2 Z h o0 (.ref o1) ∧ Fd3 Z h o0 (.ref o2)
theorem ef_r73__init_ (o0 o1 o2 : Addr) (m : MethodId) : entryFrame m #[(.ref o0), (.ref o1), (.ref o2)] 3 = mkF m 0 #[.val (.ref o0), .val (.ref o1), .val (.ref o2)] [] := by first | (simp [entryFrame, mkF, argsToLocals, Value.category]; done) | rfl
set_option maxRecDepth 65536 in
set_option maxHeartbeats 40000000 in
theorem r73__init_ (l : Launch) (Z : State) (a0 : Array Value) (hw : HW Z a0) (ws : List Jvm.Cond) (o0 o1 o2 o_6 : Addr) (i_7 i_8 : Int32) (k_o_6 : ClassId) (i_13 : Int32) (o_17 : Addr) (i_18 i_19 : Int32) (k_o_17 : ClassId) (h0 : Heap) (n0 : Nat) (Z0 : n0 ≤ h0.size) (E_o1 : Ex0 Z h0 o1) (F_o1_value : Fd1 Z h0 o1 (.ref o_6)) (V_o_6 : Arv Z h0 o_6 k_o_6 .byte 2 [(.int i_7), (.int i_8)] z0) (S_COMPACT_STRINGS : SCS Z i_13) (F_o1_coder : Fd0 Z h0 o1 z0) (O0 : Old Z n0 h0) (hp0 : ¬ (i_13 = (0 : Int32))) (hp1 : ¬ (i_7 = (58 : Int32))) (hp2 : ¬ (i_8 = (58 : Int32))) (E_o2 : Ex0 Z h0 o2) (F_o2_value : Fd1 Z h0 o2 (.ref o_17)) (V_o_17 : Arv Z h0 o_17 k_o_17 .byte 2 [(.int i_18), (.int i_19)] z0) (F_o0_system : Fd2 Z h0 o0 .null) (E_o0 : Ex1 Z h0 o0) (g_o0 : n0 ≤ o0) (F_o0_id : Fd3 Z h0 o0 .null) :
    MFS l Z y30__init_ b28_ 3 none ws ⟨4, 4, 40, 59⟩ #[(.ref o0), (.ref o1), (.ref o2)] h0 (Q_r73__init_ Z o0 o1 o2 o_6 i_7 i_8 k_o_6 i_13 o_17 i_18 i_19 k_o_17 h0 n0) := by
  refine own_bodyS (k := 4) (n := 40) (plainFor_of_name pn_Identifier44) (ef_r73__init_ o0 o1 o2) (by decide) (by decide) ?_
  intro p e s m below meth c s₁ hx hby hml hown hnm hret hZ e0 hS0 hk0 X0
  have N0 := Fr.nil n0
  obtain ⟨_, T1, L1, X1, hQ1, st1⟩ := own_init X0 hx hZ rfl hown (w126 hw) (w127 hw) (w129 hw) (w130 hw) (by decide) (r32__init_ l Z a0 hw [] o0 h0 n0 Z0) e0 (W := 0) (by decide) (g := (mkF m 1 #[vr o0, vr o1, vr o2] [(.ref o0)])) rfl (by rw [hml]; rfl) (argsL := []) (rest := []) (lenOf pd_22 rfl) rfl rfl (own_wr rfl rfl) (hb hby d324)
  obtain ⟨rfl, N1q, e1⟩ := hQ1
  have N1 := Fr.app N0 N1q
  obtain ⟨c2, T2, h2, k2, X2, e2, E2, hS2, hk2, hZ2, hown2, st2⟩ := ldcS X1 hx hZ hown (w132 hw) (own_wS hw) e1 hS0 hk0 (g := (mkF m 5 #[vr o0, vr o1, vr o2] [(.ref o1)])) rfl (hb hby d329) (n := 24) (by decide) (by decide) (by decide) (by decide)
  have K2 := KL.ofE E2
  obtain ⟨_, T3, L3, X3, hQ3, st3⟩ := own_static X2 hx hZ2 hown2 (w135 hw) (w136 hw) (w137 hw) (w138 hw) (by decide) (r33_requireNonNull l Z a0 hw [] o1 c2 h2 n0 (Nat.le_trans Z0 K2.1)) e2 (W := 0) (by decide) (g := (mkF m 7 #[vr o0, vr o1, vr o2] [(.ref c2), (.ref o1)])) rfl (by rw [hml]; rfl) (argsL := [(.ref o1), (.ref c2)]) (rest := []) (lenOf pd_23 rfl) rfl rfl (own_wr rfl rfl) (hb hby d330)
  obtain ⟨rfl, N3q, e3⟩ := hQ3
  have N3 := Fr.app N1 N3q
  obtain ⟨c4, T4, h4, k4, X4, e4, E4, hS4, hk4, hZ4, hown4, st4⟩ := ldcS X3 hx hZ2 hown2 (w139 hw) (own_wS hw) e3 hS2 hk2 (g := (mkF m 12 #[vr o0, vr o1, vr o2] [(.ref o2)])) rfl (hb hby d337) (n := 8) (by decide) (by decide) (by decide) (by decide)
  have K4 := KL.ofE E4
  have sz_0_2 := (Nat.le_trans K2.1 K4.1)
  obtain ⟨_, T5, L5, X5, hQ5, st5⟩ := own_static X4 hx hZ4 hown4 (w135 hw) (w136 hw) (w137 hw) (w138 hw) (by decide) (r33_requireNonNull l Z a0 hw [] o2 c4 h4 n0 (Nat.le_trans Z0 sz_0_2)) e4 (W := 0) (by decide) (g := (mkF m 14 #[vr o0, vr o1, vr o2] [(.ref c4), (.ref o2)])) rfl (by rw [hml]; rfl) (argsL := [(.ref o2), (.ref c4)]) (rest := []) (lenOf pd_23 rfl) rfl rfl (own_wr rfl rfl) (hb hby d338)
  obtain ⟨rfl, N5q, e5⟩ := hQ5
  have N5 := Fr.app N3 N5q
  have f10 := (kFld K4 (kFld K2 F_o1_value nw0) nw0)
  have f11 := (kArv K4 (kArv K2 V_o_6 na0) na0)
  have f12 := (kExa K4 (kExa K2 E_o1))
  obtain ⟨_, T9, L9, X9, hQ9, st9⟩ := own_virtual X5 hx hZ4 hown4 (w140 hw) (w141 hw) (notFace_of_selects (args := #[]) (mvT hZ4 (w143 hw))) (w143 hw) (w142 hw) (w7 hw) (w144 hw) (by decide) (r74_isEmpty l Z a0 hw [] o1 o_6 i_7 i_8 k_o_6 h4 n0 (Nat.le_trans Z0 sz_0_2) f10 f11) e5 f12 (W := 0) (by decide) (g := (mkF m 19 #[vr o0, vr o1, vr o2] [(.ref o1)])) rfl (by rw [hml]; rfl) (argsL := []) (rest := []) (lenOf pd_8 rfl) rfl rfl (own_wr rfl rfl) (hb hby d341)
  obtain ⟨rfl, N9q, e9⟩ := hQ9
  have N9 := Fr.app N5 N9q
  have f15 := (kFld K4 (kFld K2 F_o1_coder nw0) nw0)
  have f16 := (kOld K4 (kOld K2 O0 na0) na0)
  obtain ⟨_, T14, L14, X14, hQ14, st14⟩ := own_virtual X9 hx hZ4 hown4 (w38 hw) (w39 hw) (notFace_of_selects (args := #[]) (mvT hZ4 (w41 hw))) (w41 hw) (w40 hw) (w7 hw) (w42 hw) (by decide) (r75_indexOf l Z a0 hw [] o1 i_13 o_6 i_7 i_8 k_o_6 h4 n0 (Nat.le_trans Z0 sz_0_2) f12 S_COMPACT_STRINGS f15 f10 f11 f16 hp0 hp1 hp2) e9 f12 (W := 0) (by decide) (g := (mkF m 28 #[vr o0, vr o1, vr o2] [(.int 58), (.ref o1)])) rfl (by rw [hml]; rfl) (argsL := [(.int 58)]) (rest := []) (lenOf pd_14 rfl) rfl rfl (own_wr rfl rfl) (hb hby d351)
  obtain ⟨rfl, N14q, e14⟩ := hQ14
  have N14 := Fr.app N9 N14q
  have f21 := (kFld K4 (kFld K2 F_o2_value nw0) nw0)
  have f22 := (kArv K4 (kArv K2 V_o_17 na0) na0)
  have f23 := (kExa K4 (kExa K2 E_o2))
  obtain ⟨_, T20, L20, X20, hQ20, st20⟩ := own_virtual X14 hx hZ4 hown4 (w140 hw) (w141 hw) (notFace_of_selects (args := #[]) (mvT hZ4 (w143 hw))) (w143 hw) (w142 hw) (w7 hw) (w144 hw) (by decide) (r74_isEmpty l Z a0 hw [] o2 o_17 i_18 i_19 k_o_17 h4 n0 (Nat.le_trans Z0 sz_0_2) f21 f22) e14 f23 (W := 0) (by decide) (g := (mkF m 49 #[vr o0, vr o1, vr o2] [(.ref o2)])) rfl (by rw [hml]; rfl) (argsL := []) (rest := []) (lenOf pd_8 rfl) rfl rfl (own_wr rfl rfl) (hb hby d356)
  obtain ⟨rfl, N20q, e20⟩ := hQ20
  have N20 := Fr.app N14 N20q
  have f24 := (kFld K4 (kFld K2 F_o0_system nw0) nw0)
  have f25 := (kExa K4 (kExa K2 E_o0))
  obtain ⟨T26, h26, X26, e26, W26, st26⟩ := putF X20 hx hZ4 hown4 (host := "") (Or.inl (w145 hw)) Via.refl e20 f24 f25 (Or.inr ⟨(w146 hw), rfl, hnm⟩) (w81 hw) (ty := (.object "java/lang/String")) (by decide) rfl rfl (g := (mkF m 67 #[vr o0, vr o1, vr o2] [(.ref o1), (.ref o0)])) rfl rfl (hb hby d360)
  have K26 := KL.ofW W26
  have Fw26 : Fd2 Z h26 o0 (.ref o1) := Fld.same W26 f24
  have N26 := Fr.snoc X26 N20 g_o0
  have f27 := (kFld K26 (kFld K4 (kFld K2 F_o0_id nw0) nw0) (nwS (Or.inr (sn_2 hw)) nw0))
  have f28 := (kExa K26 f25)
  obtain ⟨T29, h29, X29, e29, W29, st29⟩ := putF X26 hx hZ4 hown4 (host := "") (Or.inl (w147 hw)) Via.refl e26 f27 f28 (Or.inr ⟨(w148 hw), rfl, hnm⟩) (w81 hw) (ty := (.object "java/lang/String")) (by decide) rfl rfl (g := (mkF m 72 #[vr o0, vr o1, vr o2] [(.ref o2), (.ref o0)])) rfl rfl (hb hby d363)
  have K29 := KL.ofW W29
  have Fw29 : Fd3 Z h29 o0 (.ref o2) := Fld.same W29 f27
  have N29 := Fr.snoc X29 N26 g_o0
  -- what was kept, from the start on
  have C0 := (KL.refl h0 (WS_r73__init_ Z o0)).trans K2 na0
  have C1 := C0.trans K4 na0
  have C2 := C1.trans K26 (naO (own_mi 0 rfl) na0)
  have C3 := C2.trans K29 (naO (own_mi 1 rfl) na0)
  have f30 := (kFld K29 Fw26 (nwS (Or.inr (sn_3 hw)) nw0))
  have sz_2_4 := (Nat.le_trans K26.1 K29.1)
  refine ⟨T29, _, none, _, _, X29, hS4, (by rw [e29]; exact (Nat.le_trans hk4 sz_2_4)), (fun h => by cases h <;> rfl), ?_, fun fs hr => ?_⟩
  · show Q_r73__init_ Z o0 o1 o2 o_6 i_7 i_8 k_o_6 i_13 o_17 i_18 i_19 k_o_17 h0 n0 _ T29.heap _
    rw [e29]
    exact ⟨rfl, N29, C3, f30, Fw29⟩
  · refine t_aloadN 1 X0.here hx (hb hby d323) rfl rfl rfl ?_
    refine st1 _ ?_
    refine t_aloadN 5 X1.here hx (hb hby d328) rfl rfl rfl ?_
    refine st2 _ ?_
    refine st3 _ ?_
    refine t_pop 11 X3.here hx (hb hby d335) rfl rfl ?_
    refine t_aloadN 12 X3.here hx (hb hby d336) rfl rfl rfl ?_
    refine st4 _ ?_
    refine st5 _ ?_
    refine t_pop 18 X5.here hx (hb hby d339) rfl rfl ?_
    refine t_aloadN 19 X5.here hx (hb hby d340) rfl rfl rfl ?_
    refine st9 _ ?_
    refine t_ifNo 25 X9.here hx (hb hby d348) (by decide) rfl ?_
    refine t_aloadN 26 X9.here hx (hb hby d349) rfl rfl rfl ?_
    refine t_bipush 28 (r := 58) X9.here hx (hb hby d350) (by decide) rfl ?_
    refine st14 _ ?_
    refine t_ifYes (pc := 31) 48 X14.here hx (hb hby d354) (by decide) (by decide) (by decide) ?_
    refine t_aloadN 49 X14.here hx (hb hby d355) rfl rfl rfl ?_
    refine st20 _ ?_
    refine t_ifYes (pc := 52) 65 X20.here hx (hb hby d357) (by decide) (by decide) (by decide) ?_
    refine t_aloadN 66 X20.here hx (hb hby d358) rfl rfl rfl ?_
    refine t_aloadN 67 X20.here hx (hb hby d359) rfl rfl rfl ?_
    refine st26 _ ?_
    refine t_aloadN 71 X26.here hx (hb hby d361) rfl rfl rfl ?_
    refine t_aloadN 72 X26.here hx (hb hby d362) rfl rfl rfl ?_
    refine st29 _ ?_
    exact X29.returnOut hx hret (hb hby d364) hr
def Q_r55_parse (Z : State) (o0 : Addr) (i_1 : Int32) (o_2 : Addr) (i_3 i_4 i_5 i_6 i_7 : Int32) (k_o_2 : ClassId) (u_10 : Value) (h0 : Heap) (n0 : Nat) (v : Option Value) (h : Heap) (L : List Loc) : Prop := ∃ b9 : Addr, ∃ b1_13_11 : Addr, ∃ b1_13_10_19 : Addr, ∃ b2_6_7_13_10_19 : Addr, ∃ k2_6_7_13_10_19 : ClassId, ∃ b2_6_7_13_11 : Addr, ∃ k2_6_7_13_11 : ClassId, v = some (.ref b9) ∧ Fr n0 L ∧ KL h0 h [] ∧ h0.size ≤ b9 ∧ h0.size ≤ b1_13_11 ∧ h0.size ≤ b1_13_10_19 ∧ h0.size ≤ b2_6_7_13_10_19 ∧ h0.size ≤ b2_6_7_13_11 ∧ b9 ≠ b1_13_11 ∧ b9 ≠ b1_13_10_19 ∧ b9 ≠ b2_6_7_13_10_19 ∧ b9 ≠ b2_6_7_13_11 ∧ b1_13_11 ≠ b1_13_10_19 ∧ b1_13_11 ≠ b2_6_7_13_10_19 ∧ b1_13_11 ≠ b2_6_7_13_11 ∧ b1_13_10_19 ≠ b2_6_7_13_10_19 ∧ b1_13_10_19 ≠ b2_6_7_13_11 ∧ b2_6_7_13_10_19 ≠ b2_6_7_13_11 ∧ Ex1 Z h b9 ∧ Fd2 Z h b9 (.ref b1_13_11) ∧ Fd3 Z h b9 (.ref b1_13_10_19) ∧ Ex0 Z h b1_13_11 ∧ Fd0 Z h b1_13_11 z0 ∧ Fd1 Z h b1_13_11 (.ref b2_6_7_13_11) ∧ Ex0 Z h b1_13_10_19 ∧ Fd0 Z h b1_13_10_19 z0 ∧ Fd1 Z h b1_13_10_19 (.ref b2_6_7_13_10_19) ∧ Arv Z h b2_6_7_13_10_19 k2_6_7_13_10_19 .byte 2 [(.int i_6), (.int i_7)] z0 ∧ Arv Z h b2_6_7_13_11 k2_6_7_13_11 .byte 2 [(.int i_3), (.int i_4)] z0
theorem ef_r55_parse (o0 : Addr) (m : MethodId) : entryFrame m #[(.ref o0)] 2 = mkF m 0 #[.val (.ref o0), .unset] [] := by first | (simp [entryFrame, mkF, argsToLocals, Value.category]; done) | rfl
set_option maxRecDepth 65536 in
set_option maxHeartbeats 40000000 in
theorem r55_parse (l : Launch) (Z : State) (a0 : Array Value) (hw : HW Z a0) (ws : List Jvm.Cond) (o0 : Addr) (i_1 : Int32) (o_2 : Addr) (i_3 i_4 i_5 i_6 i_7 : Int32) (k_o_2 : ClassId) (u_10 : Value) (h0 : Heap) (n0 : Nat) (Z0 : n0 ≤ h0.size) (E_o0 : Ex0 Z h0 o0) (S_COMPACT_STRINGS : SCS Z i_1) (F_o0_coder : Fd0 Z h0 o0 z0) (F_o0_value : Fd1 Z h0 o0 (.ref o_2)) (V_o_2 : Arv Z h0 o_2 k_o_2 .byte 5 [(.int i_3), (.int i_4), (.int i_5), (.int i_6), (.int i_7)] z0) (O0 : Old Z n0 h0) (hp0 : ¬ (i_1 = (0 : Int32))) (hp1 : ¬ (i_3 = (58 : Int32))) (hp2 : ¬ (i_4 = (58 : Int32))) (hp3 : i_5 = (58 : Int32)) (S_SIOOBE_FORMATTER : Sta Z Z.heap "jdk/internal/util/Preconditions" "SIOOBE_FORMATTER" "Ljava/util/function/BiFunction;" u_10) (hp4 : u_10.isRef = true) :
    MFS l Z y31_parse b10_ 2 (some (.object "com/example/keen_roster/keenroster/core/Identifier")) ws ⟨6, 9, 54, 96⟩ #[(.ref o0)] h0 (Q_r55_parse Z o0 i_1 o_2 i_3 i_4 i_5 i_6 i_7 k_o_2 u_10 h0 n0) := by
  refine own_bodyS (k := 9) (n := 54) (plainFor_of_name pn_Identifier44) (ef_r55_parse o0) (by decide) (by decide) ?_
  intro p e s m below meth c s₁ hx hby hml hown hnm hret hZ e0 hS0 hk0 X0
  have N0 := Fr.nil n0
  obtain ⟨_, T8, L8, X8, hQ8, st8⟩ := own_virtual X0 hx hZ hown (w38 hw) (w39 hw) (notFace_of_selects (args := #[]) (mvT hZ (w41 hw))) (w41 hw) (w40 hw) (w7 hw) (w42 hw) (by decide) (r56_indexOf l Z a0 hw [] o0 i_1 o_2 i_3 i_4 i_5 i_6 i_7 k_o_2 h0 n0 Z0 E_o0 S_COMPACT_STRINGS F_o0_coder F_o0_value V_o_2 O0 hp0 hp1 hp2 hp3) e0 E_o0 (W := 0) (by decide) (g := (mkF m 3 #[vr o0, .unset] [(.int 58), (.ref o0)])) rfl (by rw [hml]; rfl) (argsL := [(.int 58)]) (rest := []) (lenOf pd_14 rfl) rfl rfl (own_wr rfl rfl) (hb hby d118)
  obtain ⟨rfl, N8q, e8⟩ := hQ8
  have N8 := Fr.app N0 N8q
  obtain ⟨T9, h9, X9, e9, E9, A9, D9, -, st9⟩ := newO X8 hx hZ hown (w80 hw) (w81 hw) (w36 hw) e8 (g := (mkF m 25 #[vr o0, vi 2] [])) rfl (hb hby d218) (by decide) (by decide)
  obtain ⟨b9, g9⟩ : ∃ z, z = h0.size := ⟨_, rfl⟩
  rw [← g9] at A9 D9 st9
  have ge_b9 : h0.size ≤ b9 := Nat.le_of_eq g9.symm
  have K9 := KL.ofE E9
  have F_b9_system : Fd2 Z h9 b9 .null := D9 (Or.inr (w146 hw)) (ty := (.object "java/lang/String")) (by decide)
  have F_b9_id : Fd3 Z h9 b9 .null := D9 (Or.inr (w148 hw)) (ty := (.object "java/lang/String")) (by decide)
  have f12 := (kExa K9 E_o0)
  have f13 := (kFld K9 F_o0_value nw0)
  have f14 := (kArv K9 V_o_2 na0)
  have f15 := (kFld K9 F_o0_coder nw0)
  have f16 := (kOld K9 O0 na0)
  obtain ⟨_, T11, L11, X11, hQ11, st11⟩ := own_virtual X9 hx hZ hown (w82 hw) (w83 hw) (notFace_of_selects (args := #[]) (mvT hZ (w85 hw))) (w85 hw) (w84 hw) (w7 hw) (w86 hw) (by decide) (r60_substring l Z a0 hw [] o0 o_2 i_3 i_4 i_5 i_6 i_7 k_o_2 i_1 u_10 h9 n0 (Nat.le_trans Z0 K9.1) f12 f13 f14 S_COMPACT_STRINGS f15 f16 hp0 S_SIOOBE_FORMATTER hp4) e9 f12 (W := 2) (by decide) (g := (mkF m 32 #[vr o0, vi 2] [(.int 2), z0, (.ref o0), (.ref b9), (.ref b9)])) rfl (by rw [hml]; rfl) (argsL := [z0, (.int 2)]) (rest := [(.ref b9), (.ref b9)]) (lenOf pd_20 rfl) rfl rfl (own_wr rfl rfl) (hb hby d223)
  obtain ⟨b1_13_11, b2_6_7_13_11, k2_6_7_13_11, rfl, N11q, K11, Q11_0, Q11_1, Q11_2, Q11_3, Q11_4, Q11_5, Q11_6⟩ := hQ11
  have N11 := Fr.app N8 N11q
  have f20 := (kExa K11 f12)
  have f21 := (kFld K11 f13 nw0)
  have f22 := (kArv K11 f14 na0)
  have f23 := (kFld K11 f15 nw0)
  have f24 := (kOld K11 f16 na0)
  have sz_0_2 := (Nat.le_trans K9.1 K11.1)
  obtain ⟨_, T19, L19, X19, hQ19, st19⟩ := own_virtual X11 hx hZ hown (w117 hw) (w118 hw) (notFace_of_selects (args := #[]) (mvT hZ (w120 hw))) (w120 hw) (w119 hw) (w7 hw) (w121 hw) (by decide) (r66_substring l Z a0 hw [] o0 o_2 i_3 i_4 i_5 i_6 i_7 k_o_2 i_1 u_10 T11.heap n0 (Nat.le_trans Z0 sz_0_2) f20 f21 f22 S_COMPACT_STRINGS f23 f24 hp0 S_SIOOBE_FORMATTER hp4) rfl f20 (W := 3) (by decide) (g := (mkF m 39 #[vr o0, vi 2] [(.int 3), (.ref o0), (.ref b1_13_11), (.ref b9), (.ref b9)])) rfl (by rw [hml]; rfl) (argsL := [(.int 3)]) (rest := [(.ref b1_13_11), (.ref b9), (.ref b9)]) (lenOf pd_21 rfl) rfl rfl (own_wr rfl rfl) (hb hby d315)
  obtain ⟨b1_13_10_19, b2_6_7_13_10_19, k2_6_7_13_10_19, rfl, N19q, K19, Q19_0, Q19_1, Q19_2, Q19_3, Q19_4, Q19_5, Q19_6⟩ := hQ19
  have N19 := Fr.app N11 N19q
  have f28 := (kExa K19 Q11_3)
  have f29 := (kFld K19 Q11_5 nw0)
  have f30 := (kArv K19 Q11_6 na0)
  have f31 := (kFld K19 Q11_4 nw0)
  have f32 := (kOld K19 f24 na0)
  have f33 := (kFld K19 (kFld K11 F_b9_system nw0) nw0)
  have f34 := (kExa K19 (kExa K11 A9))
  have f35 := (kFld K19 (kFld K11 F_b9_id nw0) nw0)
  have sz_0_3 := (Nat.le_trans sz_0_2 K19.1)
  obtain ⟨_, T27, L27, X27, hS27, hk27, hZ27, hown27, hQ27, st27⟩ := own_Sinit X19 hx hZ rfl hown (w123 hw) (w124 hw) (w36 hw) (w125 hw) (by decide) (r73__init_ l Z a0 hw [] b9 b1_13_11 b1_13_10_19 b2_6_7_13_11 i_3 i_4 k2_6_7_13_11 i_1 b2_6_7_13_10_19 i_6 i_7 k2_6_7_13_10_19 T19.heap n0 (Nat.le_trans Z0 sz_0_3) f28 f29 f30 S_COMPACT_STRINGS f31 f32 hp0 hp1 hp2 Q19_3 Q19_5 Q19_6 f33 f34 (Nat.le_trans Z0 (Nat.le_trans (Nat.le_refl _) ge_b9)) f35) rfl (W := 1) (by decide) (g := (mkF m 42 #[vr o0, vi 2] [(.ref b1_13_10_19), (.ref b1_13_11), (.ref b9), (.ref b9)])) rfl (by rw [hml]; rfl) (argsL := [(.ref b1_13_11), (.ref b1_13_10_19)]) (rest := [(.ref b9)]) (lenOf pd_24 rfl) rfl rfl (own_wr rfl rfl) (hb hby d322) hS0 (Nat.le_trans hk0 sz_0_3)
  obtain ⟨rfl, N27q, K27, Q27_0, Q27_1⟩ := hQ27
  have N27 := Fr.app N19 N27q
  -- what was kept, from the start on
  have C0 := (KL.refl h0 []).trans K9 na0
  have C1 := C0.trans K11 na0
  have C2 := C1.trans K19 na0
  have C3 := C2.trans K27 (naO (Or.inr (Nat.le_trans (Nat.le_refl _) ge_b9)) (naO (Or.inr (Nat.le_trans (Nat.le_refl _) ge_b9)) na0))
  have lt_b9 : b9 < h9.size := Exa.lt A9
  have lt_b1_13_11 : b1_13_11 < T11.heap.size := Exa.lt Q11_3
  have lt_b2_6_7_13_11 : b2_6_7_13_11 < T11.heap.size := Arv.lt Q11_6
  have f36 := (kExa K27 f34)
  have f37 := (kExa K27 f28)
  have f38 := (kFld K27 f31 (nwS (Or.inl (Ne.symm (lt_ne lt_b9 Q11_0))) (nwS (Or.inl (Ne.symm (lt_ne lt_b9 Q11_0))) nw0)))
  have f39 := (kFld K27 f29 (nwS (Or.inl (Ne.symm (lt_ne lt_b9 Q11_0))) (nwS (Or.inl (Ne.symm (lt_ne lt_b9 Q11_0))) nw0)))
  have f40 := (kExa K27 Q19_3)
  have f41 := (kFld K27 Q19_4 (nwS (Or.inl (Ne.symm (lt_ne (Nat.lt_of_lt_of_le lt_b9 K11.1) Q19_0))) (nwS (Or.inl (Ne.symm (lt_ne (Nat.lt_of_lt_of_le lt_b9 K11.1) Q19_0))) nw0)))
  have f42 := (kFld K27 Q19_5 (nwS (Or.inl (Ne.symm (lt_ne (Nat.lt_of_lt_of_le lt_b9 K11.1) Q19_0))) (nwS (Or.inl (Ne.symm (lt_ne (Nat.lt_of_lt_of_le lt_b9 K11.1) Q19_0))) nw0)))
  have f43 := (kArv K27 Q19_6 (naN (lt_ne (Nat.lt_of_lt_of_le lt_b9 K11.1) Q19_1) (naN (lt_ne (Nat.lt_of_lt_of_le lt_b9 K11.1) Q19_1) na0)))
  have f44 := (kArv K27 f30 (naN (lt_ne lt_b9 Q11_1) (naN (lt_ne lt_b9 Q11_1) na0)))
  refine ⟨T27, _, some (.ref b9), _, _, X27, hS27, (by rw [show T27.heap = T27.heap from rfl]; exact hk27), (fun h => by cases h <;> rfl), ?_, fun fs hr => ?_⟩
  · show Q_r55_parse Z o0 i_1 o_2 i_3 i_4 i_5 i_6 i_7 k_o_2 u_10 h0 n0 _ T27.heap _
    exact ⟨b9, b1_13_11, b1_13_10_19, b2_6_7_13_10_19, k2_6_7_13_10_19, b2_6_7_13_11, k2_6_7_13_11, rfl, N27, C3, (Nat.le_trans (Nat.le_refl _) ge_b9), (Nat.le_trans K9.1 Q11_0), (Nat.le_trans sz_0_2 Q19_0), (Nat.le_trans sz_0_2 Q19_1), (Nat.le_trans K9.1 Q11_1), (lt_ne lt_b9 Q11_0), (lt_ne (Nat.lt_of_lt_of_le lt_b9 K11.1) Q19_0), (lt_ne (Nat.lt_of_lt_of_le lt_b9 K11.1) Q19_1), (lt_ne lt_b9 Q11_1), (lt_ne lt_b1_13_11 Q19_0), (lt_ne lt_b1_13_11 Q19_1), Q11_2, Q19_2, (Ne.symm (lt_ne lt_b2_6_7_13_11 Q19_0)), (Ne.symm (lt_ne lt_b2_6_7_13_11 Q19_1)), f36, Q27_0, Q27_1, f37, f38, f39, f40, f41, f42, f43, f44⟩
  · refine t_aloadN 1 X0.here hx (hb hby d116) rfl rfl rfl ?_
    refine t_bipush 3 (r := 58) X0.here hx (hb hby d117) (by decide) rfl ?_
    refine st8 _ ?_
    refine t_istoreN (pc' := 7) (L' := #[vr o0, vi 2]) X8.here hx (hb hby d215) rfl rfl ?_
    refine t_iloadN 8 X8.here hx (hb hby d216) rfl rfl ?_
    refine t_ifYes (pc := 8) 25 X8.here hx (hb hby d217) (by decide) (by decide) (by decide) ?_
    refine st9 _ ?_
    refine t_dup 29 X9.here hx (hb hby d219) rfl rfl ?_
    refine t_aloadN 30 X9.here hx (hb hby d220) rfl rfl rfl ?_
    refine t_iconst 31 (r := 0) X9.here hx (hb hby d221) (by decide) rfl ?_
    refine t_iloadN 32 X9.here hx (hb hby d222) rfl rfl ?_
    refine st11 _ ?_
    refine t_aloadN 36 X11.here hx (hb hby d311) rfl rfl rfl ?_
    refine t_iloadN 37 X11.here hx (hb hby d312) rfl rfl ?_
    refine t_iconst 38 (r := 1) X11.here hx (hb hby d313) (by decide) rfl ?_
    refine t_iadd 39 (r := 3) X11.here hx (hb hby d314) (by decide : ((2 : Int32) + (1 : Int32)) = (3 : Int32)) rfl ?_
    refine st19 _ ?_
    refine st27 _ ?_
    jvm_step X27.here [X27.here.top, hx, (hb hby d365), X27.method', hret, Value.isRef, FieldType.isReference]
    first | (intro acts; rw [hr _ acts rfl rfl rfl]) | rw [hr _ _ rfl rfl rfl]
    exact Steps.refl _
def Q_r82_charAt (Z : State) (o0 : Addr) (i_1 i_2 : Int32) (k_o0 : ClassId) (u_3 : Value) (h0 : Heap) (n0 : Nat) (v : Option Value) (h : Heap) (L : List Loc) : Prop := v = some (.int (i_1 &&& (255 : Int32))) ∧ Fr n0 L ∧ h = h0
theorem ef_r82_charAt (o0 : Addr) (m : MethodId) : entryFrame m #[(.ref o0), (.int 0)] 2 = mkF m 0 #[.val (.ref o0), .val (.int 0)] [] := by first | (simp [entryFrame, mkF, argsToLocals, Value.category]; done) | rfl
set_option maxRecDepth 65536 in
set_option maxHeartbeats 40000000 in
theorem r82_charAt (l : Launch) (Z : State) (a0 : Array Value) (hw : HW Z a0) (ws : List Jvm.Cond) (o0 : Addr) (i_1 i_2 : Int32) (k_o0 : ClassId) (u_3 : Value) (h0 : Heap) (n0 : Nat) (Z0 : n0 ≤ h0.size) (V_o0 : Arv Z h0 o0 k_o0 .byte 2 [(.int i_1), (.int i_2)] z0) (S_SIOOBE_FORMATTER : Sta Z Z.heap "jdk/internal/util/Preconditions" "SIOOBE_FORMATTER" "Ljava/util/function/BiFunction;" u_3) (hp0 : u_3.isRef = true) (O0 : Old Z n0 h0) :
    MF l Z y33_charAt b35_ 2 (some .char) ws ⟨2, 0, 0, 27⟩ #[(.ref o0), z0] h0 (Q_r82_charAt Z o0 i_1 i_2 k_o0 u_3 h0 n0) := by
  refine own_body (plainFor_of_name pn_StringLatin1120) (ef_r82_charAt o0) (by decide) (by decide) ?_
  intro p e s m below meth c s₁ hx hby hml hown hnm hret hZ hh e0 X0
  have N0 := Fr.nil n0
  obtain ⟨_, T4, L4, X4, hQ4, st4⟩ := own_static X0 hx hZ hown (w166 hw) (w167 hw) (w7 hw) (w168 hw) (by decide) (r_checkIndex l Z a0 hw [] (0 : Int32) (2 : Int32) u_3 h0 n0 Z0 hp0 S_SIOOBE_FORMATTER O0 (by decide) (by decide)) e0 (W := 0) (by decide) (g := (mkF m 3 #[vr o0, vi 0] [(.int 2), z0])) rfl (by rw [hml]; rfl) (argsL := [z0, (.int 2)]) (rest := []) (lenOf pd_16 rfl) rfl rfl (own_wr rfl rfl) (hb hby d389)
  obtain ⟨rfl, N4q, e4⟩ := hQ4
  have N4 := Fr.app N0 N4q
  refine ⟨T4, _, some (.int (i_1 &&& (255 : Int32))), X4, (fun h => by cases h <;> rfl), ?_, fun fs hr => ?_⟩
  · show Q_r82_charAt Z o0 i_1 i_2 k_o0 u_3 h0 n0 _ T4.heap _
    rw [e4]
    exact ⟨rfl, N4, rfl⟩
  · rw [← (show (nar .char (i_1 &&& (255 : Int32))) = (i_1 &&& (255 : Int32)) from (i2c_mask _))] at hr
    refine t_iloadN 1 X0.here hx (hb hby d386) rfl rfl ?_
    refine t_aloadN 2 X0.here hx (hb hby d387) rfl rfl rfl ?_
    refine own_arlen (pc' := 3) X0 hx hZ e0 V_o0 (hb hby d388) rfl ?_
    refine st4 _ ?_
    refine t_aloadN 7 X4.here hx (hb hby d390) rfl rfl rfl ?_
    refine t_iloadN 8 X4.here hx (hb hby d391) rfl rfl ?_
    refine own_aldB (pc' := 9) X4 hx hZ e4 V_o0 (j := 0) (v := (.int i_1)) (by decide) rfl (hb hby d392) rfl ?_
    refine t_sipush 12 (r := 255) X4.here hx (hb hby d393) (by decide) rfl ?_
    refine t_iand 13 X4.here hx (hb hby d394) rfl rfl ?_
    refine t_i2c 14 (r := (i_1 &&& (255 : Int32))) X4.here hx (hb hby d395) (i2c_mask _) rfl ?_
    exact retN X4 hx (t := .char) hret (by simp) (hb hby d396) hr
def Q_r81_charAt (Z : State) (o0 : Addr) (i_1 : Int32) (o_3 : Addr) (i_5 i_6 : Int32) (k_o_3 : ClassId) (u_7 : Value) (h0 : Heap) (n0 : Nat) (v : Option Value) (h : Heap) (L : List Loc) : Prop := v = some (.int (i_5 &&& (255 : Int32))) ∧ Fr n0 L ∧ h = h0
theorem ef_r81_charAt (o0 : Addr) (m : MethodId) : entryFrame m #[(.ref o0), (.int 0)] 2 = mkF m 0 #[.val (.ref o0), .val (.int 0)] [] := by first | (simp [entryFrame, mkF, argsToLocals, Value.category]; done) | rfl
set_option maxRecDepth 65536 in
set_option maxHeartbeats 40000000 in
theorem r81_charAt (l : Launch) (Z : State) (a0 : Array Value) (hw : HW Z a0) (ws : List Jvm.Cond) (o0 : Addr) (i_1 : Int32) (o_3 : Addr) (i_5 i_6 : Int32) (k_o_3 : ClassId) (u_7 : Value) (h0 : Heap) (n0 : Nat) (Z0 : n0 ≤ h0.size) (E_o0 : Ex0 Z h0 o0) (S_COMPACT_STRINGS : SCS Z i_1) (F_o0_coder : Fd0 Z h0 o0 z0) (O0 : Old Z n0 h0) (hp0 : ¬ (i_1 = (0 : Int32))) (F_o0_value : Fd1 Z h0 o0 (.ref o_3)) (V_o_3 : Arv Z h0 o_3 k_o_3 .byte 2 [(.int i_5), (.int i_6)] z0) (S_SIOOBE_FORMATTER : Sta Z Z.heap "jdk/internal/util/Preconditions" "SIOOBE_FORMATTER" "Ljava/util/function/BiFunction;" u_7) (hp1 : u_7.isRef = true) :
    MF l Z y34_charAt b34_ 2 (some .char) ws ⟨3, 0, 0, 40⟩ #[(.ref o0), z0] h0 (Q_r81_charAt Z o0 i_1 o_3 i_5 i_6 k_o_3 u_7 h0 n0) := by
  refine own_body (plainFor_of_name pn_String564) (ef_r81_charAt o0) (by decide) (by decide) ?_
  intro p e s m below meth c s₁ hx hby hml hown hnm hret hZ hh e0 X0
  have N0 := Fr.nil n0
  obtain ⟨_, T2, L2, X2, hQ2, st2⟩ := own_virtual X0 hx hZ hown (w48 hw) (w49 hw) (notFace_of_selects (args := #[]) (mvT hZ (w51 hw))) (w51 hw) (w50 hw) (w7 hw) (w52 hw) (by decide) (r9_isLatin1 l Z a0 hw [] o0 i_1 h0 n0 Z0 S_COMPACT_STRINGS O0 hp0 F_o0_coder) e0 E_o0 (W := 0) (by decide) (g := (mkF m 1 #[vr o0, vi 0] [(.ref o0)])) rfl (by rw [hml]; rfl) (argsL := []) (rest := []) (lenOf pd_8 rfl) rfl rfl (own_wr rfl rfl) (hb hby d380)
  obtain ⟨rfl, N2q, e2⟩ := hQ2
  have N2 := Fr.app N0 N2q
  obtain ⟨T4, X4, e4, st4⟩ := getF X2 hx hZ hown (host := "") (Or.inl (w32 hw)) Via.refl e2 F_o0_value (g := (mkF m 8 #[vr o0, vi 0] [(.ref o0)])) rfl rfl (hb hby d383)
  obtain ⟨_, T8, L8, X8, hQ8, st8⟩ := own_static X4 hx hZ hown (w163 hw) (w164 hw) (w65 hw) (w165 hw) (by decide) (r82_charAt l Z a0 hw [] o_3 i_5 i_6 k_o_3 u_7 h0 n0 Z0 V_o_3 S_SIOOBE_FORMATTER hp1 O0) e4 (W := 0) (by decide) (g := (mkF m 12 #[vr o0, vi 0] [z0, (.ref o_3)])) rfl (by rw [hml]; rfl) (argsL := [(.ref o_3), z0]) (rest := []) (lenOf pd_27 rfl) rfl rfl (own_wr rfl rfl) (hb hby d385)
  obtain ⟨rfl, N8q, e8⟩ := hQ8
  have N8 := Fr.app N2 N8q
  refine ⟨T8, _, some (.int (i_5 &&& (255 : Int32))), X8, (fun h => by cases h <;> rfl), ?_, fun fs hr => ?_⟩
  · show Q_r81_charAt Z o0 i_1 o_3 i_5 i_6 k_o_3 u_7 h0 n0 _ T8.heap _
    rw [e8]
    exact ⟨rfl, N8, rfl⟩
  · rw [← (show (nar .char (i_5 &&& (255 : Int32))) = (i_5 &&& (255 : Int32)) from (i2c_mask _))] at hr
    refine t_aloadN 1 X0.here hx (hb hby d379) rfl rfl rfl ?_
    refine st2 _ ?_
    refine t_ifNo 7 X2.here hx (hb hby d381) (by decide) rfl ?_
    refine t_aloadN 8 X2.here hx (hb hby d382) rfl rfl rfl ?_
    refine st4 _ ?_
    refine t_iloadN 12 X4.here hx (hb hby d384) rfl rfl ?_
    refine st8 _ ?_
    exact retN X8 hx (t := .char) hret (by simp) (hb hby d397) hr
def Q_r84_charAt (Z : State) (o0 : Addr) (i_1 i_2 : Int32) (k_o0 : ClassId) (u_3 : Value) (h0 : Heap) (n0 : Nat) (v : Option Value) (h : Heap) (L : List Loc) : Prop := v = some (.int (i_2 &&& (255 : Int32))) ∧ Fr n0 L ∧ h = h0
theorem ef_r84_charAt (o0 : Addr) (m : MethodId) : entryFrame m #[(.ref o0), (.int 1)] 2 = mkF m 0 #[.val (.ref o0), .val (.int 1)] [] := by first | (simp [entryFrame, mkF, argsToLocals, Value.category]; done) | rfl
set_option maxRecDepth 65536 in
set_option maxHeartbeats 40000000 in
theorem r84_charAt (l : Launch) (Z : State) (a0 : Array Value) (hw : HW Z a0) (ws : List Jvm.Cond) (o0 : Addr) (i_1 i_2 : Int32) (k_o0 : ClassId) (u_3 : Value) (h0 : Heap) (n0 : Nat) (Z0 : n0 ≤ h0.size) (V_o0 : Arv Z h0 o0 k_o0 .byte 2 [(.int i_1), (.int i_2)] z0) (S_SIOOBE_FORMATTER : Sta Z Z.heap "jdk/internal/util/Preconditions" "SIOOBE_FORMATTER" "Ljava/util/function/BiFunction;" u_3) (hp0 : u_3.isRef = true) (O0 : Old Z n0 h0) :
    MF l Z y33_charAt b35_ 2 (some .char) ws ⟨2, 0, 0, 27⟩ #[(.ref o0), (.int 1)] h0 (Q_r84_charAt Z o0 i_1 i_2 k_o0 u_3 h0 n0) := by
  refine own_body (plainFor_of_name pn_StringLatin1120) (ef_r84_charAt o0) (by decide) (by decide) ?_
  intro p e s m below meth c s₁ hx hby hml hown hnm hret hZ hh e0 X0
  have N0 := Fr.nil n0
  obtain ⟨_, T4, L4, X4, hQ4, st4⟩ := own_static X0 hx hZ hown (w166 hw) (w167 hw) (w7 hw) (w168 hw) (by decide) (r_checkIndex l Z a0 hw [] (1 : Int32) (2 : Int32) u_3 h0 n0 Z0 hp0 S_SIOOBE_FORMATTER O0 (by decide) (by decide)) e0 (W := 0) (by decide) (g := (mkF m 3 #[vr o0, vi 1] [(.int 2), (.int 1)])) rfl (by rw [hml]; rfl) (argsL := [(.int 1), (.int 2)]) (rest := []) (lenOf pd_16 rfl) rfl rfl (own_wr rfl rfl) (hb hby d389)
  obtain ⟨rfl, N4q, e4⟩ := hQ4
  have N4 := Fr.app N0 N4q
  refine ⟨T4, _, some (.int (i_2 &&& (255 : Int32))), X4, (fun h => by cases h <;> rfl), ?_, fun fs hr => ?_⟩
  · show Q_r84_charAt Z o0 i_1 i_2 k_o0 u_3 h0 n0 _ T4.heap _
    rw [e4]
    exact ⟨rfl, N4, rfl⟩
  · rw [← (show (nar .char (i_2 &&& (255 : Int32))) = (i_2 &&& (255 : Int32)) from (i2c_mask _))] at hr
    refine t_iloadN 1 X0.here hx (hb hby d386) rfl rfl ?_
    refine t_aloadN 2 X0.here hx (hb hby d387) rfl rfl rfl ?_
    refine own_arlen (pc' := 3) X0 hx hZ e0 V_o0 (hb hby d388) rfl ?_
    refine st4 _ ?_
    refine t_aloadN 7 X4.here hx (hb hby d390) rfl rfl rfl ?_
    refine t_iloadN 8 X4.here hx (hb hby d391) rfl rfl ?_
    refine own_aldB (pc' := 9) X4 hx hZ e4 V_o0 (j := 1) (v := (.int i_2)) (by decide) rfl (hb hby d392) rfl ?_
    refine t_sipush 12 (r := 255) X4.here hx (hb hby d393) (by decide) rfl ?_
    refine t_iand 13 X4.here hx (hb hby d394) rfl rfl ?_
    refine t_i2c 14 (r := (i_2 &&& (255 : Int32))) X4.here hx (hb hby d395) (i2c_mask _) rfl ?_
    exact retN X4 hx (t := .char) hret (by simp) (hb hby d396) hr
def Q_r83_charAt (Z : State) (o0 : Addr) (i_1 : Int32) (o_3 : Addr) (i_5 i_6 : Int32) (k_o_3 : ClassId) (u_7 : Value) (h0 : Heap) (n0 : Nat) (v : Option Value) (h : Heap) (L : List Loc) : Prop := v = some (.int (i_6 &&& (255 : Int32))) ∧ Fr n0 L ∧ h = h0
theorem ef_r83_charAt (o0 : Addr) (m : MethodId) : entryFrame m #[(.ref o0), (.int 1)] 2 = mkF m 0 #[.val (.ref o0), .val (.int 1)] [] := by first | (simp [entryFrame, mkF, argsToLocals, Value.category]; done) | rfl
set_option maxRecDepth 65536 in
set_option maxHeartbeats 40000000 in
theorem r83_charAt (l : Launch) (Z : State) (a0 : Array Value) (hw : HW Z a0) (ws : List Jvm.Cond) (o0 : Addr) (i_1 : Int32) (o_3 : Addr) (i_5 i_6 : Int32) (k_o_3 : ClassId) (u_7 : Value) (h0 : Heap) (n0 : Nat) (Z0 : n0 ≤ h0.size) (E_o0 : Ex0 Z h0 o0) (S_COMPACT_STRINGS : SCS Z i_1) (F_o0_coder : Fd0 Z h0 o0 z0) (O0 : Old Z n0 h0) (hp0 : ¬ (i_1 = (0 : Int32))) (F_o0_value : Fd1 Z h0 o0 (.ref o_3)) (V_o_3 : Arv Z h0 o_3 k_o_3 .byte 2 [(.int i_5), (.int i_6)] z0) (S_SIOOBE_FORMATTER : Sta Z Z.heap "jdk/internal/util/Preconditions" "SIOOBE_FORMATTER" "Ljava/util/function/BiFunction;" u_7) (hp1 : u_7.isRef = true) :
    MF l Z y34_charAt b34_ 2 (some .char) ws ⟨3, 0, 0, 40⟩ #[(.ref o0), (.int 1)] h0 (Q_r83_charAt Z o0 i_1 o_3 i_5 i_6 k_o_3 u_7 h0 n0) := by
  refine own_body (plainFor_of_name pn_String564) (ef_r83_charAt o0) (by decide) (by decide) ?_
  intro p e s m below meth c s₁ hx hby hml hown hnm hret hZ hh e0 X0
  have N0 := Fr.nil n0
  obtain ⟨_, T2, L2, X2, hQ2, st2⟩ := own_virtual X0 hx hZ hown (w48 hw) (w49 hw) (notFace_of_selects (args := #[]) (mvT hZ (w51 hw))) (w51 hw) (w50 hw) (w7 hw) (w52 hw) (by decide) (r9_isLatin1 l Z a0 hw [] o0 i_1 h0 n0 Z0 S_COMPACT_STRINGS O0 hp0 F_o0_coder) e0 E_o0 (W := 0) (by decide) (g := (mkF m 1 #[vr o0, vi 1] [(.ref o0)])) rfl (by rw [hml]; rfl) (argsL := []) (rest := []) (lenOf pd_8 rfl) rfl rfl (own_wr rfl rfl) (hb hby d380)
  obtain ⟨rfl, N2q, e2⟩ := hQ2
  have N2 := Fr.app N0 N2q
  obtain ⟨T4, X4, e4, st4⟩ := getF X2 hx hZ hown (host := "") (Or.inl (w32 hw)) Via.refl e2 F_o0_value (g := (mkF m 8 #[vr o0, vi 1] [(.ref o0)])) rfl rfl (hb hby d383)
  obtain ⟨_, T8, L8, X8, hQ8, st8⟩ := own_static X4 hx hZ hown (w163 hw) (w164 hw) (w65 hw) (w165 hw) (by decide) (r84_charAt l Z a0 hw [] o_3 i_5 i_6 k_o_3 u_7 h0 n0 Z0 V_o_3 S_SIOOBE_FORMATTER hp1 O0) e4 (W := 0) (by decide) (g := (mkF m 12 #[vr o0, vi 1] [(.int 1), (.ref o_3)])) rfl (by rw [hml]; rfl) (argsL := [(.ref o_3), (.int 1)]) (rest := []) (lenOf pd_27 rfl) rfl rfl (own_wr rfl rfl) (hb hby d385)
  obtain ⟨rfl, N8q, e8⟩ := hQ8
  have N8 := Fr.app N2 N8q
  refine ⟨T8, _, some (.int (i_6 &&& (255 : Int32))), X8, (fun h => by cases h <;> rfl), ?_, fun fs hr => ?_⟩
  · show Q_r83_charAt Z o0 i_1 o_3 i_5 i_6 k_o_3 u_7 h0 n0 _ T8.heap _
    rw [e8]
    exact ⟨rfl, N8, rfl⟩
  · rw [← (show (nar .char (i_6 &&& (255 : Int32))) = (i_6 &&& (255 : Int32)) from (i2c_mask _))] at hr
    refine t_aloadN 1 X0.here hx (hb hby d379) rfl rfl rfl ?_
    refine st2 _ ?_
    refine t_ifNo 7 X2.here hx (hb hby d381) (by decide) rfl ?_
    refine t_aloadN 8 X2.here hx (hb hby d382) rfl rfl rfl ?_
    refine st4 _ ?_
    refine t_iloadN 12 X4.here hx (hb hby d384) rfl rfl ?_
    refine st8 _ ?_
    exact retN X8 hx (t := .char) hret (by simp) (hb hby d397) hr
def Q_r80_same (Z : State) (o0 o1 o_1 : Addr) (i_2 i_3 : Int32) (k_o_1 : ClassId) (i_4 : Int32) (u_6 : Value) (i_8 i_9 i_10 i_11 i_12 : Int32) (k_o1 : ClassId) (h0 : Heap) (n0 : Nat) (v : Option Value) (h : Heap) (L : List Loc) : Prop := v = some (.int 1) ∧ Fr n0 L ∧ h = h0
theorem ef_r80_same (o0 o1 : Addr) (m : MethodId) : entryFrame m #[(.ref o0), (.ref o1), (.int 0), (.int 2)] 4 = mkF m 0 #[.val (.ref o0), .val (.ref o1), .val (.int 0), .val (.int 2)] [] := by first | (simp [entryFrame, mkF, argsToLocals, Value.category]; done) | rfl
set_option maxRecDepth 65536 in
set_option maxHeartbeats 40000000 in
theorem r80_same (l : Launch) (Z : State) (a0 : Array Value) (hw : HW Z a0) (ws : List Jvm.Cond) (o0 o1 o_1 : Addr) (i_2 i_3 : Int32) (k_o_1 : ClassId) (i_4 : Int32) (u_6 : Value) (i_8 i_9 i_10 i_11 i_12 : Int32) (k_o1 : ClassId) (h0 : Heap) (n0 : Nat) (Z0 : n0 ≤ h0.size) (E_o0 : Ex0 Z h0 o0) (F_o0_value : Fd1 Z h0 o0 (.ref o_1)) (V_o_1 : Arv Z h0 o_1 k_o_1 .byte 2 [(.int i_2), (.int i_3)] z0) (S_COMPACT_STRINGS : SCS Z i_4) (F_o0_coder : Fd0 Z h0 o0 z0) (O0 : Old Z n0 h0) (hp0 : ¬ (i_4 = (0 : Int32))) (S_SIOOBE_FORMATTER : Sta Z Z.heap "jdk/internal/util/Preconditions" "SIOOBE_FORMATTER" "Ljava/util/function/BiFunction;" u_6) (hp1 : u_6.isRef = true) (V_o1 : Arv Z h0 o1 k_o1 .char 5 [(.int i_8), (.int i_9), (.int i_10), (.int i_11), (.int i_12)] z0) (hp2 : (i_2 &&& (255 : Int32)) = i_8) (hp3 : (i_3 &&& (255 : Int32)) = i_9) :
    MF l Z y35_same b33_ 4 (some .boolean) ws ⟨4, 0, 0, 53⟩ #[(.ref o0), (.ref o1), z0, (.int 2)] h0 (Q_r80_same Z o0 o1 o_1 i_2 i_3 k_o_1 i_4 u_6 i_8 i_9 i_10 i_11 i_12 k_o1 h0 n0) := by
  refine own_body (plainFor_of_name pn_IdentifierParsePinLaw141) (ef_r80_same o0 o1) (by decide) (by decide) ?_
  intro p e s m below meth c s₁ hx hby hml hown hnm hret hZ hh e0 X0
  have N0 := Fr.nil n0
  obtain ⟨_, T5, L5, X5, hQ5, st5⟩ := own_virtual X0 hx hZ hown (w157 hw) (w54 hw) (notFace_of_selects (args := #[]) (mvT hZ (w56 hw))) (w56 hw) (w55 hw) (w7 hw) (w57 hw) (by decide) (r77_length l Z a0 hw [] o0 o_1 i_2 i_3 k_o_1 i_4 h0 n0 Z0 F_o0_value V_o_1 E_o0 S_COMPACT_STRINGS F_o0_coder O0 hp0) e0 E_o0 (W := 0) (by decide) (g := (mkF m 1 #[vr o0, vr o1, vi 0, vi 2] [(.ref o0)])) rfl (by rw [hml]; rfl) (argsL := []) (rest := []) (lenOf pd_10 rfl) rfl rfl (own_wr rfl rfl) (hb hby d370)
  obtain ⟨rfl, N5q, e5⟩ := hQ5
  have N5 := Fr.app N0 N5q
  obtain ⟨_, T7, L7, X7, hQ7, st7⟩ := own_virtual X5 hx hZ hown (w158 hw) (w159 hw) (notFace_of_selects (args := #[]) (mvT hZ (w161 hw))) (w161 hw) (w160 hw) (w7 hw) (w162 hw) (by decide) (r81_charAt l Z a0 hw [] o0 i_4 o_1 i_2 i_3 k_o_1 u_6 h0 n0 Z0 E_o0 S_COMPACT_STRINGS F_o0_coder O0 hp0 F_o0_value V_o_1 S_SIOOBE_FORMATTER hp1) e5 E_o0 (W := 0) (by decide) (g := (mkF m 17 #[vr o0, vr o1, vi 0, vi 2] [z0, (.ref o0)])) rfl (by rw [hml]; rfl) (argsL := [z0]) (rest := []) (lenOf pd_2 rfl) rfl rfl (own_wr rfl rfl) (hb hby d378)
  obtain ⟨rfl, N7q, e7⟩ := hQ7
  have N7 := Fr.app N5 N7q
  obtain ⟨_, T13, L13, X13, hQ13, st13⟩ := own_virtual X7 hx hZ hown (w158 hw) (w159 hw) (notFace_of_selects (args := #[]) (mvT hZ (w161 hw))) (w161 hw) (w160 hw) (w7 hw) (w162 hw) (by decide) (r83_charAt l Z a0 hw [] o0 i_4 o_1 i_2 i_3 k_o_1 u_6 h0 n0 Z0 E_o0 S_COMPACT_STRINGS F_o0_coder O0 hp0 F_o0_value V_o_1 S_SIOOBE_FORMATTER hp1) e7 E_o0 (W := 0) (by decide) (g := (mkF m 35 #[vr o0, vr o1, vi 0, vi 2] [(.int 1), (.ref o0)])) rfl (by rw [hml]; rfl) (argsL := [(.int 1)]) (rest := []) (lenOf pd_2 rfl) rfl rfl (own_wr rfl rfl) (hb hby d418)
  obtain ⟨rfl, N13q, e13⟩ := hQ13
  have N13 := Fr.app N7 N13q
  refine ⟨T13, _, some (.int 1), X13, (fun h => by cases h <;> rfl), ?_, fun fs hr => ?_⟩
  · show Q_r80_same Z o0 o1 o_1 i_2 i_3 k_o_1 i_4 u_6 i_8 i_9 i_10 i_11 i_12 k_o1 h0 n0 _ T13.heap _
    rw [e13]
    exact ⟨rfl, N13, rfl⟩
  · refine t_aloadN 1 X0.here hx (hb hby d369) rfl rfl rfl ?_
    refine st5 _ ?_
    refine t_iloadN 5 X5.here hx (hb hby d371) rfl rfl ?_
    refine t_icmpYes (pc := 5) 10 X5.here hx (hb hby d372) (by decide) (by decide) (by decide) ?_
    refine t_iloadN 11 X5.here hx (hb hby d373) rfl rfl ?_
    refine t_iconst 12 (r := 1) X5.here hx (hb hby d374) (by decide) rfl ?_
    refine t_icmpNo 15 X5.here hx (hb hby d375) (by decide) rfl ?_
    refine t_aloadN 16 X5.here hx (hb hby d376) rfl rfl rfl ?_
    refine t_iconst 17 (r := 0) X5.here hx (hb hby d377) (by decide) rfl ?_
    refine st7 _ ?_
    refine t_aloadN 21 X7.here hx (hb hby d398) rfl rfl rfl ?_
    refine t_iloadN 22 X7.here hx (hb hby d399) rfl rfl ?_
    refine own_aldC (pc' := 23) X7 hx hZ e7 V_o1 (j := 0) (v := (.int i_8)) (by decide) rfl (hb hby d400) rfl ?_
    refine t_icmpYes (pc := 23) 28 X7.here hx (hb hby d401) (teq hp2).1 (by decide) (by decide) ?_
    refine t_iloadN 29 X7.here hx (hb hby d402) rfl rfl ?_
    refine t_iconst 30 (r := 2) X7.here hx (hb hby d403) (by decide) rfl ?_
    refine t_icmpNo 33 X7.here hx (hb hby d404) (by decide) rfl ?_
    refine t_aloadN 34 X7.here hx (hb hby d416) rfl rfl rfl ?_
    refine t_iconst 35 (r := 1) X7.here hx (hb hby d417) (by decide) rfl ?_
    refine st13 _ ?_
    refine t_aloadN 39 X13.here hx (hb hby d419) rfl rfl rfl ?_
    refine t_iloadN 40 X13.here hx (hb hby d420) rfl rfl ?_
    refine t_iconst 41 (r := 1) X13.here hx (hb hby d421) (by decide) rfl ?_
    refine t_iadd 42 (r := 1) X13.here hx (hb hby d422) (by decide : ((0 : Int32) + (1 : Int32)) = (1 : Int32)) rfl ?_
    refine own_aldC (pc' := 43) X13 hx hZ e13 V_o1 (j := 1) (v := (.int i_9)) (by decide) rfl (hb hby d423) rfl ?_
    refine t_icmpYes (pc := 43) 48 X13.here hx (hb hby d424) (teq hp3).1 (by decide) (by decide) ?_
    refine t_iloadN 49 X13.here hx (hb hby d405) rfl rfl ?_
    refine t_iconst 50 (r := 3) X13.here hx (hb hby d406) (by decide) rfl ?_
    refine t_icmpYes (pc := 50) 68 X13.here hx (hb hby d407) (by decide) (by decide) (by decide) ?_
    refine t_iloadN 69 X13.here hx (hb hby d408) rfl rfl ?_
    refine t_iconst 70 (r := 4) X13.here hx (hb hby d409) (by decide) rfl ?_
    refine t_icmpYes (pc := 70) 88 X13.here hx (hb hby d410) (by decide) (by decide) (by decide) ?_
    refine t_iconst 89 (r := 1) X13.here hx (hb hby d411) (by decide) rfl ?_
    exact retN X13 hx (t := .boolean) hret (by simp) (hb hby d412) hr
def Q_r85_same (Z : State) (o0 o1 o_1 : Addr) (i_2 i_3 : Int32) (k_o_1 : ClassId) (i_4 : Int32) (u_6 : Value) (i_8 i_9 i_10 i_11 i_12 : Int32) (k_o1 : ClassId) (h0 : Heap) (n0 : Nat) (v : Option Value) (h : Heap) (L : List Loc) : Prop := v = some (.int 1) ∧ Fr n0 L ∧ h = h0
theorem ef_r85_same (o0 o1 : Addr) (m : MethodId) : entryFrame m #[(.ref o0), (.ref o1), (.int 3), (.int 2)] 4 = mkF m 0 #[.val (.ref o0), .val (.ref o1), .val (.int 3), .val (.int 2)] [] := by first | (simp [entryFrame, mkF, argsToLocals, Value.category]; done) | rfl
set_option maxRecDepth 65536 in
set_option maxHeartbeats 40000000 in
theorem r85_same (l : Launch) (Z : State) (a0 : Array Value) (hw : HW Z a0) (ws : List Jvm.Cond) (o0 o1 o_1 : Addr) (i_2 i_3 : Int32) (k_o_1 : ClassId) (i_4 : Int32) (u_6 : Value) (i_8 i_9 i_10 i_11 i_12 : Int32) (k_o1 : ClassId) (h0 : Heap) (n0 : Nat) (Z0 : n0 ≤ h0.size) (E_o0 : Ex0 Z h0 o0) (F_o0_value : Fd1 Z h0 o0 (.ref o_1)) (V_o_1 : Arv Z h0 o_1 k_o_1 .byte 2 [(.int i_2), (.int i_3)] z0) (S_COMPACT_STRINGS : SCS Z i_4) (F_o0_coder : Fd0 Z h0 o0 z0) (O0 : Old Z n0 h0) (hp0 : ¬ (i_4 = (0 : Int32))) (S_SIOOBE_FORMATTER : Sta Z Z.heap "jdk/internal/util/Preconditions" "SIOOBE_FORMATTER" "Ljava/util/function/BiFunction;" u_6) (hp1 : u_6.isRef = true) (V_o1 : Arv Z h0 o1 k_o1 .char 5 [(.int i_8), (.int i_9), (.int i_10), (.int i_11), (.int i_12)] z0) (hp2 : (i_2 &&& (255 : Int32)) = i_11) (hp3 : (i_3 &&& (255 : Int32)) = i_12) :
    MF l Z y35_same b33_ 4 (some .boolean) ws ⟨4, 0, 0, 53⟩ #[(.ref o0), (.ref o1), (.int 3), (.int 2)] h0 (Q_r85_same Z o0 o1 o_1 i_2 i_3 k_o_1 i_4 u_6 i_8 i_9 i_10 i_11 i_12 k_o1 h0 n0) := by
  refine own_body (plainFor_of_name pn_IdentifierParsePinLaw141) (ef_r85_same o0 o1) (by decide) (by decide) ?_
  intro p e s m below meth c s₁ hx hby hml hown hnm hret hZ hh e0 X0
  have N0 := Fr.nil n0
  obtain ⟨_, T5, L5, X5, hQ5, st5⟩ := own_virtual X0 hx hZ hown (w157 hw) (w54 hw) (notFace_of_selects (args := #[]) (mvT hZ (w56 hw))) (w56 hw) (w55 hw) (w7 hw) (w57 hw) (by decide) (r77_length l Z a0 hw [] o0 o_1 i_2 i_3 k_o_1 i_4 h0 n0 Z0 F_o0_value V_o_1 E_o0 S_COMPACT_STRINGS F_o0_coder O0 hp0) e0 E_o0 (W := 0) (by decide) (g := (mkF m 1 #[vr o0, vr o1, vi 3, vi 2] [(.ref o0)])) rfl (by rw [hml]; rfl) (argsL := []) (rest := []) (lenOf pd_10 rfl) rfl rfl (own_wr rfl rfl) (hb hby d370)
  obtain ⟨rfl, N5q, e5⟩ := hQ5
  have N5 := Fr.app N0 N5q
  obtain ⟨_, T7, L7, X7, hQ7, st7⟩ := own_virtual X5 hx hZ hown (w158 hw) (w159 hw) (notFace_of_selects (args := #[]) (mvT hZ (w161 hw))) (w161 hw) (w160 hw) (w7 hw) (w162 hw) (by decide) (r81_charAt l Z a0 hw [] o0 i_4 o_1 i_2 i_3 k_o_1 u_6 h0 n0 Z0 E_o0 S_COMPACT_STRINGS F_o0_coder O0 hp0 F_o0_value V_o_1 S_SIOOBE_FORMATTER hp1) e5 E_o0 (W := 0) (by decide) (g := (mkF m 17 #[vr o0, vr o1, vi 3, vi 2] [z0, (.ref o0)])) rfl (by rw [hml]; rfl) (argsL := [z0]) (rest := []) (lenOf pd_2 rfl) rfl rfl (own_wr rfl rfl) (hb hby d378)
  obtain ⟨rfl, N7q, e7⟩ := hQ7
  have N7 := Fr.app N5 N7q
  obtain ⟨_, T13, L13, X13, hQ13, st13⟩ := own_virtual X7 hx hZ hown (w158 hw) (w159 hw) (notFace_of_selects (args := #[]) (mvT hZ (w161 hw))) (w161 hw) (w160 hw) (w7 hw) (w162 hw) (by decide) (r83_charAt l Z a0 hw [] o0 i_4 o_1 i_2 i_3 k_o_1 u_6 h0 n0 Z0 E_o0 S_COMPACT_STRINGS F_o0_coder O0 hp0 F_o0_value V_o_1 S_SIOOBE_FORMATTER hp1) e7 E_o0 (W := 0) (by decide) (g := (mkF m 35 #[vr o0, vr o1, vi 3, vi 2] [(.int 1), (.ref o0)])) rfl (by rw [hml]; rfl) (argsL := [(.int 1)]) (rest := []) (lenOf pd_2 rfl) rfl rfl (own_wr rfl rfl) (hb hby d418)
  obtain ⟨rfl, N13q, e13⟩ := hQ13
  have N13 := Fr.app N7 N13q
  refine ⟨T13, _, some (.int 1), X13, (fun h => by cases h <;> rfl), ?_, fun fs hr => ?_⟩
  · show Q_r85_same Z o0 o1 o_1 i_2 i_3 k_o_1 i_4 u_6 i_8 i_9 i_10 i_11 i_12 k_o1 h0 n0 _ T13.heap _
    rw [e13]
    exact ⟨rfl, N13, rfl⟩
  · refine t_aloadN 1 X0.here hx (hb hby d369) rfl rfl rfl ?_
    refine st5 _ ?_
    refine t_iloadN 5 X5.here hx (hb hby d371) rfl rfl ?_
    refine t_icmpYes (pc := 5) 10 X5.here hx (hb hby d372) (by decide) (by decide) (by decide) ?_
    refine t_iloadN 11 X5.here hx (hb hby d373) rfl rfl ?_
    refine t_iconst 12 (r := 1) X5.here hx (hb hby d374) (by decide) rfl ?_
    refine t_icmpNo 15 X5.here hx (hb hby d375) (by decide) rfl ?_
    refine t_aloadN 16 X5.here hx (hb hby d376) rfl rfl rfl ?_
    refine t_iconst 17 (r := 0) X5.here hx (hb hby d377) (by decide) rfl ?_
    refine st7 _ ?_
    refine t_aloadN 21 X7.here hx (hb hby d398) rfl rfl rfl ?_
    refine t_iloadN 22 X7.here hx (hb hby d399) rfl rfl ?_
    refine own_aldC (pc' := 23) X7 hx hZ e7 V_o1 (j := 3) (v := (.int i_11)) (by decide) rfl (hb hby d400) rfl ?_
    refine t_icmpYes (pc := 23) 28 X7.here hx (hb hby d401) (teq hp2).1 (by decide) (by decide) ?_
    refine t_iloadN 29 X7.here hx (hb hby d402) rfl rfl ?_
    refine t_iconst 30 (r := 2) X7.here hx (hb hby d403) (by decide) rfl ?_
    refine t_icmpNo 33 X7.here hx (hb hby d404) (by decide) rfl ?_
    refine t_aloadN 34 X7.here hx (hb hby d416) rfl rfl rfl ?_
    refine t_iconst 35 (r := 1) X7.here hx (hb hby d417) (by decide) rfl ?_
    refine st13 _ ?_
    refine t_aloadN 39 X13.here hx (hb hby d419) rfl rfl rfl ?_
    refine t_iloadN 40 X13.here hx (hb hby d420) rfl rfl ?_
    refine t_iconst 41 (r := 1) X13.here hx (hb hby d421) (by decide) rfl ?_
    refine t_iadd 42 (r := 4) X13.here hx (hb hby d422) (by decide : ((3 : Int32) + (1 : Int32)) = (4 : Int32)) rfl ?_
    refine own_aldC (pc' := 43) X13 hx hZ e13 V_o1 (j := 4) (v := (.int i_12)) (by decide) rfl (hb hby d423) rfl ?_
    refine t_icmpYes (pc := 43) 48 X13.here hx (hb hby d424) (teq hp3).1 (by decide) (by decide) ?_
    refine t_iloadN 49 X13.here hx (hb hby d405) rfl rfl ?_
    refine t_iconst 50 (r := 3) X13.here hx (hb hby d406) (by decide) rfl ?_
    refine t_icmpYes (pc := 50) 68 X13.here hx (hb hby d407) (by decide) (by decide) (by decide) ?_
    refine t_iloadN 69 X13.here hx (hb hby d408) rfl rfl ?_
    refine t_iconst 70 (r := 4) X13.here hx (hb hby d409) (by decide) rfl ?_
    refine t_icmpYes (pc := 70) 88 X13.here hx (hb hby d410) (by decide) (by decide) (by decide) ?_
    refine t_iconst 89 (r := 1) X13.here hx (hb hby d411) (by decide) rfl ?_
    exact retN X13 hx (t := .boolean) hret (by simp) (hb hby d412) hr
theorem ef_law_2 (p0 p1 p2 p3 p4 : Int32) (m : MethodId) : entryFrame m #[(.int p0), (.int p1), (.int p2), (.int p3), (.int p4)] maxLocals = mkF m 0 #[.val (.int p0), .val (.int p1), .val (.int p2), .val (.int p3), .val (.int p4), .unset, .unset, .unset] [] := by first | (simp [entryFrame, mkF, argsToLocals, Value.category, maxLocals]; done) | rfl
set_option maxRecDepth 65536 in
set_option maxHeartbeats 40000000 in
theorem law_2 (l : Launch) (Z : State) (a0 : Array Value) (hw : HW Z a0) (ws : List Jvm.Cond) (p0 p1 p2 p3 p4 cs : Int32) (fm : Value) (h0 : Heap) (n0 : Nat) (Z0 : n0 ≤ h0.size) (hn0 : ¬ ((p0 &&& (255 : Int32)) = (58 : Int32))) (hn1 : ¬ ((own_pick p1) = (58 : Int32))) (he2 : (own_pick p2) = (58 : Int32)) (hcs : ¬ (cs = (0 : Int32))) (hfm : fm.isRef = true) (S_COMPACT_STRINGS : SCS Z cs) (O0 : Old Z n0 h0) (S_SIOOBE_FORMATTER : Sta Z Z.heap "jdk/internal/util/Preconditions" "SIOOBE_FORMATTER" "Ljava/util/function/BiFunction;" fm) :
    MetFree l x (head1 (Jvm.Cond.code x code maxLocals ret :: ws) room_1) (fun a U => a = #[(.int p0), (.int p1), (.int p2), (.int p3), (.int p4)] ∧ Z.Warmed39 U.vm ∧ U.heap = h0) (fun _ _ _ _ _ => True) (fun _ U o U' => ∃ v L, o = .returned v ∧ Q_law n0 v L ∧ ReturnedEndW U o U' L 32 2176) := by
  refine own_bodyS (k := 12) (n := 68) (y := x) (Q := fun v _ L => Q_law n0 v L) (plainFor_of_name pn_IdentifierParsePinLaw141) (ef_law_2 p0 p1 p2 p3 p4) (by decide) (by decide) ?_
  intro p e s m below meth c s₁ hx hby hml hown hnm hret hZ e0 hS0 hk0 X0
  have N0 := Fr.nil n0
  obtain ⟨T1, h1, k1, X1, e1, E1, A1, st1⟩ := newP (aty := .char) X0 hx hZ (w0 hw) e0 (g := (mkF m 1 #[vi p0, vi p1, vi p2, vi p3, vi p4, .unset, .unset, .unset] [(.int 5)])) rfl (hb hby at_1) rfl (by decide) (cap := 5) (by decide) (by decide) (by decide) (by decide)
  obtain ⟨b1, g1⟩ : ∃ z, z = h0.size := ⟨_, rfl⟩
  rw [← g1] at A1 st1
  have ge_b1 : h0.size ≤ b1 := Nat.le_of_eq g1.symm
  have K1 := KL.ofE E1
  have V1 : Arv Z h1 b1 k1 .char 5 [z0, z0, z0, z0, z0] z0 := (Arv.new A1 (by decide)).pad (pad_rep [] z0 5)
  obtain ⟨T2, h2, X2, e2, W2, V2, st2⟩ := own_astC X1 hx hZ e1 V1 (j := 0) (by decide) 0 rfl (Nat.le_of_ble_eq_true rfl) (g := (mkF m 14 #[vi p0, vi p1, vi p2, vi p3, vi p4, vr b1, .unset, .unset] [(.int (p0 &&& (255 : Int32))), z0, (.ref b1)])) rfl rfl (hb hby at_14)
  rw [show (nar .char (p0 &&& (255 : Int32))) = (p0 &&& (255 : Int32)) from (i2c_mask _)] at V2
  have K2 := KL.ofW W2
  replace V2 : Arv Z h2 b1 k1 .char 5 [(.int (p0 &&& (255 : Int32))), z0, z0, z0, z0] z0 := V2
  have N2 := Fr.snoc X2 N0 (Nat.le_trans Z0 (Nat.le_trans (Nat.le_refl _) ge_b1))
  have sz_0_2 := (Nat.le_trans K1.1 K2.1)
  obtain ⟨_, T3, L3, X3, hQ3, st3⟩ := own_static X2 hx hZ hown (w1 hw) (w2 hw) (w3 hw) (w4 hw) (by decide) (r_pick l Z a0 hw [] p1 h2 n0 (Nat.le_trans Z0 sz_0_2)) e2 (W := 2) (by decide) (g := (mkF m 19 #[vi p0, vi p1, vi p2, vi p3, vi p4, vr b1, .unset, .unset] [(.int p1), (.int 1), (.ref b1)])) rfl (by rw [hml]; rfl) (argsL := [(.int p1)]) (rest := [(.int 1), (.ref b1)]) (lenOf pd_2 rfl) rfl rfl (own_wr rfl rfl) (hb hby at_19)
  obtain ⟨rfl, N3q, e3⟩ := hQ3
  have N3 := Fr.app N2 N3q
  obtain ⟨T4, h4, X4, e4, W4, V4, st4⟩ := own_astC X3 hx hZ e3 V2 (j := 1) (by decide) 1 rfl (Nat.le_of_ble_eq_true rfl) (g := (mkF m 22 #[vi p0, vi p1, vi p2, vi p3, vi p4, vr b1, .unset, .unset] [(.int (own_pick p1)), (.int 1), (.ref b1)])) rfl rfl (hb hby at_22)
  rw [show (nar .char (own_pick p1)) = (own_pick p1) from (own_c2c (own_picka p1) (own_pickb p1))] at V4
  have K4 := KL.ofW W4
  replace V4 : Arv Z h4 b1 k1 .char 5 [(.int (p0 &&& (255 : Int32))), (.int (own_pick p1)), z0, z0, z0] z0 := V4
  have N4 := Fr.snoc X4 N3 (Nat.le_trans Z0 (Nat.le_trans (Nat.le_refl _) ge_b1))
  have sz_0_3 := (Nat.le_trans sz_0_2 K4.1)
  obtain ⟨_, T5, L5, X5, hQ5, st5⟩ := own_static X4 hx hZ hown (w1 hw) (w2 hw) (w3 hw) (w4 hw) (by decide) (r_pick l Z a0 hw [] p2 h4 n0 (Nat.le_trans Z0 sz_0_3)) e4 (W := 2) (by decide) (g := (mkF m 27 #[vi p0, vi p1, vi p2, vi p3, vi p4, vr b1, .unset, .unset] [(.int p2), (.int 2), (.ref b1)])) rfl (by rw [hml]; rfl) (argsL := [(.int p2)]) (rest := [(.int 2), (.ref b1)]) (lenOf pd_2 rfl) rfl rfl (own_wr rfl rfl) (hb hby at_27)
  obtain ⟨rfl, N5q, e5⟩ := hQ5
  have N5 := Fr.app N4 N5q
  obtain ⟨T6, h6, X6, e6, W6, V6, st6⟩ := own_astC X5 hx hZ e5 V4 (j := 2) (by decide) 2 rfl (Nat.le_of_ble_eq_true rfl) (g := (mkF m 30 #[vi p0, vi p1, vi p2, vi p3, vi p4, vr b1, .unset, .unset] [(.int (own_pick p2)), (.int 2), (.ref b1)])) rfl rfl (hb hby at_30)
  rw [show (nar .char (own_pick p2)) = (own_pick p2) from (own_c2c (own_picka p2) (own_pickb p2))] at V6
  have K6 := KL.ofW W6
  replace V6 : Arv Z h6 b1 k1 .char 5 [(.int (p0 &&& (255 : Int32))), (.int (own_pick p1)), (.int (own_pick p2)), z0, z0] z0 := V6
  have N6 := Fr.snoc X6 N5 (Nat.le_trans Z0 (Nat.le_trans (Nat.le_refl _) ge_b1))
  have sz_0_4 := (Nat.le_trans sz_0_3 K6.1)
  obtain ⟨_, T7, L7, X7, hQ7, st7⟩ := own_static X6 hx hZ hown (w1 hw) (w2 hw) (w3 hw) (w4 hw) (by decide) (r_pick l Z a0 hw [] p3 h6 n0 (Nat.le_trans Z0 sz_0_4)) e6 (W := 2) (by decide) (g := (mkF m 35 #[vi p0, vi p1, vi p2, vi p3, vi p4, vr b1, .unset, .unset] [(.int p3), (.int 3), (.ref b1)])) rfl (by rw [hml]; rfl) (argsL := [(.int p3)]) (rest := [(.int 3), (.ref b1)]) (lenOf pd_2 rfl) rfl rfl (own_wr rfl rfl) (hb hby at_35)
  obtain ⟨rfl, N7q, e7⟩ := hQ7
  have N7 := Fr.app N6 N7q
  obtain ⟨T8, h8, X8, e8, W8, V8, st8⟩ := own_astC X7 hx hZ e7 V6 (j := 3) (by decide) 3 rfl (Nat.le_of_ble_eq_true rfl) (g := (mkF m 38 #[vi p0, vi p1, vi p2, vi p3, vi p4, vr b1, .unset, .unset] [(.int (own_pick p3)), (.int 3), (.ref b1)])) rfl rfl (hb hby at_38)
  rw [show (nar .char (own_pick p3)) = (own_pick p3) from (own_c2c (own_picka p3) (own_pickb p3))] at V8
  have K8 := KL.ofW W8
  replace V8 : Arv Z h8 b1 k1 .char 5 [(.int (p0 &&& (255 : Int32))), (.int (own_pick p1)), (.int (own_pick p2)), (.int (own_pick p3)), z0] z0 := V8
  have N8 := Fr.snoc X8 N7 (Nat.le_trans Z0 (Nat.le_trans (Nat.le_refl _) ge_b1))
  have sz_0_5 := (Nat.le_trans sz_0_4 K8.1)
  obtain ⟨_, T9, L9, X9, hQ9, st9⟩ := own_static X8 hx hZ hown (w1 hw) (w2 hw) (w3 hw) (w4 hw) (by decide) (r_pick l Z a0 hw [] p4 h8 n0 (Nat.le_trans Z0 sz_0_5)) e8 (W := 2) (by decide) (g := (mkF m 44 #[vi p0, vi p1, vi p2, vi p3, vi p4, vr b1, .unset, .unset] [(.int p4), (.int 4), (.ref b1)])) rfl (by rw [hml]; rfl) (argsL := [(.int p4)]) (rest := [(.int 4), (.ref b1)]) (lenOf pd_2 rfl) rfl rfl (own_wr rfl rfl) (hb hby at_44)
  obtain ⟨rfl, N9q, e9⟩ := hQ9
  have N9 := Fr.app N8 N9q
  obtain ⟨T10, h10, X10, e10, W10, V10, st10⟩ := own_astC X9 hx hZ e9 V8 (j := 4) (by decide) 4 rfl (Nat.le_of_ble_eq_true rfl) (g := (mkF m 47 #[vi p0, vi p1, vi p2, vi p3, vi p4, vr b1, .unset, .unset] [(.int (own_pick p4)), (.int 4), (.ref b1)])) rfl rfl (hb hby at_47)
  rw [show (nar .char (own_pick p4)) = (own_pick p4) from (own_c2c (own_picka p4) (own_pickb p4))] at V10
  have K10 := KL.ofW W10
  replace V10 : Arv Z h10 b1 k1 .char 5 [(.int (p0 &&& (255 : Int32))), (.int (own_pick p1)), (.int (own_pick p2)), (.int (own_pick p3)), (.int (own_pick p4))] z0 := V10
  have N10 := Fr.snoc X10 N9 (Nat.le_trans Z0 (Nat.le_trans (Nat.le_refl _) ge_b1))
  obtain ⟨T11, h11, X11, e11, E11, A11, D11, -, st11⟩ := newO X10 hx hZ hown (w5 hw) (w6 hw) (w7 hw) e10 (g := (mkF m 136 #[vi p0, vi p1, vi p2, vi p3, vi p4, vr b1, vi 2, .unset] [])) rfl (hb hby at_136) (by decide) (by decide)
  obtain ⟨b11, g11⟩ : ∃ z, z = h10.size := ⟨_, rfl⟩
  rw [← g11] at A11 D11 st11
  have ge_b11 : h10.size ≤ b11 := Nat.le_of_eq g11.symm
  have K11 := KL.ofE E11
  have F_b11_coder : Fd0 Z h11 b11 z0 := D11 (Or.inr (w31 hw)) (ty := .byte) (by decide)
  have F_b11_value : Fd1 Z h11 b11 .null := D11 (Or.inr (w33 hw)) (ty := (.array .byte)) (by decide)
  have f13 := (kArv K11 V10 na0)
  have f14 := (kOld K11 (kOld K10 (kOld K8 (kOld K6 (kOld K4 (kOld K2 (kOld K1 O0 na0) (naS (P := fun w => n0 ≤ w.1) (Nat.le_trans Z0 (Nat.le_trans (Nat.le_refl _) ge_b1)) na0)) (naS (P := fun w => n0 ≤ w.1) (Nat.le_trans Z0 (Nat.le_trans (Nat.le_refl _) ge_b1)) na0)) (naS (P := fun w => n0 ≤ w.1) (Nat.le_trans Z0 (Nat.le_trans (Nat.le_refl _) ge_b1)) na0)) (naS (P := fun w => n0 ≤ w.1) (Nat.le_trans Z0 (Nat.le_trans (Nat.le_refl _) ge_b1)) na0)) (naS (P := fun w => n0 ≤ w.1) (Nat.le_trans Z0 (Nat.le_trans (Nat.le_refl _) ge_b1)) na0)) na0)
  have sz_0_6 := (Nat.le_trans sz_0_5 K10.1)
  have sz_0_7 := (Nat.le_trans sz_0_6 K11.1)
  obtain ⟨_, T12, L12, X12, hQ12, st12⟩ := own_init X11 hx hZ rfl hown (w8 hw) (w9 hw) (w7 hw) (w10 hw) (by decide) (r1__init_ l Z a0 hw [] b11 b1 (p0 &&& (255 : Int32)) (own_pick p1) (own_pick p2) (own_pick p3) (own_pick p4) k1 cs h11 n0 (Nat.le_trans Z0 sz_0_7) f13 S_COMPACT_STRINGS F_b11_coder A11 F_b11_value f14 hcs (own_m255b p0) (own_pickb p1) (own_pickb p2) (own_pickb p3) (own_pickb p4) (Nat.le_trans Z0 (Nat.le_trans sz_0_6 ge_b11))) e11 (W := 1) (by decide) (g := (mkF m 142 #[vi p0, vi p1, vi p2, vi p3, vi p4, vr b1, vi 2, .unset] [(.ref b1), (.ref b11), (.ref b11)])) rfl (by rw [hml]; rfl) (argsL := [(.ref b1)]) (rest := [(.ref b11)]) (lenOf pd_7 rfl) rfl rfl (own_wr rfl rfl) (hb hby at_142)
  obtain ⟨b1_9_7_12, k1_9_7_12, rfl, N12q, K12, Q12_0, Q12_1, Q12_2, Q12_3⟩ := hQ12
  have N12 := Fr.app N10 N12q
  have f17 := (kExa K12 A11)
  have f18 := (kOld K12 f14 (naS (P := fun w => n0 ≤ w.1) (Nat.le_trans Z0 (Nat.le_trans sz_0_6 ge_b11)) (naS (P := fun w => n0 ≤ w.1) (Nat.le_trans Z0 (Nat.le_trans sz_0_6 ge_b11)) na0)))
  have sz_0_8 := (Nat.le_trans sz_0_7 K12.1)
  obtain ⟨_, T16, L16, X16, hS16, hk16, hZ16, hown16, hQ16, st16⟩ := own_Sstatic X12 hx hZ hown (w34 hw) (w35 hw) (w36 hw) (w37 hw) (by decide) (r55_parse l Z a0 hw [] b11 cs b1_9_7_12 ((p0 &&& (255 : Int32)).toInt8.toInt32) ((own_pick p1).toInt8.toInt32) ((own_pick p2).toInt8.toInt32) ((own_pick p3).toInt8.toInt32) ((own_pick p4).toInt8.toInt32) k1_9_7_12 fm T12.heap n0 (Nat.le_trans Z0 sz_0_8) f17 S_COMPACT_STRINGS Q12_1 Q12_2 Q12_3 f18 hcs (own_n58 (own_m255a p0) (own_m255b p0) hn0) (own_n58 (own_picka p1) (own_pickb p1) hn1) (own_b58 he2) S_SIOOBE_FORMATTER hfm) rfl (W := 0) (by decide) (g := (mkF m 145 #[vi p0, vi p1, vi p2, vi p3, vi p4, vr b1, vi 2, .unset] [(.ref b11)])) rfl (by rw [hml]; rfl) (argsL := [(.ref b11)]) (rest := []) (lenOf pd_25 rfl) rfl rfl (own_wr rfl rfl) (hb hby at_145) hS0 (Nat.le_trans hk0 sz_0_8)
  obtain ⟨b9_16, b1_13_11_16, b1_13_10_19_16, b2_6_7_13_10_19_16, k2_6_7_13_10_19_16, b2_6_7_13_11_16, k2_6_7_13_11_16, rfl, N16q, K16, Q16_0, Q16_1, Q16_2, Q16_3, Q16_4, Q16_5, Q16_6, Q16_7, Q16_8, Q16_9, Q16_10, Q16_11, Q16_12, Q16_13, Q16_14, Q16_15, Q16_16, Q16_17, Q16_18, Q16_19, Q16_20, Q16_21, Q16_22, Q16_23, Q16_24, Q16_25⟩ := hQ16
  have N16 := Fr.app N12 N16q
  have sz_0_9 := (Nat.le_trans sz_0_8 K16.1)
  obtain ⟨_, T24, L24, X24, hQ24, st24⟩ := own_virtual X16 hx hZ16 hown16 (w149 hw) (w150 hw) (notFace_of_selects (args := #[]) (mvT hZ16 (w152 hw))) (w152 hw) (w151 hw) (w36 hw) (w153 hw) (by decide) (r42_system l Z a0 hw [] b9_16 b1_13_11_16 T16.heap n0 (Nat.le_trans Z0 sz_0_9) Q16_16) rfl Q16_15 (W := 0) (by decide) (g := (mkF m 152 #[vi p0, vi p1, vi p2, vi p3, vi p4, vr b1, vi 2, vr b9_16] [(.ref b9_16)])) rfl (by rw [hml]; rfl) (argsL := []) (rest := []) (lenOf pd_26 rfl) rfl rfl (own_wr rfl rfl) (hb hby at_152)
  obtain ⟨rfl, N24q, e24⟩ := hQ24
  have N24 := Fr.app N16 N24q
  have f26 := (kOld K16 f18 na0)
  have lt_b1 : b1 < h1.size := Arv.lt V1
  have sz_1_3 := (Nat.le_trans K2.1 K4.1)
  have sz_1_4 := (Nat.le_trans sz_1_3 K6.1)
  have sz_1_5 := (Nat.le_trans sz_1_4 K8.1)
  have sz_1_6 := (Nat.le_trans sz_1_5 K10.1)
  have f27 := (kArv K16 (kArv K12 f13 (naN (Ne.symm (lt_ne (Nat.lt_of_lt_of_le lt_b1 sz_1_6) ge_b11)) (naN (Ne.symm (lt_ne (Nat.lt_of_lt_of_le lt_b1 sz_1_6) ge_b11)) na0))) na0)
  obtain ⟨_, T25, L25, X25, hQ25, st25⟩ := own_static X24 hx hZ16 hown16 (w154 hw) (w155 hw) (w3 hw) (w156 hw) (by decide) (r80_same l Z a0 hw [] b1_13_11_16 b1 b2_6_7_13_11_16 ((p0 &&& (255 : Int32)).toInt8.toInt32) ((own_pick p1).toInt8.toInt32) k2_6_7_13_11_16 cs fm (p0 &&& (255 : Int32)) (own_pick p1) (own_pick p2) (own_pick p3) (own_pick p4) k1 T16.heap n0 (Nat.le_trans Z0 sz_0_9) Q16_18 Q16_20 Q16_25 S_COMPACT_STRINGS Q16_19 f26 hcs S_SIOOBE_FORMATTER hfm f27 (own_b2c (own_m255a p0) (own_m255b p0)) (own_b2c (own_picka p1) (own_pickb p1))) e24 (W := 0) (by decide) (g := (mkF m 160 #[vi p0, vi p1, vi p2, vi p3, vi p4, vr b1, vi 2, vr b9_16] [(.int 2), z0, (.ref b1), (.ref b1_13_11_16)])) rfl (by rw [hml]; rfl) (argsL := [(.ref b1_13_11_16), (.ref b1), z0, (.int 2)]) (rest := []) (lenOf pd_28 rfl) rfl rfl (own_wr rfl rfl) (hb hby at_160)
  obtain ⟨rfl, N25q, e25⟩ := hQ25
  have N25 := Fr.app N24 N25q
  obtain ⟨_, T28, L28, X28, hQ28, st28⟩ := own_virtual X25 hx hZ16 hown16 (w172 hw) (w173 hw) (notFace_of_selects (args := #[]) (mvT hZ16 (w175 hw))) (w175 hw) (w174 hw) (w36 hw) (w176 hw) (by decide) (r46_id l Z a0 hw [] b9_16 b1_13_10_19_16 T16.heap n0 (Nat.le_trans Z0 sz_0_9) Q16_17) e25 Q16_15 (W := 0) (by decide) (g := (mkF m 168 #[vi p0, vi p1, vi p2, vi p3, vi p4, vr b1, vi 2, vr b9_16] [(.ref b9_16)])) rfl (by rw [hml]; rfl) (argsL := []) (rest := []) (lenOf pd_26 rfl) rfl rfl (own_wr rfl rfl) (hb hby at_168)
  obtain ⟨rfl, N28q, e28⟩ := hQ28
  have N28 := Fr.app N25 N28q
  obtain ⟨_, T29, L29, X29, hQ29, st29⟩ := own_static X28 hx hZ16 hown16 (w154 hw) (w155 hw) (w3 hw) (w156 hw) (by decide) (r85_same l Z a0 hw [] b1_13_10_19_16 b1 b2_6_7_13_10_19_16 ((own_pick p3).toInt8.toInt32) ((own_pick p4).toInt8.toInt32) k2_6_7_13_10_19_16 cs fm (p0 &&& (255 : Int32)) (own_pick p1) (own_pick p2) (own_pick p3) (own_pick p4) k1 T16.heap n0 (Nat.le_trans Z0 sz_0_9) Q16_21 Q16_23 Q16_24 S_COMPACT_STRINGS Q16_22 f26 hcs S_SIOOBE_FORMATTER hfm f27 (own_b2c (own_picka p3) (own_pickb p3)) (own_b2c (own_picka p4) (own_pickb p4))) e28 (W := 0) (by decide) (g := (mkF m 181 #[vi p0, vi p1, vi p2, vi p3, vi p4, vr b1, vi 2, vr b9_16] [(.int 2), (.int 3), (.ref b1), (.ref b1_13_10_19_16)])) rfl (by rw [hml]; rfl) (argsL := [(.ref b1_13_10_19_16), (.ref b1), (.int 3), (.int 2)]) (rest := []) (lenOf pd_28 rfl) rfl rfl (own_wr rfl rfl) (hb hby at_181)
  obtain ⟨rfl, N29q, e29⟩ := hQ29
  have N29 := Fr.app N28 N29q
  refine ⟨T29, _, some (.int 1), _, _, X29, hS16, (by rw [e29]; exact hk16), (fun h => by cases h <;> rfl), ?_, fun fs hr => ?_⟩
  · show Q_law n0 _ _
    exact ⟨rfl, N29⟩
  · refine t_iconst 1 (r := 5) X0.here hx (hb hby at_0) (by decide) rfl ?_
    refine st1 _ ?_
    refine t_astore (pc' := 5) (L' := #[vi p0, vi p1, vi p2, vi p3, vi p4, vr b1, .unset, .unset]) X1.here hx (hb hby at_3) rfl rfl rfl ?_
    refine t_aload 7 X1.here hx (hb hby at_5) rfl rfl rfl ?_
    refine t_iconst 8 (r := 0) X1.here hx (hb hby at_7) (by decide) rfl ?_
    refine t_iloadN 9 X1.here hx (hb hby at_8) rfl rfl ?_
    refine t_sipush 12 (r := 255) X1.here hx (hb hby at_9) (by decide) rfl ?_
    refine t_iand 13 X1.here hx (hb hby at_12) rfl rfl ?_
    refine t_i2c 14 (r := (p0 &&& (255 : Int32))) X1.here hx (hb hby at_13) (i2c_mask _) rfl ?_
    refine st2 _ ?_
    refine t_aload 17 X2.here hx (hb hby at_15) rfl rfl rfl ?_
    refine t_iconst 18 (r := 1) X2.here hx (hb hby at_17) (by decide) rfl ?_
    refine t_iloadN 19 X2.here hx (hb hby at_18) rfl rfl ?_
    refine st3 _ ?_
    refine st4 _ ?_
    refine t_aload 25 X4.here hx (hb hby at_23) rfl rfl rfl ?_
    refine t_iconst 26 (r := 2) X4.here hx (hb hby at_25) (by decide) rfl ?_
    refine t_iloadN 27 X4.here hx (hb hby at_26) rfl rfl ?_
    refine st5 _ ?_
    refine st6 _ ?_
    refine t_aload 33 X6.here hx (hb hby at_31) rfl rfl rfl ?_
    refine t_iconst 34 (r := 3) X6.here hx (hb hby at_33) (by decide) rfl ?_
    refine t_iloadN 35 X6.here hx (hb hby at_34) rfl rfl ?_
    refine st7 _ ?_
    refine st8 _ ?_
    refine t_aload 41 X8.here hx (hb hby at_39) rfl rfl rfl ?_
    refine t_iconst 42 (r := 4) X8.here hx (hb hby at_41) (by decide) rfl ?_
    refine t_iload 44 X8.here hx (hb hby at_42) rfl rfl ?_
    refine st9 _ ?_
    refine st10 _ ?_
    refine t_iconst 49 (r := (-1 : Int32)) X10.here hx (hb hby at_48) (by decide) rfl ?_
    refine t_istore (pc' := 51) (L' := #[vi p0, vi p1, vi p2, vi p3, vi p4, vr b1, vi ((-1)), .unset]) X10.here hx (hb hby at_49) rfl rfl ?_
    refine t_aload 53 X10.here hx (hb hby at_51) rfl rfl rfl ?_
    refine t_iconst 54 (r := 0) X10.here hx (hb hby at_53) (by decide) rfl ?_
    refine own_aldC (pc' := 55) X10 hx hZ e10 V10 (j := 0) (v := (.int (p0 &&& (255 : Int32)))) (by decide) rfl (hb hby at_54) rfl ?_
    refine t_bipush 57 (r := 58) X10.here hx (hb hby at_55) (by decide) rfl ?_
    refine t_icmpYes (pc := 57) 66 X10.here hx (hb hby at_57) (feq hn0).2 (by decide) (by decide) ?_
    refine t_aload 68 X10.here hx (hb hby at_66) rfl rfl rfl ?_
    refine t_iconst 69 (r := 1) X10.here hx (hb hby at_68) (by decide) rfl ?_
    refine own_aldC (pc' := 70) X10 hx hZ e10 V10 (j := 1) (v := (.int (own_pick p1))) (by decide) rfl (hb hby at_69) rfl ?_
    refine t_bipush 72 (r := 58) X10.here hx (hb hby at_70) (by decide) rfl ?_
    refine t_icmpYes (pc := 72) 81 X10.here hx (hb hby at_72) (feq hn1).2 (by decide) (by decide) ?_
    refine t_aload 83 X10.here hx (hb hby at_81) rfl rfl rfl ?_
    refine t_iconst 84 (r := 2) X10.here hx (hb hby at_83) (by decide) rfl ?_
    refine own_aldC (pc' := 85) X10 hx hZ e10 V10 (j := 2) (v := (.int (own_pick p2))) (by decide) rfl (hb hby at_84) rfl ?_
    refine t_bipush 87 (r := 58) X10.here hx (hb hby at_85) (by decide) rfl ?_
    refine t_icmpNo 90 X10.here hx (hb hby at_87) (teq he2).2 rfl ?_
    refine t_iconst 91 (r := 2) X10.here hx (hb hby at_90) (by decide) rfl ?_
    refine t_istore (pc' := 93) (L' := #[vi p0, vi p1, vi p2, vi p3, vi p4, vr b1, vi 2, .unset]) X10.here hx (hb hby at_91) rfl rfl ?_
    refine t_goto (pc := 93) 123 X10.here hx (hb hby at_93) (by decide) (by decide) ?_
    refine t_iload 125 X10.here hx (hb hby at_123) rfl rfl ?_
    refine t_ifNo 128 X10.here hx (hb hby at_125) (by decide) rfl ?_
    refine t_iload 130 X10.here hx (hb hby at_128) rfl rfl ?_
    refine t_iconst 131 (r := 4) X10.here hx (hb hby at_130) (by decide) rfl ?_
    refine t_icmpYes (pc := 131) 136 X10.here hx (hb hby at_131) (by decide) (by decide) (by decide) ?_
    refine st11 _ ?_
    refine t_dup 140 X11.here hx (hb hby at_139) rfl rfl ?_
    refine t_aload 142 X11.here hx (hb hby at_140) rfl rfl rfl ?_
    refine st12 _ ?_
    refine st16 _ ?_
    refine t_astore (pc' := 150) (L' := #[vi p0, vi p1, vi p2, vi p3, vi p4, vr b1, vi 2, vr b9_16]) X16.here hx (hb hby at_148) rfl rfl rfl ?_
    refine t_aload 152 X16.here hx (hb hby at_150) rfl rfl rfl ?_
    refine st24 _ ?_
    refine t_aload 157 X24.here hx (hb hby at_155) rfl rfl rfl ?_
    refine t_iconst 158 (r := 0) X24.here hx (hb hby at_157) (by decide) rfl ?_
    refine t_iload 160 X24.here hx (hb hby at_158) rfl rfl ?_
    refine st25 _ ?_
    refine t_ifNo 166 X25.here hx (hb hby at_163) (by decide) rfl ?_
    refine t_aload 168 X25.here hx (hb hby at_166) rfl rfl rfl ?_
    refine st28 _ ?_
    refine t_aload 173 X28.here hx (hb hby at_171) rfl rfl rfl ?_
    refine t_iload 175 X28.here hx (hb hby at_173) rfl rfl ?_
    refine t_iconst 176 (r := 1) X28.here hx (hb hby at_175) (by decide) rfl ?_
    refine t_iadd 177 (r := 3) X28.here hx (hb hby at_176) (by decide : ((2 : Int32) + (1 : Int32)) = (3 : Int32)) rfl ?_
    refine t_iconst 178 (r := 4) X28.here hx (hb hby at_177) (by decide) rfl ?_
    refine t_iload 180 X28.here hx (hb hby at_178) rfl rfl ?_
    refine t_isub 181 (r := 2) X28.here hx (hb hby at_180) (by decide : ((4 : Int32) - (2 : Int32)) = (2 : Int32)) rfl ?_
    refine st29 _ ?_
    refine t_ifNo 187 X29.here hx (hb hby at_184) (by decide) rfl ?_
    refine t_iconst 188 (r := 1) X29.here hx (hb hby at_187) (by decide) rfl ?_
    refine t_goto (pc := 188) 192 X29.here hx (hb hby at_188) (by decide) (by decide) ?_
    exact retN X29 hx (t := .boolean) hret (by simp) (hb hby at_192) hr
def Q_r90_indexOfChar (Z : State) (o0 : Addr) (i_1 i_2 i_3 i_4 i_5 : Int32) (k_o0 : ClassId) (h0 : Heap) (n0 : Nat) (v : Option Value) (h : Heap) (L : List Loc) : Prop := v = some (.int 3) ∧ Fr n0 L ∧ h = h0
theorem ef_r90_indexOfChar (o0 : Addr) (m : MethodId) : entryFrame m #[(.ref o0), (.int 58), (.int 0), (.int 5)] 6 = mkF m 0 #[.val (.ref o0), .val (.int 58), .val (.int 0), .val (.int 5), .unset, .unset] [] := by first | (simp [entryFrame, mkF, argsToLocals, Value.category]; done) | rfl
set_option maxRecDepth 65536 in
set_option maxHeartbeats 40000000 in
theorem r90_indexOfChar (l : Launch) (Z : State) (a0 : Array Value) (hw : HW Z a0) (ws : List Jvm.Cond) (o0 : Addr) (i_1 i_2 i_3 i_4 i_5 : Int32) (k_o0 : ClassId) (h0 : Heap) (n0 : Nat) (Z0 : n0 ≤ h0.size) (V_o0 : Arv Z h0 o0 k_o0 .byte 5 [(.int i_1), (.int i_2), (.int i_3), (.int i_4), (.int i_5)] z0) (hp0 : ¬ (i_1 = (58 : Int32))) (hp1 : ¬ (i_2 = (58 : Int32))) (hp2 : ¬ (i_3 = (58 : Int32))) (hp3 : i_4 = (58 : Int32)) :
    MF l Z y16_indexOfChar b20_ 6 (some .int) ws ⟨0, 0, 0, 0⟩ #[(.ref o0), (.int 58), z0, (.int 5)] h0 (Q_r90_indexOfChar Z o0 i_1 i_2 i_3 i_4 i_5 k_o0 h0 n0) := by
  refine own_body (plainFor_of_name pn_StringLatin1120) (ef_r90_indexOfChar o0) (by decide) (by decide) ?_
  intro p e s m below meth c s₁ hx hby hml hown hnm hret hZ hh e0 X0
  have N0 := Fr.nil n0
  refine ⟨s₁, _, some (.int 3), X0, (fun h => by cases h <;> rfl), ?_, fun fs hr => ?_⟩
  · show Q_r90_indexOfChar Z o0 i_1 i_2 i_3 i_4 i_5 k_o0 h0 n0 _ s₁.heap _
    rw [e0]
    exact ⟨rfl, N0, rfl⟩
  · refine t_iloadN 1 X0.here hx (hb hby d194) rfl rfl ?_
    refine t_i2b 2 (r := 58) X0.here hx (hb hby d195) (by decide : ((58 : Int32).toInt8.toInt32) = (58 : Int32)) rfl ?_
    refine t_istore (pc' := 4) (L' := #[vr o0, vi 58, vi 0, vi 5, vi 58, .unset]) X0.here hx (hb hby d196) rfl rfl ?_
    refine t_iloadN 5 X0.here hx (hb hby d197) rfl rfl ?_
    refine t_istore (pc' := 7) (L' := #[vr o0, vi 58, vi 0, vi 5, vi 58, vi 0]) X0.here hx (hb hby d198) rfl rfl ?_
    refine t_iload 9 X0.here hx (hb hby d199) rfl rfl ?_
    refine t_iloadN 10 X0.here hx (hb hby d200) rfl rfl ?_
    refine t_icmpNo 13 X0.here hx (hb hby d201) (by decide) rfl ?_
    refine t_aloadN 14 X0.here hx (hb hby d202) rfl rfl rfl ?_
    refine t_iload 16 X0.here hx (hb hby d203) rfl rfl ?_
    refine own_aldB (pc' := 17) X0 hx hZ e0 V_o0 (j := 0) (v := (.int i_1)) (by decide) rfl (hb hby d204) rfl ?_
    refine t_iload 19 X0.here hx (hb hby d205) rfl rfl ?_
    refine t_icmpYes (pc := 19) 25 X0.here hx (hb hby d206) (feq hp0).2 (by decide) (by decide) ?_
    refine t_iinc (pc' := 28) (L' := #[vr o0, vi 58, vi 0, vi 5, vi 58, vi 1]) X0.here hx (hb hby d207) rfl (by first | rfl | decide) rfl ?_
    refine t_goto (pc := 28) 7 X0.here hx (hb hby d208) (by decide) (by decide) ?_
    refine t_iload 9 X0.here hx (hb hby d199) rfl rfl ?_
    refine t_iloadN 10 X0.here hx (hb hby d200) rfl rfl ?_
    refine t_icmpNo 13 X0.here hx (hb hby d201) (by decide) rfl ?_
    refine t_aloadN 14 X0.here hx (hb hby d202) rfl rfl rfl ?_
    refine t_iload 16 X0.here hx (hb hby d203) rfl rfl ?_
    refine own_aldB (pc' := 17) X0 hx hZ e0 V_o0 (j := 1) (v := (.int i_2)) (by decide) rfl (hb hby d204) rfl ?_
    refine t_iload 19 X0.here hx (hb hby d205) rfl rfl ?_
    refine t_icmpYes (pc := 19) 25 X0.here hx (hb hby d206) (feq hp1).2 (by decide) (by decide) ?_
    refine t_iinc (pc' := 28) (L' := #[vr o0, vi 58, vi 0, vi 5, vi 58, vi 2]) X0.here hx (hb hby d207) rfl (by first | rfl | decide) rfl ?_
    refine t_goto (pc := 28) 7 X0.here hx (hb hby d208) (by decide) (by decide) ?_
    refine t_iload 9 X0.here hx (hb hby d199) rfl rfl ?_
    refine t_iloadN 10 X0.here hx (hb hby d200) rfl rfl ?_
    refine t_icmpNo 13 X0.here hx (hb hby d201) (by decide) rfl ?_
    refine t_aloadN 14 X0.here hx (hb hby d202) rfl rfl rfl ?_
    refine t_iload 16 X0.here hx (hb hby d203) rfl rfl ?_
    refine own_aldB (pc' := 17) X0 hx hZ e0 V_o0 (j := 2) (v := (.int i_3)) (by decide) rfl (hb hby d204) rfl ?_
    refine t_iload 19 X0.here hx (hb hby d205) rfl rfl ?_
    refine t_icmpYes (pc := 19) 25 X0.here hx (hb hby d206) (feq hp2).2 (by decide) (by decide) ?_
    refine t_iinc (pc' := 28) (L' := #[vr o0, vi 58, vi 0, vi 5, vi 58, vi 3]) X0.here hx (hb hby d207) rfl (by first | rfl | decide) rfl ?_
    refine t_goto (pc := 28) 7 X0.here hx (hb hby d208) (by decide) (by decide) ?_
    refine t_iload 9 X0.here hx (hb hby d199) rfl rfl ?_
    refine t_iloadN 10 X0.here hx (hb hby d200) rfl rfl ?_
    refine t_icmpNo 13 X0.here hx (hb hby d201) (by decide) rfl ?_
    refine t_aloadN 14 X0.here hx (hb hby d202) rfl rfl rfl ?_
    refine t_iload 16 X0.here hx (hb hby d203) rfl rfl ?_
    refine own_aldB (pc' := 17) X0 hx hZ e0 V_o0 (j := 3) (v := (.int i_4)) (by decide) rfl (hb hby d204) rfl ?_
    refine t_iload 19 X0.here hx (hb hby d205) rfl rfl ?_
    refine t_icmpNo 22 X0.here hx (hb hby d206) (teq hp3).2 rfl ?_
    refine t_iload 24 X0.here hx (hb hby d209) rfl rfl ?_
    exact retI X0 hx hret (hb hby d210) hr
def Q_r89_indexOf (Z : State) (o0 : Addr) (i_3 i_4 i_5 i_6 i_7 : Int32) (k_o0 : ClassId) (h0 : Heap) (n0 : Nat) (v : Option Value) (h : Heap) (L : List Loc) : Prop := v = some (.int 3) ∧ Fr n0 L ∧ h = h0
theorem ef_r89_indexOf (o0 : Addr) (m : MethodId) : entryFrame m #[(.ref o0), (.int 58), (.int 0), (.int 5)] 4 = mkF m 0 #[.val (.ref o0), .val (.int 58), .val (.int 0), .val (.int 5)] [] := by first | (simp [entryFrame, mkF, argsToLocals, Value.category]; done) | rfl
set_option maxRecDepth 65536 in
set_option maxHeartbeats 40000000 in
theorem r89_indexOf (l : Launch) (Z : State) (a0 : Array Value) (hw : HW Z a0) (ws : List Jvm.Cond) (o0 : Addr) (i_3 i_4 i_5 i_6 i_7 : Int32) (k_o0 : ClassId) (h0 : Heap) (n0 : Nat) (Z0 : n0 ≤ h0.size) (V_o0 : Arv Z h0 o0 k_o0 .byte 5 [(.int i_3), (.int i_4), (.int i_5), (.int i_6), (.int i_7)] z0) (hp0 : ¬ (i_3 = (58 : Int32))) (hp1 : ¬ (i_4 = (58 : Int32))) (hp2 : ¬ (i_5 = (58 : Int32))) (hp3 : i_6 = (58 : Int32)) :
    MF l Z y17_indexOf b16_ 4 (some .int) ws ⟨1, 0, 0, 17⟩ #[(.ref o0), (.int 58), z0, (.int 5)] h0 (Q_r89_indexOf Z o0 i_3 i_4 i_5 i_6 i_7 k_o0 h0 n0) := by
  refine own_body (plainFor_of_name pn_StringLatin1120) (ef_r89_indexOf o0) (by decide) (by decide) ?_
  intro p e s m below meth c s₁ hx hby hml hown hnm hret hZ hh e0 X0
  have N0 := Fr.nil n0
  obtain ⟨_, T1, L1, X1, hQ1, st1⟩ := own_static X0 hx hZ hown (w67 hw) (w68 hw) (w65 hw) (w69 hw) (by decide) (r13_canEncode l Z a0 hw []  h0 n0 Z0) e0 (W := 0) (by decide) (g := (mkF m 1 #[vr o0, vi 58, vi 0, vi 5] [(.int 58)])) rfl (by rw [hml]; rfl) (argsL := [(.int 58)]) (rest := []) (lenOf pd_11 rfl) rfl rfl (own_wr rfl rfl) (hb hby d155)
  obtain ⟨rfl, N1q, e1⟩ := hQ1
  have N1 := Fr.app N0 N1q
  obtain ⟨_, T2, L2, X2, hQ2, st2⟩ := own_static X1 hx hZ hown (w70 hw) (w71 hw) (w72 hw) (w73 hw) (by decide) (r14_max l Z a0 hw []  h0 n0 Z0) e1 (W := 0) (by decide) (g := (mkF m 11 #[vr o0, vi 58, vi 0, vi 5] [z0, z0])) rfl (by rw [hml]; rfl) (argsL := [z0, z0]) (rest := []) (lenOf pd_12 rfl) rfl rfl (own_wr rfl rfl) (hb hby d167)
  obtain ⟨rfl, N2q, e2⟩ := hQ2
  have N2 := Fr.app N1 N2q
  obtain ⟨_, T8, L8, X8, hQ8, st8⟩ := own_static X2 hx hZ hown (w74 hw) (w75 hw) (w72 hw) (w76 hw) (by decide) (r15_min l Z a0 hw []  h0 n0 Z0) e2 (W := 0) (by decide) (g := (mkF m 18 #[vr o0, vi 58, vi 0, vi 5] [(.int 5), (.int 5)])) rfl (by rw [hml]; rfl) (argsL := [(.int 5), (.int 5)]) (rest := []) (lenOf pd_12 rfl) rfl rfl (own_wr rfl rfl) (hb hby d178)
  obtain ⟨rfl, N8q, e8⟩ := hQ8
  have N8 := Fr.app N2 N8q
  obtain ⟨_, T9, L9, X9, hQ9, st9⟩ := own_static X8 hx hZ hown (w77 hw) (w78 hw) (w65 hw) (w79 hw) (by decide) (r90_indexOfChar l Z a0 hw [] o0 i_3 i_4 i_5 i_6 i_7 k_o0 h0 n0 Z0 V_o0 hp0 hp1 hp2 hp3) e8 (W := 0) (by decide) (g := (mkF m 33 #[vr o0, vi 58, vi 0, vi 5] [(.int 5), z0, (.int 58), (.ref o0)])) rfl (by rw [hml]; rfl) (argsL := [(.ref o0), (.int 58), z0, (.int 5)]) (rest := []) (lenOf pd_13 rfl) rfl rfl (own_wr rfl rfl) (hb hby d193)
  obtain ⟨rfl, N9q, e9⟩ := hQ9
  have N9 := Fr.app N8 N9q
  refine ⟨T9, _, some (.int 3), X9, (fun h => by cases h <;> rfl), ?_, fun fs hr => ?_⟩
  · show Q_r89_indexOf Z o0 i_3 i_4 i_5 i_6 i_7 k_o0 h0 n0 _ T9.heap _
    rw [e9]
    exact ⟨rfl, N9, rfl⟩
  · refine t_iloadN 1 X0.here hx (hb hby d154) rfl rfl ?_
    refine st1 _ ?_
    refine t_ifYes (pc := 4) 9 X1.here hx (hb hby d164) (by decide) (by decide) (by decide) ?_
    refine t_iloadN 10 X1.here hx (hb hby d165) rfl rfl ?_
    refine t_iconst 11 (r := 0) X1.here hx (hb hby d166) (by decide) rfl ?_
    refine st2 _ ?_
    refine t_istoreN (pc' := 15) (L' := #[vr o0, vi 58, vi 0, vi 5]) X2.here hx (hb hby d174) rfl rfl ?_
    refine t_iloadN 16 X2.here hx (hb hby d175) rfl rfl ?_
    refine t_aloadN 17 X2.here hx (hb hby d176) rfl rfl rfl ?_
    refine own_arlen (pc' := 18) X2 hx hZ e2 V_o0 (hb hby d177) rfl ?_
    refine st8 _ ?_
    refine t_istoreN (pc' := 22) (L' := #[vr o0, vi 58, vi 0, vi 5]) X8.here hx (hb hby d185) rfl rfl ?_
    refine t_iloadN 23 X8.here hx (hb hby d186) rfl rfl ?_
    refine t_iloadN 24 X8.here hx (hb hby d187) rfl rfl ?_
    refine t_icmpYes (pc := 24) 29 X8.here hx (hb hby d188) (by decide) (by decide) (by decide) ?_
    refine t_aloadN 30 X8.here hx (hb hby d189) rfl rfl rfl ?_
    refine t_iloadN 31 X8.here hx (hb hby d190) rfl rfl ?_
    refine t_iloadN 32 X8.here hx (hb hby d191) rfl rfl ?_
    refine t_iloadN 33 X8.here hx (hb hby d192) rfl rfl ?_
    refine st9 _ ?_
    exact retI X9 hx hret (hb hby d211) hr
def Q_r88_indexOf (Z : State) (o0 : Addr) (i_1 : Int32) (o_3 : Addr) (i_5 i_6 i_7 i_8 i_9 : Int32) (k_o_3 : ClassId) (h0 : Heap) (n0 : Nat) (v : Option Value) (h : Heap) (L : List Loc) : Prop := v = some (.int 3) ∧ Fr n0 L ∧ h = h0
theorem ef_r88_indexOf (o0 : Addr) (m : MethodId) : entryFrame m #[(.ref o0), (.int 58), (.int 0)] 3 = mkF m 0 #[.val (.ref o0), .val (.int 58), .val (.int 0)] [] := by first | (simp [entryFrame, mkF, argsToLocals, Value.category]; done) | rfl
set_option maxRecDepth 65536 in
set_option maxHeartbeats 40000000 in
theorem r88_indexOf (l : Launch) (Z : State) (a0 : Array Value) (hw : HW Z a0) (ws : List Jvm.Cond) (o0 : Addr) (i_1 : Int32) (o_3 : Addr) (i_5 i_6 i_7 i_8 i_9 : Int32) (k_o_3 : ClassId) (h0 : Heap) (n0 : Nat) (Z0 : n0 ≤ h0.size) (E_o0 : Ex0 Z h0 o0) (S_COMPACT_STRINGS : SCS Z i_1) (F_o0_coder : Fd0 Z h0 o0 z0) (O0 : Old Z n0 h0) (hp0 : ¬ (i_1 = (0 : Int32))) (F_o0_value : Fd1 Z h0 o0 (.ref o_3)) (V_o_3 : Arv Z h0 o_3 k_o_3 .byte 5 [(.int i_5), (.int i_6), (.int i_7), (.int i_8), (.int i_9)] z0) (hp1 : ¬ (i_5 = (58 : Int32))) (hp2 : ¬ (i_6 = (58 : Int32))) (hp3 : ¬ (i_7 = (58 : Int32))) (hp4 : i_8 = (58 : Int32)) :
    MF l Z y18_indexOf b12_ 3 (some .int) ws ⟨2, 0, 0, 32⟩ #[(.ref o0), (.int 58), z0] h0 (Q_r88_indexOf Z o0 i_1 o_3 i_5 i_6 i_7 i_8 i_9 k_o_3 h0 n0) := by
  refine own_body (plainFor_of_name pn_String564) (ef_r88_indexOf o0) (by decide) (by decide) ?_
  intro p e s m below meth c s₁ hx hby hml hown hnm hret hZ hh e0 X0
  have N0 := Fr.nil n0
  obtain ⟨_, T2, L2, X2, hQ2, st2⟩ := own_virtual X0 hx hZ hown (w48 hw) (w49 hw) (notFace_of_selects (args := #[]) (mvT hZ (w51 hw))) (w51 hw) (w50 hw) (w7 hw) (w52 hw) (by decide) (r9_isLatin1 l Z a0 hw [] o0 i_1 h0 n0 Z0 S_COMPACT_STRINGS O0 hp0 F_o0_coder) e0 E_o0 (W := 0) (by decide) (g := (mkF m 1 #[vr o0, vi 58, vi 0] [(.ref o0)])) rfl (by rw [hml]; rfl) (argsL := []) (rest := []) (lenOf pd_8 rfl) rfl rfl (own_wr rfl rfl) (hb hby d124)
  obtain ⟨rfl, N2q, e2⟩ := hQ2
  have N2 := Fr.app N0 N2q
  obtain ⟨T4, X4, e4, st4⟩ := getF X2 hx hZ hown (host := "") (Or.inl (w32 hw)) Via.refl e2 F_o0_value (g := (mkF m 8 #[vr o0, vi 58, vi 0] [(.ref o0)])) rfl rfl (hb hby d135)
  obtain ⟨_, T10, L10, X10, hQ10, st10⟩ := own_virtual X4 hx hZ hown (w53 hw) (w54 hw) (notFace_of_selects (args := #[]) (mvT hZ (w56 hw))) (w56 hw) (w55 hw) (w7 hw) (w57 hw) (by decide) (r10_length l Z a0 hw [] o0 o_3 i_5 i_6 i_7 i_8 i_9 k_o_3 i_1 h0 n0 Z0 F_o0_value V_o_3 E_o0 S_COMPACT_STRINGS F_o0_coder O0 hp0) e4 E_o0 (W := 3) (by decide) (g := (mkF m 14 #[vr o0, vi 58, vi 0] [(.ref o0), z0, (.int 58), (.ref o_3)])) rfl (by rw [hml]; rfl) (argsL := []) (rest := [z0, (.int 58), (.ref o_3)]) (lenOf pd_10 rfl) rfl rfl (own_wr rfl rfl) (hb hby d139)
  obtain ⟨rfl, N10q, e10⟩ := hQ10
  have N10 := Fr.app N2 N10q
  obtain ⟨_, T11, L11, X11, hQ11, st11⟩ := own_static X10 hx hZ hown (w63 hw) (w64 hw) (w65 hw) (w66 hw) (by decide) (r89_indexOf l Z a0 hw [] o_3 i_5 i_6 i_7 i_8 i_9 k_o_3 h0 n0 Z0 V_o_3 hp1 hp2 hp3 hp4) e10 (W := 0) (by decide) (g := (mkF m 17 #[vr o0, vi 58, vi 0] [(.int 5), z0, (.int 58), (.ref o_3)])) rfl (by rw [hml]; rfl) (argsL := [(.ref o_3), (.int 58), z0, (.int 5)]) (rest := []) (lenOf pd_13 rfl) rfl rfl (own_wr rfl rfl) (hb hby d153)
  obtain ⟨rfl, N11q, e11⟩ := hQ11
  have N11 := Fr.app N10 N11q
  refine ⟨T11, _, some (.int 3), X11, (fun h => by cases h <;> rfl), ?_, fun fs hr => ?_⟩
  · show Q_r88_indexOf Z o0 i_1 o_3 i_5 i_6 i_7 i_8 i_9 k_o_3 h0 n0 _ T11.heap _
    rw [e11]
    exact ⟨rfl, N11, rfl⟩
  · refine t_aloadN 1 X0.here hx (hb hby d123) rfl rfl rfl ?_
    refine st2 _ ?_
    refine t_ifNo 7 X2.here hx (hb hby d133) (by decide) rfl ?_
    refine t_aloadN 8 X2.here hx (hb hby d134) rfl rfl rfl ?_
    refine st4 _ ?_
    refine t_iloadN 12 X4.here hx (hb hby d136) rfl rfl ?_
    refine t_iloadN 13 X4.here hx (hb hby d137) rfl rfl ?_
    refine t_aloadN 14 X4.here hx (hb hby d138) rfl rfl rfl ?_
    refine st10 _ ?_
    refine st11 _ ?_
    refine t_goto (pc := 20) 36 X11.here hx (hb hby d212) (by decide) (by decide) ?_
    exact retI X11 hx hret (hb hby d213) hr
def Q_r87_indexOf (Z : State) (o0 : Addr) (i_1 : Int32) (o_2 : Addr) (i_3 i_4 i_5 i_6 i_7 : Int32) (k_o_2 : ClassId) (h0 : Heap) (n0 : Nat) (v : Option Value) (h : Heap) (L : List Loc) : Prop := v = some (.int 3) ∧ Fr n0 L ∧ h = h0
theorem ef_r87_indexOf (o0 : Addr) (m : MethodId) : entryFrame m #[(.ref o0), (.int 58)] 2 = mkF m 0 #[.val (.ref o0), .val (.int 58)] [] := by first | (simp [entryFrame, mkF, argsToLocals, Value.category]; done) | rfl
set_option maxRecDepth 65536 in
set_option maxHeartbeats 40000000 in
theorem r87_indexOf (l : Launch) (Z : State) (a0 : Array Value) (hw : HW Z a0) (ws : List Jvm.Cond) (o0 : Addr) (i_1 : Int32) (o_2 : Addr) (i_3 i_4 i_5 i_6 i_7 : Int32) (k_o_2 : ClassId) (h0 : Heap) (n0 : Nat) (Z0 : n0 ≤ h0.size) (E_o0 : Ex0 Z h0 o0) (S_COMPACT_STRINGS : SCS Z i_1) (F_o0_coder : Fd0 Z h0 o0 z0) (F_o0_value : Fd1 Z h0 o0 (.ref o_2)) (V_o_2 : Arv Z h0 o_2 k_o_2 .byte 5 [(.int i_3), (.int i_4), (.int i_5), (.int i_6), (.int i_7)] z0) (O0 : Old Z n0 h0) (hp0 : ¬ (i_1 = (0 : Int32))) (hp1 : ¬ (i_3 = (58 : Int32))) (hp2 : ¬ (i_4 = (58 : Int32))) (hp3 : ¬ (i_5 = (58 : Int32))) (hp4 : i_6 = (58 : Int32)) :
    MF l Z y19_indexOf b11_ 2 (some .int) ws ⟨3, 0, 0, 46⟩ #[(.ref o0), (.int 58)] h0 (Q_r87_indexOf Z o0 i_1 o_2 i_3 i_4 i_5 i_6 i_7 k_o_2 h0 n0) := by
  refine own_body (plainFor_of_name pn_String564) (ef_r87_indexOf o0) (by decide) (by decide) ?_
  intro p e s m below meth c s₁ hx hby hml hown hnm hret hZ hh e0 X0
  have N0 := Fr.nil n0
  obtain ⟨_, T8, L8, X8, hQ8, st8⟩ := own_virtual X0 hx hZ hown (w43 hw) (w44 hw) (notFace_of_selects (args := #[]) (mvT hZ (w46 hw))) (w46 hw) (w45 hw) (w7 hw) (w47 hw) (by decide) (r88_indexOf l Z a0 hw [] o0 i_1 o_2 i_3 i_4 i_5 i_6 i_7 k_o_2 h0 n0 Z0 E_o0 S_COMPACT_STRINGS F_o0_coder O0 hp0 F_o0_value V_o_2 hp1 hp2 hp3 hp4) e0 E_o0 (W := 0) (by decide) (g := (mkF m 3 #[vr o0, vi 58] [z0, (.int 58), (.ref o0)])) rfl (by rw [hml]; rfl) (argsL := [(.int 58), z0]) (rest := []) (lenOf pd_12 rfl) rfl rfl (own_wr rfl rfl) (hb hby d122)
  obtain ⟨rfl, N8q, e8⟩ := hQ8
  have N8 := Fr.app N0 N8q
  refine ⟨T8, _, some (.int 3), X8, (fun h => by cases h <;> rfl), ?_, fun fs hr => ?_⟩
  · show Q_r87_indexOf Z o0 i_1 o_2 i_3 i_4 i_5 i_6 i_7 k_o_2 h0 n0 _ T8.heap _
    rw [e8]
    exact ⟨rfl, N8, rfl⟩
  · refine t_aloadN 1 X0.here hx (hb hby d119) rfl rfl rfl ?_
    refine t_iloadN 2 X0.here hx (hb hby d120) rfl rfl ?_
    refine t_iconst 3 (r := 0) X0.here hx (hb hby d121) (by decide) rfl ?_
    refine st8 _ ?_
    exact retI X8 hx hret (hb hby d214) hr
def Q_r95_checkLength (Z : State)  (h0 : Heap) (n0 : Nat) (v : Option Value) (h : Heap) (L : List Loc) : Prop := v = none ∧ Fr n0 L ∧ h = h0
theorem ef_r95_checkLength (m : MethodId) : entryFrame m #[(.int 0), (.int 3)] 2 = mkF m 0 #[.val (.int 0), .val (.int 3)] [] := by first | (simp [entryFrame, mkF, argsToLocals, Value.category]; done) | rfl
set_option maxRecDepth 65536 in
set_option maxHeartbeats 40000000 in
theorem r95_checkLength (l : Launch) (Z : State) (a0 : Array Value) (hw : HW Z a0) (ws : List Jvm.Cond)  (h0 : Heap) (n0 : Nat) (Z0 : n0 ≤ h0.size) :
    MF l Z y20_checkLength b25_ 2 none ws ⟨0, 0, 0, 0⟩ #[z0, (.int 3)] h0 (Q_r95_checkLength Z  h0 n0) := by
  refine own_body (plainFor_of_name pn_Arrays587) (ef_r95_checkLength) (by decide) (by decide) ?_
  intro p e s m below meth c s₁ hx hby hml hown hnm hret hZ hh e0 X0
  have N0 := Fr.nil n0
  refine ⟨s₁, _, none, X0, (fun h => by cases h <;> rfl), ?_, fun fs hr => ?_⟩
  · show Q_r95_checkLength Z  h0 n0 _ s₁.heap _
    rw [e0]
    exact ⟨rfl, N0, rfl⟩
  · refine t_iloadN 1 X0.here hx (hb hby d271) rfl rfl ?_
    refine t_iloadN 2 X0.here hx (hb hby d272) rfl rfl ?_
    refine t_icmpYes (pc := 2) 37 X0.here hx (hb hby d273) (by decide) (by decide) (by decide) ?_
    exact X0.returnOut hx hret (hb hby d274) hr
def Q_r96_min (Z : State)  (h0 : Heap) (n0 : Nat) (v : Option Value) (h : Heap) (L : List Loc) : Prop := v = some (.int 3) ∧ Fr n0 L ∧ h = h0
theorem ef_r96_min (m : MethodId) : entryFrame m #[(.int 5), (.int 3)] 2 = mkF m 0 #[.val (.int 5), .val (.int 3)] [] := by first | (simp [entryFrame, mkF, argsToLocals, Value.category]; done) | rfl
set_option maxRecDepth 65536 in
set_option maxHeartbeats 40000000 in
theorem r96_min (l : Launch) (Z : State) (a0 : Array Value) (hw : HW Z a0) (ws : List Jvm.Cond)  (h0 : Heap) (n0 : Nat) (Z0 : n0 ≤ h0.size) :
    MF l Z y15_min b19_ 2 (some .int) ws ⟨0, 0, 0, 0⟩ #[(.int 5), (.int 3)] h0 (Q_r96_min Z  h0 n0) := by
  refine own_body (Jvm.Free.JP.mathPlain rfl (by decide +kernel)) (ef_r96_min) (by decide) (by decide) ?_
  intro p e s m below meth c s₁ hx hby hml hown hnm hret hZ hh e0 X0
  have N0 := Fr.nil n0
  refine ⟨s₁, _, some (.int 3), X0, (fun h => by cases h <;> rfl), ?_, fun fs hr => ?_⟩
  · show Q_r96_min Z  h0 n0 _ s₁.heap _
    rw [e0]
    exact ⟨rfl, N0, rfl⟩
  · refine t_iloadN 1 X0.here hx (hb hby d179) rfl rfl ?_
    refine t_iloadN 2 X0.here hx (hb hby d180) rfl rfl ?_
    refine t_icmpYes (pc := 2) 9 X0.here hx (hb hby d181) (by decide) (by decide) (by decide) ?_
    refine t_iloadN 10 X0.here hx (hb hby d292) rfl rfl ?_
    exact retI X0 hx hret (hb hby d184) hr
def Q_r94_copyOfRangeByte (Z : State) (o0 : Addr) (i_3 i_4 i_5 i_6 i_7 : Int32) (k_o0 : ClassId) (h0 : Heap) (n0 : Nat) (v : Option Value) (h : Heap) (L : List Loc) : Prop := ∃ b2 : Addr, ∃ k2 : ClassId, v = some (.ref b2) ∧ Fr n0 L ∧ KL h0 h [] ∧ h0.size ≤ b2 ∧ Arv Z h b2 k2 .byte 3 [(.int i_3), (.int i_4), (.int i_5)] z0
theorem ef_r94_copyOfRangeByte (o0 : Addr) (m : MethodId) : entryFrame m #[(.ref o0), (.int 0), (.int 3)] 5 = mkF m 0 #[.val (.ref o0), .val (.int 0), .val (.int 3), .unset, .unset] [] := by first | (simp [entryFrame, mkF, argsToLocals, Value.category]; done) | rfl
set_option maxRecDepth 65536 in
set_option maxHeartbeats 40000000 in
theorem r94_copyOfRangeByte (l : Launch) (Z : State) (a0 : Array Value) (hw : HW Z a0) (ws : List Jvm.Cond) (o0 : Addr) (i_3 i_4 i_5 i_6 i_7 : Int32) (k_o0 : ClassId) (h0 : Heap) (n0 : Nat) (Z0 : n0 ≤ h0.size) (V_o0 : Arv Z h0 o0 k_o0 .byte 5 [(.int i_3), (.int i_4), (.int i_5), (.int i_6), (.int i_7)] z0) :
    MF l Z y21_copyOfRangeByte b24_ 5 (some (.array .byte)) ws ⟨1, 1, 3, 18⟩ #[(.ref o0), z0, (.int 3)] h0 (Q_r94_copyOfRangeByte Z o0 i_3 i_4 i_5 i_6 i_7 k_o0 h0 n0) := by
  refine own_body (plainFor_of_name pn_Arrays587) (ef_r94_copyOfRangeByte o0) (by decide) (by decide) ?_
  intro p e s m below meth c s₁ hx hby hml hown hnm hret hZ hh e0 X0
  have N0 := Fr.nil n0
  obtain ⟨_, T1, L1, X1, hQ1, st1⟩ := own_static X0 hx hZ hown (w106 hw) (w107 hw) (w101 hw) (w108 hw) (by decide) (r95_checkLength l Z a0 hw []  h0 n0 Z0) e0 (W := 0) (by decide) (g := (mkF m 2 #[vr o0, vi 0, vi 3, .unset, .unset] [(.int 3), z0])) rfl (by rw [hml]; rfl) (argsL := [z0, (.int 3)]) (rest := []) (lenOf pd_16 rfl) rfl rfl (own_wr rfl rfl) (hb hby d270)
  obtain ⟨rfl, N1q, e1⟩ := hQ1
  have N1 := Fr.app N0 N1q
  obtain ⟨T2, h2, k2, X2, e2, E2, A2, st2⟩ := newP (aty := .byte) X1 hx hZ (w23 hw) e1 (g := (mkF m 10 #[vr o0, vi 0, vi 3, vi 3, .unset] [(.int 3)])) rfl (hb hby d280) rfl (by decide) (cap := 3) (by decide) (by decide) (by decide) (by decide)
  obtain ⟨b2, g2⟩ : ∃ z, z = h0.size := ⟨_, rfl⟩
  rw [← g2] at A2 st2
  have ge_b2 : h0.size ≤ b2 := Nat.le_of_eq g2.symm
  have K2 := KL.ofE E2
  have V2 : Arv Z h2 b2 k2 .byte 3 [z0, z0, z0] z0 := (Arv.new A2 (by decide)).pad (pad_rep [] z0 3)
  have f8 := (kArv K2 V_o0 na0)
  obtain ⟨_, T9, L9, X9, hQ9, st9⟩ := own_static X2 hx hZ hown (w109 hw) (w75 hw) (w72 hw) (w76 hw) (by decide) (r96_min l Z a0 hw []  h2 n0 (Nat.le_trans Z0 K2.1)) e2 (W := 4) (by decide) (g := (mkF m 24 #[vr o0, vi 0, vi 3, vi 3, vr b2] [(.int 3), (.int 5), z0, (.ref b2), z0, (.ref o0)])) rfl (by rw [hml]; rfl) (argsL := [(.int 5), (.int 3)]) (rest := [z0, (.ref b2), z0, (.ref o0)]) (lenOf pd_12 rfl) rfl rfl (own_wr rfl rfl) (hb hby d291)
  obtain ⟨rfl, N9q, e9⟩ := hQ9
  have N9 := Fr.app N1 N9q
  obtain ⟨T10, h10, L10, X10, e10, N10, Kp10, V10, st10⟩ := cpA X9 hx hZ hown (w110 hw) (w113 hw) (w111 hw) (w112 hw) e9 (us := [(.int i_3), (.int i_4), (.int i_5)]) f8 V2 (Or.inl ⟨rfl, rfl⟩) (by decide) (by decide) (by decide) (by decide) (by decide) rfl (by decide) N9 (Nat.le_trans Z0 (Nat.le_trans (Nat.le_refl _) ge_b2)) (g := (mkF m 27 #[vr o0, vi 0, vi 3, vi 3, vr b2] [(.int 3), z0, (.ref b2), z0, (.ref o0)])) rfl (by rw [hml]; rfl) rfl (hb hby d293) (by decide) (W := 0) (by show 2 * 0 + _ ≤ _; exact Nat.le_of_eq rfl) (by decide)
  have K10 : KL h2 h10 [(b2, 0), (b2, 1), (b2, 2)] := own_kcp Kp10 V2 (n := 3) rfl ⟨_, rfl⟩
  replace V10 : Arv Z h10 b2 k2 .byte 3 [(.int i_3), (.int i_4), (.int i_5)] z0 := V10
  -- what was kept, from the start on
  have C0 := (KL.refl h0 []).trans K2 na0
  have C1 := C0.trans K10 (naOM 3 rfl (Nat.le_trans (Nat.le_refl _) ge_b2) na0)
  refine ⟨T10, _, some (.ref b2), X10, (fun h => by cases h <;> rfl), ?_, fun fs hr => ?_⟩
  · show Q_r94_copyOfRangeByte Z o0 i_3 i_4 i_5 i_6 i_7 k_o0 h0 n0 _ T10.heap _
    rw [e10]
    exact ⟨b2, k2, rfl, N10, C1, (Nat.le_trans (Nat.le_refl _) ge_b2), V10⟩
  · refine t_iloadN 1 X0.here hx (hb hby d268) rfl rfl ?_
    refine t_iloadN 2 X0.here hx (hb hby d269) rfl rfl ?_
    refine st1 _ ?_
    refine t_iloadN 6 X1.here hx (hb hby d275) rfl rfl ?_
    refine t_iloadN 7 X1.here hx (hb hby d276) rfl rfl ?_
    refine t_isub 8 (r := 3) X1.here hx (hb hby d277) (by decide : ((3 : Int32) - (0 : Int32)) = (3 : Int32)) rfl ?_
    refine t_istoreN (pc' := 9) (L' := #[vr o0, vi 0, vi 3, vi 3, .unset]) X1.here hx (hb hby d278) rfl rfl ?_
    refine t_iloadN 10 X1.here hx (hb hby d279) rfl rfl ?_
    refine st2 _ ?_
    refine t_astore (pc' := 14) (L' := #[vr o0, vi 0, vi 3, vi 3, vr b2]) X2.here hx (hb hby d281) rfl rfl rfl ?_
    refine t_aloadN 15 X2.here hx (hb hby d282) rfl rfl rfl ?_
    refine t_iloadN 16 X2.here hx (hb hby d283) rfl rfl ?_
    refine t_aload 18 X2.here hx (hb hby d284) rfl rfl rfl ?_
    refine t_iconst 19 (r := 0) X2.here hx (hb hby d285) (by decide) rfl ?_
    refine t_aloadN 20 X2.here hx (hb hby d286) rfl rfl rfl ?_
    refine own_arlen (pc' := 21) X2 hx hZ e2 f8 (hb hby d287) rfl ?_
    refine t_iloadN 22 X2.here hx (hb hby d288) rfl rfl ?_
    refine t_isub 23 (r := 5) X2.here hx (hb hby d289) (by decide : ((5 : Int32) - (0 : Int32)) = (5 : Int32)) rfl ?_
    refine t_iloadN 24 X2.here hx (hb hby d290) rfl rfl ?_
    refine st9 _ ?_
    refine st10 _ ?_
    refine t_aload 32 X10.here hx (hb hby d294) rfl rfl rfl ?_
    jvm_step X10.here [X10.here.top, hx, (hb hby d295), X10.method', hret, Value.isRef, FieldType.isReference]
    first | (intro acts; rw [hr _ acts rfl rfl rfl]) | rw [hr _ _ rfl rfl rfl]
    exact Steps.refl _
def Q_r93_copyOfRange (Z : State) (o0 : Addr) (i_1 i_2 i_3 i_4 i_5 : Int32) (k_o0 : ClassId) (h0 : Heap) (n0 : Nat) (v : Option Value) (h : Heap) (L : List Loc) : Prop := ∃ b2_6 : Addr, ∃ k2_6 : ClassId, v = some (.ref b2_6) ∧ Fr n0 L ∧ KL h0 h [] ∧ h0.size ≤ b2_6 ∧ Arv Z h b2_6 k2_6 .byte 3 [(.int i_1), (.int i_2), (.int i_3)] z0
theorem ef_r93_copyOfRange (o0 : Addr) (m : MethodId) : entryFrame m #[(.ref o0), (.int 0), (.int 3)] 3 = mkF m 0 #[.val (.ref o0), .val (.int 0), .val (.int 3)] [] := by first | (simp [entryFrame, mkF, argsToLocals, Value.category]; done) | rfl
set_option maxRecDepth 65536 in
set_option maxHeartbeats 40000000 in
theorem r93_copyOfRange (l : Launch) (Z : State) (a0 : Array Value) (hw : HW Z a0) (ws : List Jvm.Cond) (o0 : Addr) (i_1 i_2 i_3 i_4 i_5 : Int32) (k_o0 : ClassId) (h0 : Heap) (n0 : Nat) (Z0 : n0 ≤ h0.size) (V_o0 : Arv Z h0 o0 k_o0 .byte 5 [(.int i_1), (.int i_2), (.int i_3), (.int i_4), (.int i_5)] z0) :
    MF l Z y22_copyOfRange b23_ 3 (some (.array .byte)) ws ⟨2, 1, 3, 34⟩ #[(.ref o0), z0, (.int 3)] h0 (Q_r93_copyOfRange Z o0 i_1 i_2 i_3 i_4 i_5 k_o0 h0 n0) := by
  refine own_body (plainFor_of_name pn_Arrays587) (ef_r93_copyOfRange o0) (by decide) (by decide) ?_
  intro p e s m below meth c s₁ hx hby hml hown hnm hret hZ hh e0 X0
  have N0 := Fr.nil n0
  obtain ⟨_, T6, L6, X6, hQ6, st6⟩ := own_static X0 hx hZ hown (w103 hw) (w104 hw) (w101 hw) (w105 hw) (by decide) (r94_copyOfRangeByte l Z a0 hw [] o0 i_1 i_2 i_3 i_4 i_5 k_o0 h0 n0 Z0 V_o0) e0 (W := 0) (by decide) (g := (mkF m 13 #[vr o0, vi 0, vi 3] [(.int 3), z0, (.ref o0)])) rfl (by rw [hml]; rfl) (argsL := [(.ref o0), z0, (.int 3)]) (rest := []) (lenOf pd_17 rfl) rfl rfl (own_wr rfl rfl) (hb hby d267)
  obtain ⟨b2_6, k2_6, rfl, N6q, K6, Q6_0, Q6_1⟩ := hQ6
  have N6 := Fr.app N0 N6q
  -- what was kept, from the start on
  have C0 := (KL.refl h0 []).trans K6 na0
  refine ⟨T6, _, some (.ref b2_6), X6, (fun h => by cases h <;> rfl), ?_, fun fs hr => ?_⟩
  · show Q_r93_copyOfRange Z o0 i_1 i_2 i_3 i_4 i_5 k_o0 h0 n0 _ T6.heap _
    exact ⟨b2_6, k2_6, rfl, N6, C0, (Nat.le_trans (Nat.le_refl _) Q6_0), Q6_1⟩
  · refine t_iloadN 1 X0.here hx (hb hby d258) rfl rfl ?_
    refine t_ifNo 4 X0.here hx (hb hby d259) (by decide) rfl ?_
    refine t_iloadN 5 X0.here hx (hb hby d260) rfl rfl ?_
    refine t_aloadN 6 X0.here hx (hb hby d261) rfl rfl rfl ?_
    refine own_arlen (pc' := 7) X0 hx hZ e0 V_o0 (hb hby d262) rfl ?_
    refine t_icmpNo 10 X0.here hx (hb hby d263) (by decide) rfl ?_
    refine t_aloadN 11 X0.here hx (hb hby d264) rfl rfl rfl ?_
    refine t_iloadN 12 X0.here hx (hb hby d265) rfl rfl ?_
    refine t_iloadN 13 X0.here hx (hb hby d266) rfl rfl ?_
    refine st6 _ ?_
    jvm_step X6.here [X6.here.top, hx, (hb hby d296), X6.method', hret, Value.isRef, FieldType.isReference]
    first | (intro acts; rw [hr _ acts rfl rfl rfl]) | rw [hr _ _ rfl rfl rfl]
    exact Steps.refl _
def Q_r92_newString (Z : State) (o0 : Addr) (i_2 i_3 i_4 i_5 i_6 : Int32) (k_o0 : ClassId) (h0 : Heap) (n0 : Nat) (v : Option Value) (h : Heap) (L : List Loc) : Prop := ∃ b1 : Addr, ∃ b2_6_7 : Addr, ∃ k2_6_7 : ClassId, v = some (.ref b1) ∧ Fr n0 L ∧ KL h0 h [] ∧ h0.size ≤ b1 ∧ h0.size ≤ b2_6_7 ∧ b1 ≠ b2_6_7 ∧ Ex0 Z h b1 ∧ Fd0 Z h b1 z0 ∧ Fd1 Z h b1 (.ref b2_6_7) ∧ Arv Z h b2_6_7 k2_6_7 .byte 3 [(.int i_2), (.int i_3), (.int i_4)] z0
theorem ef_r92_newString (o0 : Addr) (m : MethodId) : entryFrame m #[(.ref o0), (.int 0), (.int 3)] 3 = mkF m 0 #[.val (.ref o0), .val (.int 0), .val (.int 3)] [] := by first | (simp [entryFrame, mkF, argsToLocals, Value.category]; done) | rfl
set_option maxRecDepth 65536 in
set_option maxHeartbeats 40000000 in
theorem r92_newString (l : Launch) (Z : State) (a0 : Array Value) (hw : HW Z a0) (ws : List Jvm.Cond) (o0 : Addr) (i_2 i_3 i_4 i_5 i_6 : Int32) (k_o0 : ClassId) (h0 : Heap) (n0 : Nat) (Z0 : n0 ≤ h0.size) (V_o0 : Arv Z h0 o0 k_o0 .byte 5 [(.int i_2), (.int i_3), (.int i_4), (.int i_5), (.int i_6)] z0) :
    MF l Z y24_newString b22_ 3 (some (.object "java/lang/String")) ws ⟨3, 2, 7, 50⟩ #[(.ref o0), z0, (.int 3)] h0 (Q_r92_newString Z o0 i_2 i_3 i_4 i_5 i_6 k_o0 h0 n0) := by
  refine own_body (plainFor_of_name pn_StringLatin1120) (ef_r92_newString o0) (by decide) (by decide) ?_
  intro p e s m below meth c s₁ hx hby hml hown hnm hret hZ hh e0 X0
  have N0 := Fr.nil n0
  obtain ⟨T1, h1, X1, e1, E1, A1, D1, -, st1⟩ := newO X0 hx hZ hown (w98 hw) (w6 hw) (w7 hw) e0 (g := (mkF m 7 #[vr o0, vi 0, vi 3] [])) rfl (hb hby d250) (by decide) (by decide)
  obtain ⟨b1, g1⟩ : ∃ z, z = h0.size := ⟨_, rfl⟩
  rw [← g1] at A1 D1 st1
  have ge_b1 : h0.size ≤ b1 := Nat.le_of_eq g1.symm
  have K1 := KL.ofE E1
  have F_b1_coder : Fd0 Z h1 b1 z0 := D1 (Or.inr (w31 hw)) (ty := .byte) (by decide)
  have F_b1_value : Fd1 Z h1 b1 .null := D1 (Or.inr (w33 hw)) (ty := (.array .byte)) (by decide)
  have f8 := (kArv K1 V_o0 na0)
  obtain ⟨_, T7, L7, X7, hQ7, st7⟩ := own_static X1 hx hZ hown (w99 hw) (w100 hw) (w101 hw) (w102 hw) (by decide) (r93_copyOfRange l Z a0 hw [] o0 i_2 i_3 i_4 i_5 i_6 k_o0 h1 n0 (Nat.le_trans Z0 K1.1) f8) e1 (W := 2) (by decide) (g := (mkF m 16 #[vr o0, vi 0, vi 3] [(.int 3), z0, (.ref o0), (.ref b1), (.ref b1)])) rfl (by rw [hml]; rfl) (argsL := [(.ref o0), z0, (.int 3)]) (rest := [(.ref b1), (.ref b1)]) (lenOf pd_17 rfl) rfl rfl (own_wr rfl rfl) (hb hby d257)
  obtain ⟨b2_6_7, k2_6_7, rfl, N7q, K7, Q7_0, Q7_1⟩ := hQ7
  have N7 := Fr.app N0 N7q
  have f11 := (kFld K7 F_b1_value nw0)
  have f12 := (kExa K7 A1)
  have f13 := (kFld K7 F_b1_coder nw0)
  have sz_0_2 := (Nat.le_trans K1.1 K7.1)
  obtain ⟨_, T10, L10, X10, hQ10, st10⟩ := own_init X7 hx hZ rfl hown (w114 hw) (w115 hw) (w7 hw) (w116 hw) (by decide) (r23__init_ l Z a0 hw [] b1 b2_6_7 T7.heap n0 (Nat.le_trans Z0 sz_0_2) f11 f12 (Nat.le_trans Z0 (Nat.le_trans (Nat.le_refl _) ge_b1)) f13) rfl (W := 1) (by decide) (g := (mkF m 20 #[vr o0, vi 0, vi 3] [z0, (.ref b2_6_7), (.ref b1), (.ref b1)])) rfl (by rw [hml]; rfl) (argsL := [(.ref b2_6_7), z0]) (rest := [(.ref b1)]) (lenOf pd_18 rfl) rfl rfl (own_wr rfl rfl) (hb hby d298)
  obtain ⟨rfl, N10q, K10, Q10_0, Q10_1⟩ := hQ10
  have N10 := Fr.app N7 N10q
  -- what was kept, from the start on
  have C0 := (KL.refl h0 []).trans K1 na0
  have C1 := C0.trans K7 na0
  have C2 := C1.trans K10 (naO (Or.inr (Nat.le_trans (Nat.le_refl _) ge_b1)) (naO (Or.inr (Nat.le_trans (Nat.le_refl _) ge_b1)) na0))
  have lt_b1 : b1 < h1.size := Exa.lt A1
  have f14 := (kExa K10 f12)
  have f15 := (kArv K10 Q7_1 (naN (lt_ne lt_b1 Q7_0) (naN (lt_ne lt_b1 Q7_0) na0)))
  refine ⟨T10, _, some (.ref b1), X10, (fun h => by cases h <;> rfl), ?_, fun fs hr => ?_⟩
  · show Q_r92_newString Z o0 i_2 i_3 i_4 i_5 i_6 k_o0 h0 n0 _ T10.heap _
    exact ⟨b1, b2_6_7, k2_6_7, rfl, N10, C2, (Nat.le_trans (Nat.le_refl _) ge_b1), (Nat.le_trans K1.1 Q7_0), (lt_ne lt_b1 Q7_0), f14, Q10_1, Q10_0, f15⟩
  · refine t_iloadN 1 X0.here hx (hb hby d248) rfl rfl ?_
    refine t_ifYes (pc := 1) 7 X0.here hx (hb hby d249) (by decide) (by decide) (by decide) ?_
    refine st1 _ ?_
    refine t_dup 11 X1.here hx (hb hby d251) rfl rfl ?_
    refine t_aloadN 12 X1.here hx (hb hby d252) rfl rfl rfl ?_
    refine t_iloadN 13 X1.here hx (hb hby d253) rfl rfl ?_
    refine t_iloadN 14 X1.here hx (hb hby d254) rfl rfl ?_
    refine t_iloadN 15 X1.here hx (hb hby d255) rfl rfl ?_
    refine t_iadd 16 (r := 3) X1.here hx (hb hby d256) (by decide : ((0 : Int32) + (3 : Int32)) = (3 : Int32)) rfl ?_
    refine st7 _ ?_
    refine t_iconst 20 (r := 0) X7.here hx (hb hby d297) (by decide) rfl ?_
    refine st10 _ ?_
    jvm_step X10.here [X10.here.top, hx, (hb hby d308), X10.method', hret, Value.isRef, FieldType.isReference]
    first | (intro acts; rw [hr _ acts rfl rfl rfl]) | rw [hr _ _ rfl rfl rfl]
    exact Steps.refl _
def Q_r91_substring (Z : State) (o0 o_1 : Addr) (i_2 i_3 i_4 i_5 i_6 : Int32) (k_o_1 : ClassId) (i_7 : Int32) (u_9 : Value) (h0 : Heap) (n0 : Nat) (v : Option Value) (h : Heap) (L : List Loc) : Prop := ∃ b1_13 : Addr, ∃ b2_6_7_13 : Addr, ∃ k2_6_7_13 : ClassId, v = some (.ref b1_13) ∧ Fr n0 L ∧ KL h0 h [] ∧ h0.size ≤ b1_13 ∧ h0.size ≤ b2_6_7_13 ∧ b1_13 ≠ b2_6_7_13 ∧ Ex0 Z h b1_13 ∧ Fd0 Z h b1_13 z0 ∧ Fd1 Z h b1_13 (.ref b2_6_7_13) ∧ Arv Z h b2_6_7_13 k2_6_7_13 .byte 3 [(.int i_2), (.int i_3), (.int i_4)] z0
theorem ef_r91_substring (o0 : Addr) (m : MethodId) : entryFrame m #[(.ref o0), (.int 0), (.int 3)] 5 = mkF m 0 #[.val (.ref o0), .val (.int 0), .val (.int 3), .unset, .unset] [] := by first | (simp [entryFrame, mkF, argsToLocals, Value.category]; done) | rfl
set_option maxRecDepth 65536 in
set_option maxHeartbeats 40000000 in
theorem r91_substring (l : Launch) (Z : State) (a0 : Array Value) (hw : HW Z a0) (ws : List Jvm.Cond) (o0 o_1 : Addr) (i_2 i_3 i_4 i_5 i_6 : Int32) (k_o_1 : ClassId) (i_7 : Int32) (u_9 : Value) (h0 : Heap) (n0 : Nat) (Z0 : n0 ≤ h0.size) (E_o0 : Ex0 Z h0 o0) (F_o0_value : Fd1 Z h0 o0 (.ref o_1)) (V_o_1 : Arv Z h0 o_1 k_o_1 .byte 5 [(.int i_2), (.int i_3), (.int i_4), (.int i_5), (.int i_6)] z0) (S_COMPACT_STRINGS : SCS Z i_7) (F_o0_coder : Fd0 Z h0 o0 z0) (O0 : Old Z n0 h0) (hp0 : ¬ (i_7 = (0 : Int32))) (S_SIOOBE_FORMATTER : Sta Z Z.heap "jdk/internal/util/Preconditions" "SIOOBE_FORMATTER" "Ljava/util/function/BiFunction;" u_9) (hp1 : u_9.isRef = true) :
    MF l Z y25_substring b21_ 5 (some (.object "java/lang/String")) ws ⟨4, 2, 7, 64⟩ #[(.ref o0), z0, (.int 3)] h0 (Q_r91_substring Z o0 o_1 i_2 i_3 i_4 i_5 i_6 k_o_1 i_7 u_9 h0 n0) := by
  refine own_body (plainFor_of_name pn_String564) (ef_r91_substring o0) (by decide) (by decide) ?_
  intro p e s m below meth c s₁ hx hby hml hown hnm hret hZ hh e0 X0
  have N0 := Fr.nil n0
  obtain ⟨_, T8, L8, X8, hQ8, st8⟩ := own_virtual X0 hx hZ hown (w53 hw) (w54 hw) (notFace_of_selects (args := #[]) (mvT hZ (w56 hw))) (w56 hw) (w55 hw) (w7 hw) (w57 hw) (by decide) (r10_length l Z a0 hw [] o0 o_1 i_2 i_3 i_4 i_5 i_6 k_o_1 i_7 h0 n0 Z0 F_o0_value V_o_1 E_o0 S_COMPACT_STRINGS F_o0_coder O0 hp0) e0 E_o0 (W := 0) (by decide) (g := (mkF m 1 #[vr o0, vi 0, vi 3, .unset, .unset] [(.ref o0)])) rfl (by rw [hml]; rfl) (argsL := []) (rest := []) (lenOf pd_10 rfl) rfl rfl (own_wr rfl rfl) (hb hby d225)
  obtain ⟨rfl, N8q, e8⟩ := hQ8
  have N8 := Fr.app N0 N8q
  obtain ⟨_, T10, L10, X10, hQ10, st10⟩ := own_static X8 hx hZ hown (w87 hw) (w88 hw) (w7 hw) (w89 hw) (by decide) (r_checkBoundsBeginEnd l Z a0 hw [] (0 : Int32) (3 : Int32) (5 : Int32) u_9 h0 n0 Z0 hp1 S_SIOOBE_FORMATTER O0 (by decide) (by decide) (by decide)) e8 (W := 0) (by decide) (g := (mkF m 8 #[vr o0, vi 0, vi 3, vi 5, .unset] [(.int 5), (.int 3), z0])) rfl (by rw [hml]; rfl) (argsL := [z0, (.int 3), (.int 5)]) (rest := []) (lenOf pd_15 rfl) rfl rfl (own_wr rfl rfl) (hb hby d230)
  obtain ⟨rfl, N10q, e10⟩ := hQ10
  have N10 := Fr.app N8 N10q
  obtain ⟨_, T11, L11, X11, hQ11, st11⟩ := own_virtual X10 hx hZ hown (w48 hw) (w49 hw) (notFace_of_selects (args := #[]) (mvT hZ (w51 hw))) (w51 hw) (w50 hw) (w7 hw) (w52 hw) (by decide) (r9_isLatin1 l Z a0 hw [] o0 i_7 h0 n0 Z0 S_COMPACT_STRINGS O0 hp0 F_o0_coder) e10 E_o0 (W := 0) (by decide) (g := (mkF m 28 #[vr o0, vi 0, vi 3, vi 5, vi 3] [(.ref o0)])) rfl (by rw [hml]; rfl) (argsL := []) (rest := []) (lenOf pd_8 rfl) rfl rfl (own_wr rfl rfl) (hb hby d241)
  obtain ⟨rfl, N11q, e11⟩ := hQ11
  have N11 := Fr.app N10 N11q
  obtain ⟨T12, X12, e12, st12⟩ := getF X11 hx hZ hown (host := "") (Or.inl (w32 hw)) Via.refl e11 F_o0_value (g := (mkF m 35 #[vr o0, vi 0, vi 3, vi 5, vi 3] [(.ref o0)])) rfl rfl (hb hby d244)
  obtain ⟨_, T13, L13, X13, hQ13, st13⟩ := own_static X12 hx hZ hown (w95 hw) (w96 hw) (w65 hw) (w97 hw) (by decide) (r92_newString l Z a0 hw [] o_1 i_2 i_3 i_4 i_5 i_6 k_o_1 h0 n0 Z0 V_o_1) e12 (W := 0) (by decide) (g := (mkF m 41 #[vr o0, vi 0, vi 3, vi 5, vi 3] [(.int 3), z0, (.ref o_1)])) rfl (by rw [hml]; rfl) (argsL := [(.ref o_1), z0, (.int 3)]) (rest := []) (lenOf pd_19 rfl) rfl rfl (own_wr rfl rfl) (hb hby d247)
  obtain ⟨b1_13, b2_6_7_13, k2_6_7_13, rfl, N13q, K13, Q13_0, Q13_1, Q13_2, Q13_3, Q13_4, Q13_5, Q13_6⟩ := hQ13
  have N13 := Fr.app N11 N13q
  -- what was kept, from the start on
  have C0 := (KL.refl h0 []).trans K13 na0
  refine ⟨T13, _, some (.ref b1_13), X13, (fun h => by cases h <;> rfl), ?_, fun fs hr => ?_⟩
  · show Q_r91_substring Z o0 o_1 i_2 i_3 i_4 i_5 i_6 k_o_1 i_7 u_9 h0 n0 _ T13.heap _
    exact ⟨b1_13, b2_6_7_13, k2_6_7_13, rfl, N13, C0, (Nat.le_trans (Nat.le_refl _) Q13_0), (Nat.le_trans (Nat.le_refl _) Q13_1), Q13_2, Q13_3, Q13_4, Q13_5, Q13_6⟩
  · refine t_aloadN 1 X0.here hx (hb hby d224) rfl rfl rfl ?_
    refine st8 _ ?_
    refine t_istoreN (pc' := 5) (L' := #[vr o0, vi 0, vi 3, vi 5, .unset]) X8.here hx (hb hby d226) rfl rfl ?_
    refine t_iloadN 6 X8.here hx (hb hby d227) rfl rfl ?_
    refine t_iloadN 7 X8.here hx (hb hby d228) rfl rfl ?_
    refine t_iloadN 8 X8.here hx (hb hby d229) rfl rfl ?_
    refine st10 _ ?_
    refine t_iloadN 12 X10.here hx (hb hby d231) rfl rfl ?_
    refine t_ifNo 15 X10.here hx (hb hby d232) (by decide) rfl ?_
    refine t_iloadN 16 X10.here hx (hb hby d233) rfl rfl ?_
    refine t_iloadN 17 X10.here hx (hb hby d234) rfl rfl ?_
    refine t_icmpYes (pc := 17) 22 X10.here hx (hb hby d235) (by decide) (by decide) (by decide) ?_
    refine t_iloadN 23 X10.here hx (hb hby d236) rfl rfl ?_
    refine t_iloadN 24 X10.here hx (hb hby d237) rfl rfl ?_
    refine t_isub 25 (r := 3) X10.here hx (hb hby d238) (by decide : ((3 : Int32) - (0 : Int32)) = (3 : Int32)) rfl ?_
    refine t_istore (pc' := 27) (L' := #[vr o0, vi 0, vi 3, vi 5, vi 3]) X10.here hx (hb hby d239) rfl rfl ?_
    refine t_aloadN 28 X10.here hx (hb hby d240) rfl rfl rfl ?_
    refine st11 _ ?_
    refine t_ifNo 34 X11.here hx (hb hby d242) (by decide) rfl ?_
    refine t_aloadN 35 X11.here hx (hb hby d243) rfl rfl rfl ?_
    refine st12 _ ?_
    refine t_iloadN 39 X12.here hx (hb hby d245) rfl rfl ?_
    refine t_iload 41 X12.here hx (hb hby d246) rfl rfl ?_
    refine st13 _ ?_
    refine t_goto (pc := 44) 57 X13.here hx (hb hby d309) (by decide) (by decide) ?_
    jvm_step X13.here [X13.here.top, hx, (hb hby d310), X13.method', hret, Value.isRef, FieldType.isReference]
    first | (intro acts; rw [hr _ acts rfl rfl rfl]) | rw [hr _ _ rfl rfl rfl]
    exact Steps.refl _
def Q_r102_checkLength (Z : State)  (h0 : Heap) (n0 : Nat) (v : Option Value) (h : Heap) (L : List Loc) : Prop := v = none ∧ Fr n0 L ∧ h = h0
theorem ef_r102_checkLength (m : MethodId) : entryFrame m #[(.int 4), (.int 5)] 2 = mkF m 0 #[.val (.int 4), .val (.int 5)] [] := by first | (simp [entryFrame, mkF, argsToLocals, Value.category]; done) | rfl
set_option maxRecDepth 65536 in
set_option maxHeartbeats 40000000 in
theorem r102_checkLength (l : Launch) (Z : State) (a0 : Array Value) (hw : HW Z a0) (ws : List Jvm.Cond)  (h0 : Heap) (n0 : Nat) (Z0 : n0 ≤ h0.size) :
    MF l Z y20_checkLength b25_ 2 none ws ⟨0, 0, 0, 0⟩ #[(.int 4), (.int 5)] h0 (Q_r102_checkLength Z  h0 n0) := by
  refine own_body (plainFor_of_name pn_Arrays587) (ef_r102_checkLength) (by decide) (by decide) ?_
  intro p e s m below meth c s₁ hx hby hml hown hnm hret hZ hh e0 X0
  have N0 := Fr.nil n0
  refine ⟨s₁, _, none, X0, (fun h => by cases h <;> rfl), ?_, fun fs hr => ?_⟩
  · show Q_r102_checkLength Z  h0 n0 _ s₁.heap _
    rw [e0]
    exact ⟨rfl, N0, rfl⟩
  · refine t_iloadN 1 X0.here hx (hb hby d271) rfl rfl ?_
    refine t_iloadN 2 X0.here hx (hb hby d272) rfl rfl ?_
    refine t_icmpYes (pc := 2) 37 X0.here hx (hb hby d273) (by decide) (by decide) (by decide) ?_
    exact X0.returnOut hx hret (hb hby d274) hr
def Q_r101_copyOfRangeByte (Z : State) (o0 : Addr) (i_3 i_4 i_5 i_6 i_7 : Int32) (k_o0 : ClassId) (h0 : Heap) (n0 : Nat) (v : Option Value) (h : Heap) (L : List Loc) : Prop := ∃ b2 : Addr, ∃ k2 : ClassId, v = some (.ref b2) ∧ Fr n0 L ∧ KL h0 h [] ∧ h0.size ≤ b2 ∧ Arv Z h b2 k2 .byte 1 [(.int i_7)] z0
theorem ef_r101_copyOfRangeByte (o0 : Addr) (m : MethodId) : entryFrame m #[(.ref o0), (.int 4), (.int 5)] 5 = mkF m 0 #[.val (.ref o0), .val (.int 4), .val (.int 5), .unset, .unset] [] := by first | (simp [entryFrame, mkF, argsToLocals, Value.category]; done) | rfl
set_option maxRecDepth 65536 in
set_option maxHeartbeats 40000000 in
theorem r101_copyOfRangeByte (l : Launch) (Z : State) (a0 : Array Value) (hw : HW Z a0) (ws : List Jvm.Cond) (o0 : Addr) (i_3 i_4 i_5 i_6 i_7 : Int32) (k_o0 : ClassId) (h0 : Heap) (n0 : Nat) (Z0 : n0 ≤ h0.size) (V_o0 : Arv Z h0 o0 k_o0 .byte 5 [(.int i_3), (.int i_4), (.int i_5), (.int i_6), (.int i_7)] z0) :
    MF l Z y21_copyOfRangeByte b24_ 5 (some (.array .byte)) ws ⟨1, 1, 1, 18⟩ #[(.ref o0), (.int 4), (.int 5)] h0 (Q_r101_copyOfRangeByte Z o0 i_3 i_4 i_5 i_6 i_7 k_o0 h0 n0) := by
  refine own_body (plainFor_of_name pn_Arrays587) (ef_r101_copyOfRangeByte o0) (by decide) (by decide) ?_
  intro p e s m below meth c s₁ hx hby hml hown hnm hret hZ hh e0 X0
  have N0 := Fr.nil n0
  obtain ⟨_, T1, L1, X1, hQ1, st1⟩ := own_static X0 hx hZ hown (w106 hw) (w107 hw) (w101 hw) (w108 hw) (by decide) (r102_checkLength l Z a0 hw []  h0 n0 Z0) e0 (W := 0) (by decide) (g := (mkF m 2 #[vr o0, vi 4, vi 5, .unset, .unset] [(.int 5), (.int 4)])) rfl (by rw [hml]; rfl) (argsL := [(.int 4), (.int 5)]) (rest := []) (lenOf pd_16 rfl) rfl rfl (own_wr rfl rfl) (hb hby d270)
  obtain ⟨rfl, N1q, e1⟩ := hQ1
  have N1 := Fr.app N0 N1q
  obtain ⟨T2, h2, k2, X2, e2, E2, A2, st2⟩ := newP (aty := .byte) X1 hx hZ (w23 hw) e1 (g := (mkF m 10 #[vr o0, vi 4, vi 5, vi 1, .unset] [(.int 1)])) rfl (hb hby d280) rfl (by decide) (cap := 1) (by decide) (by decide) (by decide) (by decide)
  obtain ⟨b2, g2⟩ : ∃ z, z = h0.size := ⟨_, rfl⟩
  rw [← g2] at A2 st2
  have ge_b2 : h0.size ≤ b2 := Nat.le_of_eq g2.symm
  have K2 := KL.ofE E2
  have V2 : Arv Z h2 b2 k2 .byte 1 [z0] z0 := (Arv.new A2 (by decide)).pad (pad_rep [] z0 1)
  have f8 := (kArv K2 V_o0 na0)
  obtain ⟨_, T9, L9, X9, hQ9, st9⟩ := own_static X2 hx hZ hown (w109 hw) (w75 hw) (w72 hw) (w76 hw) (by decide) (r39_min l Z a0 hw []  h2 n0 (Nat.le_trans Z0 K2.1)) e2 (W := 4) (by decide) (g := (mkF m 24 #[vr o0, vi 4, vi 5, vi 1, vr b2] [(.int 1), (.int 1), z0, (.ref b2), (.int 4), (.ref o0)])) rfl (by rw [hml]; rfl) (argsL := [(.int 1), (.int 1)]) (rest := [z0, (.ref b2), (.int 4), (.ref o0)]) (lenOf pd_12 rfl) rfl rfl (own_wr rfl rfl) (hb hby d291)
  obtain ⟨rfl, N9q, e9⟩ := hQ9
  have N9 := Fr.app N1 N9q
  obtain ⟨T10, h10, L10, X10, e10, N10, Kp10, V10, st10⟩ := cpA X9 hx hZ hown (w110 hw) (w113 hw) (w111 hw) (w112 hw) e9 (us := [(.int i_7)]) f8 V2 (Or.inl ⟨rfl, rfl⟩) (by decide) (by decide) (by decide) (by decide) (by decide) rfl (by decide) N9 (Nat.le_trans Z0 (Nat.le_trans (Nat.le_refl _) ge_b2)) (g := (mkF m 27 #[vr o0, vi 4, vi 5, vi 1, vr b2] [(.int 1), z0, (.ref b2), (.int 4), (.ref o0)])) rfl (by rw [hml]; rfl) rfl (hb hby d293) (by decide) (W := 0) (by show 2 * 0 + _ ≤ _; exact Nat.le_of_eq rfl) (by decide)
  have K10 : KL h2 h10 [(b2, 0)] := own_kcp Kp10 V2 (n := 1) rfl ⟨_, rfl⟩
  replace V10 : Arv Z h10 b2 k2 .byte 1 [(.int i_7)] z0 := V10
  -- what was kept, from the start on
  have C0 := (KL.refl h0 []).trans K2 na0
  have C1 := C0.trans K10 (naO (Or.inr (Nat.le_trans (Nat.le_refl _) ge_b2)) na0)
  refine ⟨T10, _, some (.ref b2), X10, (fun h => by cases h <;> rfl), ?_, fun fs hr => ?_⟩
  · show Q_r101_copyOfRangeByte Z o0 i_3 i_4 i_5 i_6 i_7 k_o0 h0 n0 _ T10.heap _
    rw [e10]
    exact ⟨b2, k2, rfl, N10, C1, (Nat.le_trans (Nat.le_refl _) ge_b2), V10⟩
  · refine t_iloadN 1 X0.here hx (hb hby d268) rfl rfl ?_
    refine t_iloadN 2 X0.here hx (hb hby d269) rfl rfl ?_
    refine st1 _ ?_
    refine t_iloadN 6 X1.here hx (hb hby d275) rfl rfl ?_
    refine t_iloadN 7 X1.here hx (hb hby d276) rfl rfl ?_
    refine t_isub 8 (r := 1) X1.here hx (hb hby d277) (by decide : ((5 : Int32) - (4 : Int32)) = (1 : Int32)) rfl ?_
    refine t_istoreN (pc' := 9) (L' := #[vr o0, vi 4, vi 5, vi 1, .unset]) X1.here hx (hb hby d278) rfl rfl ?_
    refine t_iloadN 10 X1.here hx (hb hby d279) rfl rfl ?_
    refine st2 _ ?_
    refine t_astore (pc' := 14) (L' := #[vr o0, vi 4, vi 5, vi 1, vr b2]) X2.here hx (hb hby d281) rfl rfl rfl ?_
    refine t_aloadN 15 X2.here hx (hb hby d282) rfl rfl rfl ?_
    refine t_iloadN 16 X2.here hx (hb hby d283) rfl rfl ?_
    refine t_aload 18 X2.here hx (hb hby d284) rfl rfl rfl ?_
    refine t_iconst 19 (r := 0) X2.here hx (hb hby d285) (by decide) rfl ?_
    refine t_aloadN 20 X2.here hx (hb hby d286) rfl rfl rfl ?_
    refine own_arlen (pc' := 21) X2 hx hZ e2 f8 (hb hby d287) rfl ?_
    refine t_iloadN 22 X2.here hx (hb hby d288) rfl rfl ?_
    refine t_isub 23 (r := 1) X2.here hx (hb hby d289) (by decide : ((5 : Int32) - (4 : Int32)) = (1 : Int32)) rfl ?_
    refine t_iloadN 24 X2.here hx (hb hby d290) rfl rfl ?_
    refine st9 _ ?_
    refine st10 _ ?_
    refine t_aload 32 X10.here hx (hb hby d294) rfl rfl rfl ?_
    jvm_step X10.here [X10.here.top, hx, (hb hby d295), X10.method', hret, Value.isRef, FieldType.isReference]
    first | (intro acts; rw [hr _ acts rfl rfl rfl]) | rw [hr _ _ rfl rfl rfl]
    exact Steps.refl _
def Q_r100_copyOfRange (Z : State) (o0 : Addr) (i_1 i_2 i_3 i_4 i_5 : Int32) (k_o0 : ClassId) (h0 : Heap) (n0 : Nat) (v : Option Value) (h : Heap) (L : List Loc) : Prop := ∃ b2_6 : Addr, ∃ k2_6 : ClassId, v = some (.ref b2_6) ∧ Fr n0 L ∧ KL h0 h [] ∧ h0.size ≤ b2_6 ∧ Arv Z h b2_6 k2_6 .byte 1 [(.int i_5)] z0
theorem ef_r100_copyOfRange (o0 : Addr) (m : MethodId) : entryFrame m #[(.ref o0), (.int 4), (.int 5)] 3 = mkF m 0 #[.val (.ref o0), .val (.int 4), .val (.int 5)] [] := by first | (simp [entryFrame, mkF, argsToLocals, Value.category]; done) | rfl
set_option maxRecDepth 65536 in
set_option maxHeartbeats 40000000 in
theorem r100_copyOfRange (l : Launch) (Z : State) (a0 : Array Value) (hw : HW Z a0) (ws : List Jvm.Cond) (o0 : Addr) (i_1 i_2 i_3 i_4 i_5 : Int32) (k_o0 : ClassId) (h0 : Heap) (n0 : Nat) (Z0 : n0 ≤ h0.size) (V_o0 : Arv Z h0 o0 k_o0 .byte 5 [(.int i_1), (.int i_2), (.int i_3), (.int i_4), (.int i_5)] z0) :
    MF l Z y22_copyOfRange b23_ 3 (some (.array .byte)) ws ⟨2, 1, 1, 34⟩ #[(.ref o0), (.int 4), (.int 5)] h0 (Q_r100_copyOfRange Z o0 i_1 i_2 i_3 i_4 i_5 k_o0 h0 n0) := by
  refine own_body (plainFor_of_name pn_Arrays587) (ef_r100_copyOfRange o0) (by decide) (by decide) ?_
  intro p e s m below meth c s₁ hx hby hml hown hnm hret hZ hh e0 X0
  have N0 := Fr.nil n0
  obtain ⟨_, T6, L6, X6, hQ6, st6⟩ := own_static X0 hx hZ hown (w103 hw) (w104 hw) (w101 hw) (w105 hw) (by decide) (r101_copyOfRangeByte l Z a0 hw [] o0 i_1 i_2 i_3 i_4 i_5 k_o0 h0 n0 Z0 V_o0) e0 (W := 0) (by decide) (g := (mkF m 13 #[vr o0, vi 4, vi 5] [(.int 5), (.int 4), (.ref o0)])) rfl (by rw [hml]; rfl) (argsL := [(.ref o0), (.int 4), (.int 5)]) (rest := []) (lenOf pd_17 rfl) rfl rfl (own_wr rfl rfl) (hb hby d267)
  obtain ⟨b2_6, k2_6, rfl, N6q, K6, Q6_0, Q6_1⟩ := hQ6
  have N6 := Fr.app N0 N6q
  -- what was kept, from the start on
  have C0 := (KL.refl h0 []).trans K6 na0
  refine ⟨T6, _, some (.ref b2_6), X6, (fun h => by cases h <;> rfl), ?_, fun fs hr => ?_⟩
  · show Q_r100_copyOfRange Z o0 i_1 i_2 i_3 i_4 i_5 k_o0 h0 n0 _ T6.heap _
    exact ⟨b2_6, k2_6, rfl, N6, C0, (Nat.le_trans (Nat.le_refl _) Q6_0), Q6_1⟩
  · refine t_iloadN 1 X0.here hx (hb hby d258) rfl rfl ?_
    refine t_ifYes (pc := 1) 10 X0.here hx (hb hby d259) (by decide) (by decide) (by decide) ?_
    refine t_aloadN 11 X0.here hx (hb hby d264) rfl rfl rfl ?_
    refine t_iloadN 12 X0.here hx (hb hby d265) rfl rfl ?_
    refine t_iloadN 13 X0.here hx (hb hby d266) rfl rfl ?_
    refine st6 _ ?_
    jvm_step X6.here [X6.here.top, hx, (hb hby d296), X6.method', hret, Value.isRef, FieldType.isReference]
    first | (intro acts; rw [hr _ acts rfl rfl rfl]) | rw [hr _ _ rfl rfl rfl]
    exact Steps.refl _
def Q_r99_newString (Z : State) (o0 : Addr) (i_2 i_3 i_4 i_5 i_6 : Int32) (k_o0 : ClassId) (h0 : Heap) (n0 : Nat) (v : Option Value) (h : Heap) (L : List Loc) : Prop := ∃ b1 : Addr, ∃ b2_6_7 : Addr, ∃ k2_6_7 : ClassId, v = some (.ref b1) ∧ Fr n0 L ∧ KL h0 h [] ∧ h0.size ≤ b1 ∧ h0.size ≤ b2_6_7 ∧ b1 ≠ b2_6_7 ∧ Ex0 Z h b1 ∧ Fd0 Z h b1 z0 ∧ Fd1 Z h b1 (.ref b2_6_7) ∧ Arv Z h b2_6_7 k2_6_7 .byte 1 [(.int i_6)] z0
theorem ef_r99_newString (o0 : Addr) (m : MethodId) : entryFrame m #[(.ref o0), (.int 4), (.int 1)] 3 = mkF m 0 #[.val (.ref o0), .val (.int 4), .val (.int 1)] [] := by first | (simp [entryFrame, mkF, argsToLocals, Value.category]; done) | rfl
set_option maxRecDepth 65536 in
set_option maxHeartbeats 40000000 in
theorem r99_newString (l : Launch) (Z : State) (a0 : Array Value) (hw : HW Z a0) (ws : List Jvm.Cond) (o0 : Addr) (i_2 i_3 i_4 i_5 i_6 : Int32) (k_o0 : ClassId) (h0 : Heap) (n0 : Nat) (Z0 : n0 ≤ h0.size) (V_o0 : Arv Z h0 o0 k_o0 .byte 5 [(.int i_2), (.int i_3), (.int i_4), (.int i_5), (.int i_6)] z0) :
    MF l Z y24_newString b22_ 3 (some (.object "java/lang/String")) ws ⟨3, 2, 5, 50⟩ #[(.ref o0), (.int 4), (.int 1)] h0 (Q_r99_newString Z o0 i_2 i_3 i_4 i_5 i_6 k_o0 h0 n0) := by
  refine own_body (plainFor_of_name pn_StringLatin1120) (ef_r99_newString o0) (by decide) (by decide) ?_
  intro p e s m below meth c s₁ hx hby hml hown hnm hret hZ hh e0 X0
  have N0 := Fr.nil n0
  obtain ⟨T1, h1, X1, e1, E1, A1, D1, -, st1⟩ := newO X0 hx hZ hown (w98 hw) (w6 hw) (w7 hw) e0 (g := (mkF m 7 #[vr o0, vi 4, vi 1] [])) rfl (hb hby d250) (by decide) (by decide)
  obtain ⟨b1, g1⟩ : ∃ z, z = h0.size := ⟨_, rfl⟩
  rw [← g1] at A1 D1 st1
  have ge_b1 : h0.size ≤ b1 := Nat.le_of_eq g1.symm
  have K1 := KL.ofE E1
  have F_b1_coder : Fd0 Z h1 b1 z0 := D1 (Or.inr (w31 hw)) (ty := .byte) (by decide)
  have F_b1_value : Fd1 Z h1 b1 .null := D1 (Or.inr (w33 hw)) (ty := (.array .byte)) (by decide)
  have f8 := (kArv K1 V_o0 na0)
  obtain ⟨_, T7, L7, X7, hQ7, st7⟩ := own_static X1 hx hZ hown (w99 hw) (w100 hw) (w101 hw) (w102 hw) (by decide) (r100_copyOfRange l Z a0 hw [] o0 i_2 i_3 i_4 i_5 i_6 k_o0 h1 n0 (Nat.le_trans Z0 K1.1) f8) e1 (W := 2) (by decide) (g := (mkF m 16 #[vr o0, vi 4, vi 1] [(.int 5), (.int 4), (.ref o0), (.ref b1), (.ref b1)])) rfl (by rw [hml]; rfl) (argsL := [(.ref o0), (.int 4), (.int 5)]) (rest := [(.ref b1), (.ref b1)]) (lenOf pd_17 rfl) rfl rfl (own_wr rfl rfl) (hb hby d257)
  obtain ⟨b2_6_7, k2_6_7, rfl, N7q, K7, Q7_0, Q7_1⟩ := hQ7
  have N7 := Fr.app N0 N7q
  have f11 := (kFld K7 F_b1_value nw0)
  have f12 := (kExa K7 A1)
  have f13 := (kFld K7 F_b1_coder nw0)
  have sz_0_2 := (Nat.le_trans K1.1 K7.1)
  obtain ⟨_, T10, L10, X10, hQ10, st10⟩ := own_init X7 hx hZ rfl hown (w114 hw) (w115 hw) (w7 hw) (w116 hw) (by decide) (r23__init_ l Z a0 hw [] b1 b2_6_7 T7.heap n0 (Nat.le_trans Z0 sz_0_2) f11 f12 (Nat.le_trans Z0 (Nat.le_trans (Nat.le_refl _) ge_b1)) f13) rfl (W := 1) (by decide) (g := (mkF m 20 #[vr o0, vi 4, vi 1] [z0, (.ref b2_6_7), (.ref b1), (.ref b1)])) rfl (by rw [hml]; rfl) (argsL := [(.ref b2_6_7), z0]) (rest := [(.ref b1)]) (lenOf pd_18 rfl) rfl rfl (own_wr rfl rfl) (hb hby d298)
  obtain ⟨rfl, N10q, K10, Q10_0, Q10_1⟩ := hQ10
  have N10 := Fr.app N7 N10q
  -- what was kept, from the start on
  have C0 := (KL.refl h0 []).trans K1 na0
  have C1 := C0.trans K7 na0
  have C2 := C1.trans K10 (naO (Or.inr (Nat.le_trans (Nat.le_refl _) ge_b1)) (naO (Or.inr (Nat.le_trans (Nat.le_refl _) ge_b1)) na0))
  have lt_b1 : b1 < h1.size := Exa.lt A1
  have f14 := (kExa K10 f12)
  have f15 := (kArv K10 Q7_1 (naN (lt_ne lt_b1 Q7_0) (naN (lt_ne lt_b1 Q7_0) na0)))
  refine ⟨T10, _, some (.ref b1), X10, (fun h => by cases h <;> rfl), ?_, fun fs hr => ?_⟩
  · show Q_r99_newString Z o0 i_2 i_3 i_4 i_5 i_6 k_o0 h0 n0 _ T10.heap _
    exact ⟨b1, b2_6_7, k2_6_7, rfl, N10, C2, (Nat.le_trans (Nat.le_refl _) ge_b1), (Nat.le_trans K1.1 Q7_0), (lt_ne lt_b1 Q7_0), f14, Q10_1, Q10_0, f15⟩
  · refine t_iloadN 1 X0.here hx (hb hby d248) rfl rfl ?_
    refine t_ifYes (pc := 1) 7 X0.here hx (hb hby d249) (by decide) (by decide) (by decide) ?_
    refine st1 _ ?_
    refine t_dup 11 X1.here hx (hb hby d251) rfl rfl ?_
    refine t_aloadN 12 X1.here hx (hb hby d252) rfl rfl rfl ?_
    refine t_iloadN 13 X1.here hx (hb hby d253) rfl rfl ?_
    refine t_iloadN 14 X1.here hx (hb hby d254) rfl rfl ?_
    refine t_iloadN 15 X1.here hx (hb hby d255) rfl rfl ?_
    refine t_iadd 16 (r := 5) X1.here hx (hb hby d256) (by decide : ((4 : Int32) + (1 : Int32)) = (5 : Int32)) rfl ?_
    refine st7 _ ?_
    refine t_iconst 20 (r := 0) X7.here hx (hb hby d297) (by decide) rfl ?_
    refine st10 _ ?_
    jvm_step X10.here [X10.here.top, hx, (hb hby d308), X10.method', hret, Value.isRef, FieldType.isReference]
    first | (intro acts; rw [hr _ acts rfl rfl rfl]) | rw [hr _ _ rfl rfl rfl]
    exact Steps.refl _
def Q_r98_substring (Z : State) (o0 o_1 : Addr) (i_2 i_3 i_4 i_5 i_6 : Int32) (k_o_1 : ClassId) (i_7 : Int32) (u_9 : Value) (h0 : Heap) (n0 : Nat) (v : Option Value) (h : Heap) (L : List Loc) : Prop := ∃ b1_13 : Addr, ∃ b2_6_7_13 : Addr, ∃ k2_6_7_13 : ClassId, v = some (.ref b1_13) ∧ Fr n0 L ∧ KL h0 h [] ∧ h0.size ≤ b1_13 ∧ h0.size ≤ b2_6_7_13 ∧ b1_13 ≠ b2_6_7_13 ∧ Ex0 Z h b1_13 ∧ Fd0 Z h b1_13 z0 ∧ Fd1 Z h b1_13 (.ref b2_6_7_13) ∧ Arv Z h b2_6_7_13 k2_6_7_13 .byte 1 [(.int i_6)] z0
theorem ef_r98_substring (o0 : Addr) (m : MethodId) : entryFrame m #[(.ref o0), (.int 4), (.int 5)] 5 = mkF m 0 #[.val (.ref o0), .val (.int 4), .val (.int 5), .unset, .unset] [] := by first | (simp [entryFrame, mkF, argsToLocals, Value.category]; done) | rfl
set_option maxRecDepth 65536 in
set_option maxHeartbeats 40000000 in
theorem r98_substring (l : Launch) (Z : State) (a0 : Array Value) (hw : HW Z a0) (ws : List Jvm.Cond) (o0 o_1 : Addr) (i_2 i_3 i_4 i_5 i_6 : Int32) (k_o_1 : ClassId) (i_7 : Int32) (u_9 : Value) (h0 : Heap) (n0 : Nat) (Z0 : n0 ≤ h0.size) (E_o0 : Ex0 Z h0 o0) (F_o0_value : Fd1 Z h0 o0 (.ref o_1)) (V_o_1 : Arv Z h0 o_1 k_o_1 .byte 5 [(.int i_2), (.int i_3), (.int i_4), (.int i_5), (.int i_6)] z0) (S_COMPACT_STRINGS : SCS Z i_7) (F_o0_coder : Fd0 Z h0 o0 z0) (O0 : Old Z n0 h0) (hp0 : ¬ (i_7 = (0 : Int32))) (S_SIOOBE_FORMATTER : Sta Z Z.heap "jdk/internal/util/Preconditions" "SIOOBE_FORMATTER" "Ljava/util/function/BiFunction;" u_9) (hp1 : u_9.isRef = true) :
    MF l Z y25_substring b21_ 5 (some (.object "java/lang/String")) ws ⟨4, 2, 5, 64⟩ #[(.ref o0), (.int 4), (.int 5)] h0 (Q_r98_substring Z o0 o_1 i_2 i_3 i_4 i_5 i_6 k_o_1 i_7 u_9 h0 n0) := by
  refine own_body (plainFor_of_name pn_String564) (ef_r98_substring o0) (by decide) (by decide) ?_
  intro p e s m below meth c s₁ hx hby hml hown hnm hret hZ hh e0 X0
  have N0 := Fr.nil n0
  obtain ⟨_, T8, L8, X8, hQ8, st8⟩ := own_virtual X0 hx hZ hown (w53 hw) (w54 hw) (notFace_of_selects (args := #[]) (mvT hZ (w56 hw))) (w56 hw) (w55 hw) (w7 hw) (w57 hw) (by decide) (r10_length l Z a0 hw [] o0 o_1 i_2 i_3 i_4 i_5 i_6 k_o_1 i_7 h0 n0 Z0 F_o0_value V_o_1 E_o0 S_COMPACT_STRINGS F_o0_coder O0 hp0) e0 E_o0 (W := 0) (by decide) (g := (mkF m 1 #[vr o0, vi 4, vi 5, .unset, .unset] [(.ref o0)])) rfl (by rw [hml]; rfl) (argsL := []) (rest := []) (lenOf pd_10 rfl) rfl rfl (own_wr rfl rfl) (hb hby d225)
  obtain ⟨rfl, N8q, e8⟩ := hQ8
  have N8 := Fr.app N0 N8q
  obtain ⟨_, T10, L10, X10, hQ10, st10⟩ := own_static X8 hx hZ hown (w87 hw) (w88 hw) (w7 hw) (w89 hw) (by decide) (r_checkBoundsBeginEnd l Z a0 hw [] (4 : Int32) (5 : Int32) (5 : Int32) u_9 h0 n0 Z0 hp1 S_SIOOBE_FORMATTER O0 (by decide) (by decide) (by decide)) e8 (W := 0) (by decide) (g := (mkF m 8 #[vr o0, vi 4, vi 5, vi 5, .unset] [(.int 5), (.int 5), (.int 4)])) rfl (by rw [hml]; rfl) (argsL := [(.int 4), (.int 5), (.int 5)]) (rest := []) (lenOf pd_15 rfl) rfl rfl (own_wr rfl rfl) (hb hby d230)
  obtain ⟨rfl, N10q, e10⟩ := hQ10
  have N10 := Fr.app N8 N10q
  obtain ⟨_, T11, L11, X11, hQ11, st11⟩ := own_virtual X10 hx hZ hown (w48 hw) (w49 hw) (notFace_of_selects (args := #[]) (mvT hZ (w51 hw))) (w51 hw) (w50 hw) (w7 hw) (w52 hw) (by decide) (r9_isLatin1 l Z a0 hw [] o0 i_7 h0 n0 Z0 S_COMPACT_STRINGS O0 hp0 F_o0_coder) e10 E_o0 (W := 0) (by decide) (g := (mkF m 28 #[vr o0, vi 4, vi 5, vi 5, vi 1] [(.ref o0)])) rfl (by rw [hml]; rfl) (argsL := []) (rest := []) (lenOf pd_8 rfl) rfl rfl (own_wr rfl rfl) (hb hby d241)
  obtain ⟨rfl, N11q, e11⟩ := hQ11
  have N11 := Fr.app N10 N11q
  obtain ⟨T12, X12, e12, st12⟩ := getF X11 hx hZ hown (host := "") (Or.inl (w32 hw)) Via.refl e11 F_o0_value (g := (mkF m 35 #[vr o0, vi 4, vi 5, vi 5, vi 1] [(.ref o0)])) rfl rfl (hb hby d244)
  obtain ⟨_, T13, L13, X13, hQ13, st13⟩ := own_static X12 hx hZ hown (w95 hw) (w96 hw) (w65 hw) (w97 hw) (by decide) (r99_newString l Z a0 hw [] o_1 i_2 i_3 i_4 i_5 i_6 k_o_1 h0 n0 Z0 V_o_1) e12 (W := 0) (by decide) (g := (mkF m 41 #[vr o0, vi 4, vi 5, vi 5, vi 1] [(.int 1), (.int 4), (.ref o_1)])) rfl (by rw [hml]; rfl) (argsL := [(.ref o_1), (.int 4), (.int 1)]) (rest := []) (lenOf pd_19 rfl) rfl rfl (own_wr rfl rfl) (hb hby d247)
  obtain ⟨b1_13, b2_6_7_13, k2_6_7_13, rfl, N13q, K13, Q13_0, Q13_1, Q13_2, Q13_3, Q13_4, Q13_5, Q13_6⟩ := hQ13
  have N13 := Fr.app N11 N13q
  -- what was kept, from the start on
  have C0 := (KL.refl h0 []).trans K13 na0
  refine ⟨T13, _, some (.ref b1_13), X13, (fun h => by cases h <;> rfl), ?_, fun fs hr => ?_⟩
  · show Q_r98_substring Z o0 o_1 i_2 i_3 i_4 i_5 i_6 k_o_1 i_7 u_9 h0 n0 _ T13.heap _
    exact ⟨b1_13, b2_6_7_13, k2_6_7_13, rfl, N13, C0, (Nat.le_trans (Nat.le_refl _) Q13_0), (Nat.le_trans (Nat.le_refl _) Q13_1), Q13_2, Q13_3, Q13_4, Q13_5, Q13_6⟩
  · refine t_aloadN 1 X0.here hx (hb hby d224) rfl rfl rfl ?_
    refine st8 _ ?_
    refine t_istoreN (pc' := 5) (L' := #[vr o0, vi 4, vi 5, vi 5, .unset]) X8.here hx (hb hby d226) rfl rfl ?_
    refine t_iloadN 6 X8.here hx (hb hby d227) rfl rfl ?_
    refine t_iloadN 7 X8.here hx (hb hby d228) rfl rfl ?_
    refine t_iloadN 8 X8.here hx (hb hby d229) rfl rfl ?_
    refine st10 _ ?_
    refine t_iloadN 12 X10.here hx (hb hby d231) rfl rfl ?_
    refine t_ifYes (pc := 12) 22 X10.here hx (hb hby d232) (by decide) (by decide) (by decide) ?_
    refine t_iloadN 23 X10.here hx (hb hby d236) rfl rfl ?_
    refine t_iloadN 24 X10.here hx (hb hby d237) rfl rfl ?_
    refine t_isub 25 (r := 1) X10.here hx (hb hby d238) (by decide : ((5 : Int32) - (4 : Int32)) = (1 : Int32)) rfl ?_
    refine t_istore (pc' := 27) (L' := #[vr o0, vi 4, vi 5, vi 5, vi 1]) X10.here hx (hb hby d239) rfl rfl ?_
    refine t_aloadN 28 X10.here hx (hb hby d240) rfl rfl rfl ?_
    refine st11 _ ?_
    refine t_ifNo 34 X11.here hx (hb hby d242) (by decide) rfl ?_
    refine t_aloadN 35 X11.here hx (hb hby d243) rfl rfl rfl ?_
    refine st12 _ ?_
    refine t_iloadN 39 X12.here hx (hb hby d245) rfl rfl ?_
    refine t_iload 41 X12.here hx (hb hby d246) rfl rfl ?_
    refine st13 _ ?_
    refine t_goto (pc := 44) 57 X13.here hx (hb hby d309) (by decide) (by decide) ?_
    jvm_step X13.here [X13.here.top, hx, (hb hby d310), X13.method', hret, Value.isRef, FieldType.isReference]
    first | (intro acts; rw [hr _ acts rfl rfl rfl]) | rw [hr _ _ rfl rfl rfl]
    exact Steps.refl _
def Q_r97_substring (Z : State) (o0 o_1 : Addr) (i_2 i_3 i_4 i_5 i_6 : Int32) (k_o_1 : ClassId) (i_7 : Int32) (u_9 : Value) (h0 : Heap) (n0 : Nat) (v : Option Value) (h : Heap) (L : List Loc) : Prop := ∃ b1_13_10 : Addr, ∃ b2_6_7_13_10 : Addr, ∃ k2_6_7_13_10 : ClassId, v = some (.ref b1_13_10) ∧ Fr n0 L ∧ KL h0 h [] ∧ h0.size ≤ b1_13_10 ∧ h0.size ≤ b2_6_7_13_10 ∧ b1_13_10 ≠ b2_6_7_13_10 ∧ Ex0 Z h b1_13_10 ∧ Fd0 Z h b1_13_10 z0 ∧ Fd1 Z h b1_13_10 (.ref b2_6_7_13_10) ∧ Arv Z h b2_6_7_13_10 k2_6_7_13_10 .byte 1 [(.int i_6)] z0
theorem ef_r97_substring (o0 : Addr) (m : MethodId) : entryFrame m #[(.ref o0), (.int 4)] 2 = mkF m 0 #[.val (.ref o0), .val (.int 4)] [] := by first | (simp [entryFrame, mkF, argsToLocals, Value.category]; done) | rfl
set_option maxRecDepth 65536 in
set_option maxHeartbeats 40000000 in
theorem r97_substring (l : Launch) (Z : State) (a0 : Array Value) (hw : HW Z a0) (ws : List Jvm.Cond) (o0 o_1 : Addr) (i_2 i_3 i_4 i_5 i_6 : Int32) (k_o_1 : ClassId) (i_7 : Int32) (u_9 : Value) (h0 : Heap) (n0 : Nat) (Z0 : n0 ≤ h0.size) (E_o0 : Ex0 Z h0 o0) (F_o0_value : Fd1 Z h0 o0 (.ref o_1)) (V_o_1 : Arv Z h0 o_1 k_o_1 .byte 5 [(.int i_2), (.int i_3), (.int i_4), (.int i_5), (.int i_6)] z0) (S_COMPACT_STRINGS : SCS Z i_7) (F_o0_coder : Fd0 Z h0 o0 z0) (O0 : Old Z n0 h0) (hp0 : ¬ (i_7 = (0 : Int32))) (S_SIOOBE_FORMATTER : Sta Z Z.heap "jdk/internal/util/Preconditions" "SIOOBE_FORMATTER" "Ljava/util/function/BiFunction;" u_9) (hp1 : u_9.isRef = true) :
    MF l Z y26_substring b27_ 2 (some (.object "java/lang/String")) ws ⟨5, 2, 5, 80⟩ #[(.ref o0), (.int 4)] h0 (Q_r97_substring Z o0 o_1 i_2 i_3 i_4 i_5 i_6 k_o_1 i_7 u_9 h0 n0) := by
  refine own_body (plainFor_of_name pn_String564) (ef_r97_substring o0) (by decide) (by decide) ?_
  intro p e s m below meth c s₁ hx hby hml hown hnm hret hZ hh e0 X0
  have N0 := Fr.nil n0
  obtain ⟨_, T8, L8, X8, hQ8, st8⟩ := own_virtual X0 hx hZ hown (w53 hw) (w54 hw) (notFace_of_selects (args := #[]) (mvT hZ (w56 hw))) (w56 hw) (w55 hw) (w7 hw) (w57 hw) (by decide) (r10_length l Z a0 hw [] o0 o_1 i_2 i_3 i_4 i_5 i_6 k_o_1 i_7 h0 n0 Z0 F_o0_value V_o_1 E_o0 S_COMPACT_STRINGS F_o0_coder O0 hp0) e0 E_o0 (W := 2) (by decide) (g := (mkF m 3 #[vr o0, vi 4] [(.ref o0), (.int 4), (.ref o0)])) rfl (by rw [hml]; rfl) (argsL := []) (rest := [(.int 4), (.ref o0)]) (lenOf pd_10 rfl) rfl rfl (own_wr rfl rfl) (hb hby d319)
  obtain ⟨rfl, N8q, e8⟩ := hQ8
  have N8 := Fr.app N0 N8q
  obtain ⟨_, T10, L10, X10, hQ10, st10⟩ := own_virtual X8 hx hZ hown (w122 hw) (w83 hw) (notFace_of_selects (args := #[]) (mvT hZ (w85 hw))) (w85 hw) (w84 hw) (w7 hw) (w86 hw) (by decide) (r98_substring l Z a0 hw [] o0 o_1 i_2 i_3 i_4 i_5 i_6 k_o_1 i_7 u_9 h0 n0 Z0 E_o0 F_o0_value V_o_1 S_COMPACT_STRINGS F_o0_coder O0 hp0 S_SIOOBE_FORMATTER hp1) e8 E_o0 (W := 0) (by decide) (g := (mkF m 6 #[vr o0, vi 4] [(.int 5), (.int 4), (.ref o0)])) rfl (by rw [hml]; rfl) (argsL := [(.int 4), (.int 5)]) (rest := []) (lenOf pd_20 rfl) rfl rfl (own_wr rfl rfl) (hb hby d320)
  obtain ⟨b1_13_10, b2_6_7_13_10, k2_6_7_13_10, rfl, N10q, K10, Q10_0, Q10_1, Q10_2, Q10_3, Q10_4, Q10_5, Q10_6⟩ := hQ10
  have N10 := Fr.app N8 N10q
  -- what was kept, from the start on
  have C0 := (KL.refl h0 []).trans K10 na0
  refine ⟨T10, _, some (.ref b1_13_10), X10, (fun h => by cases h <;> rfl), ?_, fun fs hr => ?_⟩
  · show Q_r97_substring Z o0 o_1 i_2 i_3 i_4 i_5 i_6 k_o_1 i_7 u_9 h0 n0 _ T10.heap _
    exact ⟨b1_13_10, b2_6_7_13_10, k2_6_7_13_10, rfl, N10, C0, (Nat.le_trans (Nat.le_refl _) Q10_0), (Nat.le_trans (Nat.le_refl _) Q10_1), Q10_2, Q10_3, Q10_4, Q10_5, Q10_6⟩
  · refine t_aloadN 1 X0.here hx (hb hby d316) rfl rfl rfl ?_
    refine t_iloadN 2 X0.here hx (hb hby d317) rfl rfl ?_
    refine t_aloadN 3 X0.here hx (hb hby d318) rfl rfl rfl ?_
    refine st8 _ ?_
    refine st10 _ ?_
    jvm_step X10.here [X10.here.top, hx, (hb hby d321), X10.method', hret, Value.isRef, FieldType.isReference]
    first | (intro acts; rw [hr _ acts rfl rfl rfl]) | rw [hr _ _ rfl rfl rfl]
    exact Steps.refl _
def Q_r107_indexOfChar (Z : State) (o0 : Addr) (i_1 i_2 i_3 : Int32) (k_o0 : ClassId) (h0 : Heap) (n0 : Nat) (v : Option Value) (h : Heap) (L : List Loc) : Prop := v = some (.int (-1)) ∧ Fr n0 L ∧ h = h0
theorem ef_r107_indexOfChar (o0 : Addr) (m : MethodId) : entryFrame m #[(.ref o0), (.int 58), (.int 0), (.int 3)] 6 = mkF m 0 #[.val (.ref o0), .val (.int 58), .val (.int 0), .val (.int 3), .unset, .unset] [] := by first | (simp [entryFrame, mkF, argsToLocals, Value.category]; done) | rfl
set_option maxRecDepth 65536 in
set_option maxHeartbeats 40000000 in
theorem r107_indexOfChar (l : Launch) (Z : State) (a0 : Array Value) (hw : HW Z a0) (ws : List Jvm.Cond) (o0 : Addr) (i_1 i_2 i_3 : Int32) (k_o0 : ClassId) (h0 : Heap) (n0 : Nat) (Z0 : n0 ≤ h0.size) (V_o0 : Arv Z h0 o0 k_o0 .byte 3 [(.int i_1), (.int i_2), (.int i_3)] z0) (hp0 : ¬ (i_1 = (58 : Int32))) (hp1 : ¬ (i_2 = (58 : Int32))) (hp2 : ¬ (i_3 = (58 : Int32))) :
    MF l Z y16_indexOfChar b20_ 6 (some .int) ws ⟨0, 0, 0, 0⟩ #[(.ref o0), (.int 58), z0, (.int 3)] h0 (Q_r107_indexOfChar Z o0 i_1 i_2 i_3 k_o0 h0 n0) := by
  refine own_body (plainFor_of_name pn_StringLatin1120) (ef_r107_indexOfChar o0) (by decide) (by decide) ?_
  intro p e s m below meth c s₁ hx hby hml hown hnm hret hZ hh e0 X0
  have N0 := Fr.nil n0
  refine ⟨s₁, _, some (.int (-1)), X0, (fun h => by cases h <;> rfl), ?_, fun fs hr => ?_⟩
  · show Q_r107_indexOfChar Z o0 i_1 i_2 i_3 k_o0 h0 n0 _ s₁.heap _
    rw [e0]
    exact ⟨rfl, N0, rfl⟩
  · refine t_iloadN 1 X0.here hx (hb hby d194) rfl rfl ?_
    refine t_i2b 2 (r := 58) X0.here hx (hb hby d195) (by decide : ((58 : Int32).toInt8.toInt32) = (58 : Int32)) rfl ?_
    refine t_istore (pc' := 4) (L' := #[vr o0, vi 58, vi 0, vi 3, vi 58, .unset]) X0.here hx (hb hby d196) rfl rfl ?_
    refine t_iloadN 5 X0.here hx (hb hby d197) rfl rfl ?_
    refine t_istore (pc' := 7) (L' := #[vr o0, vi 58, vi 0, vi 3, vi 58, vi 0]) X0.here hx (hb hby d198) rfl rfl ?_
    refine t_iload 9 X0.here hx (hb hby d199) rfl rfl ?_
    refine t_iloadN 10 X0.here hx (hb hby d200) rfl rfl ?_
    refine t_icmpNo 13 X0.here hx (hb hby d201) (by decide) rfl ?_
    refine t_aloadN 14 X0.here hx (hb hby d202) rfl rfl rfl ?_
    refine t_iload 16 X0.here hx (hb hby d203) rfl rfl ?_
    refine own_aldB (pc' := 17) X0 hx hZ e0 V_o0 (j := 0) (v := (.int i_1)) (by decide) rfl (hb hby d204) rfl ?_
    refine t_iload 19 X0.here hx (hb hby d205) rfl rfl ?_
    refine t_icmpYes (pc := 19) 25 X0.here hx (hb hby d206) (feq hp0).2 (by decide) (by decide) ?_
    refine t_iinc (pc' := 28) (L' := #[vr o0, vi 58, vi 0, vi 3, vi 58, vi 1]) X0.here hx (hb hby d207) rfl (by first | rfl | decide) rfl ?_
    refine t_goto (pc := 28) 7 X0.here hx (hb hby d208) (by decide) (by decide) ?_
    refine t_iload 9 X0.here hx (hb hby d199) rfl rfl ?_
    refine t_iloadN 10 X0.here hx (hb hby d200) rfl rfl ?_
    refine t_icmpNo 13 X0.here hx (hb hby d201) (by decide) rfl ?_
    refine t_aloadN 14 X0.here hx (hb hby d202) rfl rfl rfl ?_
    refine t_iload 16 X0.here hx (hb hby d203) rfl rfl ?_
    refine own_aldB (pc' := 17) X0 hx hZ e0 V_o0 (j := 1) (v := (.int i_2)) (by decide) rfl (hb hby d204) rfl ?_
    refine t_iload 19 X0.here hx (hb hby d205) rfl rfl ?_
    refine t_icmpYes (pc := 19) 25 X0.here hx (hb hby d206) (feq hp1).2 (by decide) (by decide) ?_
    refine t_iinc (pc' := 28) (L' := #[vr o0, vi 58, vi 0, vi 3, vi 58, vi 2]) X0.here hx (hb hby d207) rfl (by first | rfl | decide) rfl ?_
    refine t_goto (pc := 28) 7 X0.here hx (hb hby d208) (by decide) (by decide) ?_
    refine t_iload 9 X0.here hx (hb hby d199) rfl rfl ?_
    refine t_iloadN 10 X0.here hx (hb hby d200) rfl rfl ?_
    refine t_icmpNo 13 X0.here hx (hb hby d201) (by decide) rfl ?_
    refine t_aloadN 14 X0.here hx (hb hby d202) rfl rfl rfl ?_
    refine t_iload 16 X0.here hx (hb hby d203) rfl rfl ?_
    refine own_aldB (pc' := 17) X0 hx hZ e0 V_o0 (j := 2) (v := (.int i_3)) (by decide) rfl (hb hby d204) rfl ?_
    refine t_iload 19 X0.here hx (hb hby d205) rfl rfl ?_
    refine t_icmpYes (pc := 19) 25 X0.here hx (hb hby d206) (feq hp2).2 (by decide) (by decide) ?_
    refine t_iinc (pc' := 28) (L' := #[vr o0, vi 58, vi 0, vi 3, vi 58, vi 3]) X0.here hx (hb hby d207) rfl (by first | rfl | decide) rfl ?_
    refine t_goto (pc := 28) 7 X0.here hx (hb hby d208) (by decide) (by decide) ?_
    refine t_iload 9 X0.here hx (hb hby d199) rfl rfl ?_
    refine t_iloadN 10 X0.here hx (hb hby d200) rfl rfl ?_
    refine t_icmpYes (pc := 10) 31 X0.here hx (hb hby d201) (by decide) (by decide) (by decide) ?_
    refine t_iconst 32 (r := (-1 : Int32)) X0.here hx (hb hby d352) (by decide) rfl ?_
    exact retI X0 hx hret (hb hby d353) hr
def Q_r106_indexOf (Z : State) (o0 : Addr) (i_3 i_4 i_5 : Int32) (k_o0 : ClassId) (h0 : Heap) (n0 : Nat) (v : Option Value) (h : Heap) (L : List Loc) : Prop := v = some (.int (-1)) ∧ Fr n0 L ∧ h = h0
theorem ef_r106_indexOf (o0 : Addr) (m : MethodId) : entryFrame m #[(.ref o0), (.int 58), (.int 0), (.int 3)] 4 = mkF m 0 #[.val (.ref o0), .val (.int 58), .val (.int 0), .val (.int 3)] [] := by first | (simp [entryFrame, mkF, argsToLocals, Value.category]; done) | rfl
set_option maxRecDepth 65536 in
set_option maxHeartbeats 40000000 in
theorem r106_indexOf (l : Launch) (Z : State) (a0 : Array Value) (hw : HW Z a0) (ws : List Jvm.Cond) (o0 : Addr) (i_3 i_4 i_5 : Int32) (k_o0 : ClassId) (h0 : Heap) (n0 : Nat) (Z0 : n0 ≤ h0.size) (V_o0 : Arv Z h0 o0 k_o0 .byte 3 [(.int i_3), (.int i_4), (.int i_5)] z0) (hp0 : ¬ (i_3 = (58 : Int32))) (hp1 : ¬ (i_4 = (58 : Int32))) (hp2 : ¬ (i_5 = (58 : Int32))) :
    MF l Z y17_indexOf b16_ 4 (some .int) ws ⟨1, 0, 0, 17⟩ #[(.ref o0), (.int 58), z0, (.int 3)] h0 (Q_r106_indexOf Z o0 i_3 i_4 i_5 k_o0 h0 n0) := by
  refine own_body (plainFor_of_name pn_StringLatin1120) (ef_r106_indexOf o0) (by decide) (by decide) ?_
  intro p e s m below meth c s₁ hx hby hml hown hnm hret hZ hh e0 X0
  have N0 := Fr.nil n0
  obtain ⟨_, T1, L1, X1, hQ1, st1⟩ := own_static X0 hx hZ hown (w67 hw) (w68 hw) (w65 hw) (w69 hw) (by decide) (r13_canEncode l Z a0 hw []  h0 n0 Z0) e0 (W := 0) (by decide) (g := (mkF m 1 #[vr o0, vi 58, vi 0, vi 3] [(.int 58)])) rfl (by rw [hml]; rfl) (argsL := [(.int 58)]) (rest := []) (lenOf pd_11 rfl) rfl rfl (own_wr rfl rfl) (hb hby d155)
  obtain ⟨rfl, N1q, e1⟩ := hQ1
  have N1 := Fr.app N0 N1q
  obtain ⟨_, T2, L2, X2, hQ2, st2⟩ := own_static X1 hx hZ hown (w70 hw) (w71 hw) (w72 hw) (w73 hw) (by decide) (r14_max l Z a0 hw []  h0 n0 Z0) e1 (W := 0) (by decide) (g := (mkF m 11 #[vr o0, vi 58, vi 0, vi 3] [z0, z0])) rfl (by rw [hml]; rfl) (argsL := [z0, z0]) (rest := []) (lenOf pd_12 rfl) rfl rfl (own_wr rfl rfl) (hb hby d167)
  obtain ⟨rfl, N2q, e2⟩ := hQ2
  have N2 := Fr.app N1 N2q
  obtain ⟨_, T6, L6, X6, hQ6, st6⟩ := own_static X2 hx hZ hown (w74 hw) (w75 hw) (w72 hw) (w76 hw) (by decide) (r30_min l Z a0 hw []  h0 n0 Z0) e2 (W := 0) (by decide) (g := (mkF m 18 #[vr o0, vi 58, vi 0, vi 3] [(.int 3), (.int 3)])) rfl (by rw [hml]; rfl) (argsL := [(.int 3), (.int 3)]) (rest := []) (lenOf pd_12 rfl) rfl rfl (own_wr rfl rfl) (hb hby d178)
  obtain ⟨rfl, N6q, e6⟩ := hQ6
  have N6 := Fr.app N2 N6q
  obtain ⟨_, T7, L7, X7, hQ7, st7⟩ := own_static X6 hx hZ hown (w77 hw) (w78 hw) (w65 hw) (w79 hw) (by decide) (r107_indexOfChar l Z a0 hw [] o0 i_3 i_4 i_5 k_o0 h0 n0 Z0 V_o0 hp0 hp1 hp2) e6 (W := 0) (by decide) (g := (mkF m 33 #[vr o0, vi 58, vi 0, vi 3] [(.int 3), z0, (.int 58), (.ref o0)])) rfl (by rw [hml]; rfl) (argsL := [(.ref o0), (.int 58), z0, (.int 3)]) (rest := []) (lenOf pd_13 rfl) rfl rfl (own_wr rfl rfl) (hb hby d193)
  obtain ⟨rfl, N7q, e7⟩ := hQ7
  have N7 := Fr.app N6 N7q
  refine ⟨T7, _, some (.int (-1)), X7, (fun h => by cases h <;> rfl), ?_, fun fs hr => ?_⟩
  · show Q_r106_indexOf Z o0 i_3 i_4 i_5 k_o0 h0 n0 _ T7.heap _
    rw [e7]
    exact ⟨rfl, N7, rfl⟩
  · refine t_iloadN 1 X0.here hx (hb hby d154) rfl rfl ?_
    refine st1 _ ?_
    refine t_ifYes (pc := 4) 9 X1.here hx (hb hby d164) (by decide) (by decide) (by decide) ?_
    refine t_iloadN 10 X1.here hx (hb hby d165) rfl rfl ?_
    refine t_iconst 11 (r := 0) X1.here hx (hb hby d166) (by decide) rfl ?_
    refine st2 _ ?_
    refine t_istoreN (pc' := 15) (L' := #[vr o0, vi 58, vi 0, vi 3]) X2.here hx (hb hby d174) rfl rfl ?_
    refine t_iloadN 16 X2.here hx (hb hby d175) rfl rfl ?_
    refine t_aloadN 17 X2.here hx (hb hby d176) rfl rfl rfl ?_
    refine own_arlen (pc' := 18) X2 hx hZ e2 V_o0 (hb hby d177) rfl ?_
    refine st6 _ ?_
    refine t_istoreN (pc' := 22) (L' := #[vr o0, vi 58, vi 0, vi 3]) X6.here hx (hb hby d185) rfl rfl ?_
    refine t_iloadN 23 X6.here hx (hb hby d186) rfl rfl ?_
    refine t_iloadN 24 X6.here hx (hb hby d187) rfl rfl ?_
    refine t_icmpYes (pc := 24) 29 X6.here hx (hb hby d188) (by decide) (by decide) (by decide) ?_
    refine t_aloadN 30 X6.here hx (hb hby d189) rfl rfl rfl ?_
    refine t_iloadN 31 X6.here hx (hb hby d190) rfl rfl ?_
    refine t_iloadN 32 X6.here hx (hb hby d191) rfl rfl ?_
    refine t_iloadN 33 X6.here hx (hb hby d192) rfl rfl ?_
    refine st7 _ ?_
    exact retI X7 hx hret (hb hby d211) hr
def Q_r105_indexOf (Z : State) (o0 : Addr) (i_1 : Int32) (o_3 : Addr) (i_5 i_6 i_7 : Int32) (k_o_3 : ClassId) (h0 : Heap) (n0 : Nat) (v : Option Value) (h : Heap) (L : List Loc) : Prop := v = some (.int (-1)) ∧ Fr n0 L ∧ h = h0
theorem ef_r105_indexOf (o0 : Addr) (m : MethodId) : entryFrame m #[(.ref o0), (.int 58), (.int 0)] 3 = mkF m 0 #[.val (.ref o0), .val (.int 58), .val (.int 0)] [] := by first | (simp [entryFrame, mkF, argsToLocals, Value.category]; done) | rfl
set_option maxRecDepth 65536 in
set_option maxHeartbeats 40000000 in
theorem r105_indexOf (l : Launch) (Z : State) (a0 : Array Value) (hw : HW Z a0) (ws : List Jvm.Cond) (o0 : Addr) (i_1 : Int32) (o_3 : Addr) (i_5 i_6 i_7 : Int32) (k_o_3 : ClassId) (h0 : Heap) (n0 : Nat) (Z0 : n0 ≤ h0.size) (E_o0 : Ex0 Z h0 o0) (S_COMPACT_STRINGS : SCS Z i_1) (F_o0_coder : Fd0 Z h0 o0 z0) (O0 : Old Z n0 h0) (hp0 : ¬ (i_1 = (0 : Int32))) (F_o0_value : Fd1 Z h0 o0 (.ref o_3)) (V_o_3 : Arv Z h0 o_3 k_o_3 .byte 3 [(.int i_5), (.int i_6), (.int i_7)] z0) (hp1 : ¬ (i_5 = (58 : Int32))) (hp2 : ¬ (i_6 = (58 : Int32))) (hp3 : ¬ (i_7 = (58 : Int32))) :
    MF l Z y18_indexOf b12_ 3 (some .int) ws ⟨2, 0, 0, 32⟩ #[(.ref o0), (.int 58), z0] h0 (Q_r105_indexOf Z o0 i_1 o_3 i_5 i_6 i_7 k_o_3 h0 n0) := by
  refine own_body (plainFor_of_name pn_String564) (ef_r105_indexOf o0) (by decide) (by decide) ?_
  intro p e s m below meth c s₁ hx hby hml hown hnm hret hZ hh e0 X0
  have N0 := Fr.nil n0
  obtain ⟨_, T2, L2, X2, hQ2, st2⟩ := own_virtual X0 hx hZ hown (w48 hw) (w49 hw) (notFace_of_selects (args := #[]) (mvT hZ (w51 hw))) (w51 hw) (w50 hw) (w7 hw) (w52 hw) (by decide) (r9_isLatin1 l Z a0 hw [] o0 i_1 h0 n0 Z0 S_COMPACT_STRINGS O0 hp0 F_o0_coder) e0 E_o0 (W := 0) (by decide) (g := (mkF m 1 #[vr o0, vi 58, vi 0] [(.ref o0)])) rfl (by rw [hml]; rfl) (argsL := []) (rest := []) (lenOf pd_8 rfl) rfl rfl (own_wr rfl rfl) (hb hby d124)
  obtain ⟨rfl, N2q, e2⟩ := hQ2
  have N2 := Fr.app N0 N2q
  obtain ⟨T4, X4, e4, st4⟩ := getF X2 hx hZ hown (host := "") (Or.inl (w32 hw)) Via.refl e2 F_o0_value (g := (mkF m 8 #[vr o0, vi 58, vi 0] [(.ref o0)])) rfl rfl (hb hby d135)
  obtain ⟨_, T8, L8, X8, hQ8, st8⟩ := own_virtual X4 hx hZ hown (w53 hw) (w54 hw) (notFace_of_selects (args := #[]) (mvT hZ (w56 hw))) (w56 hw) (w55 hw) (w7 hw) (w57 hw) (by decide) (r48_length l Z a0 hw [] o0 o_3 i_5 i_6 i_7 k_o_3 i_1 h0 n0 Z0 F_o0_value V_o_3 E_o0 S_COMPACT_STRINGS F_o0_coder O0 hp0) e4 E_o0 (W := 3) (by decide) (g := (mkF m 14 #[vr o0, vi 58, vi 0] [(.ref o0), z0, (.int 58), (.ref o_3)])) rfl (by rw [hml]; rfl) (argsL := []) (rest := [z0, (.int 58), (.ref o_3)]) (lenOf pd_10 rfl) rfl rfl (own_wr rfl rfl) (hb hby d139)
  obtain ⟨rfl, N8q, e8⟩ := hQ8
  have N8 := Fr.app N2 N8q
  obtain ⟨_, T9, L9, X9, hQ9, st9⟩ := own_static X8 hx hZ hown (w63 hw) (w64 hw) (w65 hw) (w66 hw) (by decide) (r106_indexOf l Z a0 hw [] o_3 i_5 i_6 i_7 k_o_3 h0 n0 Z0 V_o_3 hp1 hp2 hp3) e8 (W := 0) (by decide) (g := (mkF m 17 #[vr o0, vi 58, vi 0] [(.int 3), z0, (.int 58), (.ref o_3)])) rfl (by rw [hml]; rfl) (argsL := [(.ref o_3), (.int 58), z0, (.int 3)]) (rest := []) (lenOf pd_13 rfl) rfl rfl (own_wr rfl rfl) (hb hby d153)
  obtain ⟨rfl, N9q, e9⟩ := hQ9
  have N9 := Fr.app N8 N9q
  refine ⟨T9, _, some (.int (-1)), X9, (fun h => by cases h <;> rfl), ?_, fun fs hr => ?_⟩
  · show Q_r105_indexOf Z o0 i_1 o_3 i_5 i_6 i_7 k_o_3 h0 n0 _ T9.heap _
    rw [e9]
    exact ⟨rfl, N9, rfl⟩
  · refine t_aloadN 1 X0.here hx (hb hby d123) rfl rfl rfl ?_
    refine st2 _ ?_
    refine t_ifNo 7 X2.here hx (hb hby d133) (by decide) rfl ?_
    refine t_aloadN 8 X2.here hx (hb hby d134) rfl rfl rfl ?_
    refine st4 _ ?_
    refine t_iloadN 12 X4.here hx (hb hby d136) rfl rfl ?_
    refine t_iloadN 13 X4.here hx (hb hby d137) rfl rfl ?_
    refine t_aloadN 14 X4.here hx (hb hby d138) rfl rfl rfl ?_
    refine st8 _ ?_
    refine st9 _ ?_
    refine t_goto (pc := 20) 36 X9.here hx (hb hby d212) (by decide) (by decide) ?_
    exact retI X9 hx hret (hb hby d213) hr
def Q_r104_indexOf (Z : State) (o0 : Addr) (i_1 : Int32) (o_2 : Addr) (i_3 i_4 i_5 : Int32) (k_o_2 : ClassId) (h0 : Heap) (n0 : Nat) (v : Option Value) (h : Heap) (L : List Loc) : Prop := v = some (.int (-1)) ∧ Fr n0 L ∧ h = h0
theorem ef_r104_indexOf (o0 : Addr) (m : MethodId) : entryFrame m #[(.ref o0), (.int 58)] 2 = mkF m 0 #[.val (.ref o0), .val (.int 58)] [] := by first | (simp [entryFrame, mkF, argsToLocals, Value.category]; done) | rfl
set_option maxRecDepth 65536 in
set_option maxHeartbeats 40000000 in
theorem r104_indexOf (l : Launch) (Z : State) (a0 : Array Value) (hw : HW Z a0) (ws : List Jvm.Cond) (o0 : Addr) (i_1 : Int32) (o_2 : Addr) (i_3 i_4 i_5 : Int32) (k_o_2 : ClassId) (h0 : Heap) (n0 : Nat) (Z0 : n0 ≤ h0.size) (E_o0 : Ex0 Z h0 o0) (S_COMPACT_STRINGS : SCS Z i_1) (F_o0_coder : Fd0 Z h0 o0 z0) (F_o0_value : Fd1 Z h0 o0 (.ref o_2)) (V_o_2 : Arv Z h0 o_2 k_o_2 .byte 3 [(.int i_3), (.int i_4), (.int i_5)] z0) (O0 : Old Z n0 h0) (hp0 : ¬ (i_1 = (0 : Int32))) (hp1 : ¬ (i_3 = (58 : Int32))) (hp2 : ¬ (i_4 = (58 : Int32))) (hp3 : ¬ (i_5 = (58 : Int32))) :
    MF l Z y19_indexOf b11_ 2 (some .int) ws ⟨3, 0, 0, 46⟩ #[(.ref o0), (.int 58)] h0 (Q_r104_indexOf Z o0 i_1 o_2 i_3 i_4 i_5 k_o_2 h0 n0) := by
  refine own_body (plainFor_of_name pn_String564) (ef_r104_indexOf o0) (by decide) (by decide) ?_
  intro p e s m below meth c s₁ hx hby hml hown hnm hret hZ hh e0 X0
  have N0 := Fr.nil n0
  obtain ⟨_, T6, L6, X6, hQ6, st6⟩ := own_virtual X0 hx hZ hown (w43 hw) (w44 hw) (notFace_of_selects (args := #[]) (mvT hZ (w46 hw))) (w46 hw) (w45 hw) (w7 hw) (w47 hw) (by decide) (r105_indexOf l Z a0 hw [] o0 i_1 o_2 i_3 i_4 i_5 k_o_2 h0 n0 Z0 E_o0 S_COMPACT_STRINGS F_o0_coder O0 hp0 F_o0_value V_o_2 hp1 hp2 hp3) e0 E_o0 (W := 0) (by decide) (g := (mkF m 3 #[vr o0, vi 58] [z0, (.int 58), (.ref o0)])) rfl (by rw [hml]; rfl) (argsL := [(.int 58), z0]) (rest := []) (lenOf pd_12 rfl) rfl rfl (own_wr rfl rfl) (hb hby d122)
  obtain ⟨rfl, N6q, e6⟩ := hQ6
  have N6 := Fr.app N0 N6q
  refine ⟨T6, _, some (.int (-1)), X6, (fun h => by cases h <;> rfl), ?_, fun fs hr => ?_⟩
  · show Q_r104_indexOf Z o0 i_1 o_2 i_3 i_4 i_5 k_o_2 h0 n0 _ T6.heap _
    rw [e6]
    exact ⟨rfl, N6, rfl⟩
  · refine t_aloadN 1 X0.here hx (hb hby d119) rfl rfl rfl ?_
    refine t_iloadN 2 X0.here hx (hb hby d120) rfl rfl ?_
    refine t_iconst 3 (r := 0) X0.here hx (hb hby d121) (by decide) rfl ?_
    refine st6 _ ?_
    exact retI X6 hx hret (hb hby d214) hr
def WS_r103__init_ (Z : State) (o0 : Addr) : List (Addr × Nat) := [(o0, (sl2 Z)), (o0, (sl3 Z))]
def Q_r103__init_ (Z : State) (o0 o1 o2 o_6 : Addr) (i_7 i_8 i_9 : Int32) (k_o_6 : ClassId) (i_14 : Int32) (o_18 : Addr) (i_19 : Int32) (k_o_18 : ClassId) (h0 : Heap) (n0 : Nat) (v : Option Value) (h : Heap) (L : List Loc) : Prop := v = none ∧ Fr n0 L ∧ KL h0 h (WS_r103__init_ Z o0) ∧ Fd2 Z h o0 (.ref o1) ∧ Fd3 Z h o0 (.ref o2)
theorem ef_r103__init_ (o0 o1 o2 : Addr) (m : MethodId) : entryFrame m #[(.ref o0), (.ref o1), (.ref o2)] 3 = mkF m 0 #[.val (.ref o0), .val (.ref o1), .val (.ref o2)] [] := by first | (simp [entryFrame, mkF, argsToLocals, Value.category]; done) | rfl
set_option maxRecDepth 65536 in
set_option maxHeartbeats 40000000 in
theorem r103__init_ (l : Launch) (Z : State) (a0 : Array Value) (hw : HW Z a0) (ws : List Jvm.Cond) (o0 o1 o2 o_6 : Addr) (i_7 i_8 i_9 : Int32) (k_o_6 : ClassId) (i_14 : Int32) (o_18 : Addr) (i_19 : Int32) (k_o_18 : ClassId) (h0 : Heap) (n0 : Nat) (Z0 : n0 ≤ h0.size) (E_o1 : Ex0 Z h0 o1) (F_o1_value : Fd1 Z h0 o1 (.ref o_6)) (V_o_6 : Arv Z h0 o_6 k_o_6 .byte 3 [(.int i_7), (.int i_8), (.int i_9)] z0) (S_COMPACT_STRINGS : SCS Z i_14) (F_o1_coder : Fd0 Z h0 o1 z0) (O0 : Old Z n0 h0) (hp0 : ¬ (i_14 = (0 : Int32))) (hp1 : ¬ (i_7 = (58 : Int32))) (hp2 : ¬ (i_8 = (58 : Int32))) (hp3 : ¬ (i_9 = (58 : Int32))) (E_o2 : Ex0 Z h0 o2) (F_o2_value : Fd1 Z h0 o2 (.ref o_18)) (V_o_18 : Arv Z h0 o_18 k_o_18 .byte 1 [(.int i_19)] z0) (F_o0_system : Fd2 Z h0 o0 .null) (E_o0 : Ex1 Z h0 o0) (g_o0 : n0 ≤ o0) (F_o0_id : Fd3 Z h0 o0 .null) :
    MFS l Z y30__init_ b28_ 3 none ws ⟨4, 4, 40, 59⟩ #[(.ref o0), (.ref o1), (.ref o2)] h0 (Q_r103__init_ Z o0 o1 o2 o_6 i_7 i_8 i_9 k_o_6 i_14 o_18 i_19 k_o_18 h0 n0) := by
  refine own_bodyS (k := 4) (n := 40) (plainFor_of_name pn_Identifier44) (ef_r103__init_ o0 o1 o2) (by decide) (by decide) ?_
  intro p e s m below meth c s₁ hx hby hml hown hnm hret hZ e0 hS0 hk0 X0
  have N0 := Fr.nil n0
  obtain ⟨_, T1, L1, X1, hQ1, st1⟩ := own_init X0 hx hZ rfl hown (w126 hw) (w127 hw) (w129 hw) (w130 hw) (by decide) (r32__init_ l Z a0 hw [] o0 h0 n0 Z0) e0 (W := 0) (by decide) (g := (mkF m 1 #[vr o0, vr o1, vr o2] [(.ref o0)])) rfl (by rw [hml]; rfl) (argsL := []) (rest := []) (lenOf pd_22 rfl) rfl rfl (own_wr rfl rfl) (hb hby d324)
  obtain ⟨rfl, N1q, e1⟩ := hQ1
  have N1 := Fr.app N0 N1q
  obtain ⟨c2, T2, h2, k2, X2, e2, E2, hS2, hk2, hZ2, hown2, st2⟩ := ldcS X1 hx hZ hown (w132 hw) (own_wS hw) e1 hS0 hk0 (g := (mkF m 5 #[vr o0, vr o1, vr o2] [(.ref o1)])) rfl (hb hby d329) (n := 24) (by decide) (by decide) (by decide) (by decide)
  have K2 := KL.ofE E2
  obtain ⟨_, T3, L3, X3, hQ3, st3⟩ := own_static X2 hx hZ2 hown2 (w135 hw) (w136 hw) (w137 hw) (w138 hw) (by decide) (r33_requireNonNull l Z a0 hw [] o1 c2 h2 n0 (Nat.le_trans Z0 K2.1)) e2 (W := 0) (by decide) (g := (mkF m 7 #[vr o0, vr o1, vr o2] [(.ref c2), (.ref o1)])) rfl (by rw [hml]; rfl) (argsL := [(.ref o1), (.ref c2)]) (rest := []) (lenOf pd_23 rfl) rfl rfl (own_wr rfl rfl) (hb hby d330)
  obtain ⟨rfl, N3q, e3⟩ := hQ3
  have N3 := Fr.app N1 N3q
  obtain ⟨c4, T4, h4, k4, X4, e4, E4, hS4, hk4, hZ4, hown4, st4⟩ := ldcS X3 hx hZ2 hown2 (w139 hw) (own_wS hw) e3 hS2 hk2 (g := (mkF m 12 #[vr o0, vr o1, vr o2] [(.ref o2)])) rfl (hb hby d337) (n := 8) (by decide) (by decide) (by decide) (by decide)
  have K4 := KL.ofE E4
  have sz_0_2 := (Nat.le_trans K2.1 K4.1)
  obtain ⟨_, T5, L5, X5, hQ5, st5⟩ := own_static X4 hx hZ4 hown4 (w135 hw) (w136 hw) (w137 hw) (w138 hw) (by decide) (r33_requireNonNull l Z a0 hw [] o2 c4 h4 n0 (Nat.le_trans Z0 sz_0_2)) e4 (W := 0) (by decide) (g := (mkF m 14 #[vr o0, vr o1, vr o2] [(.ref c4), (.ref o2)])) rfl (by rw [hml]; rfl) (argsL := [(.ref o2), (.ref c4)]) (rest := []) (lenOf pd_23 rfl) rfl rfl (own_wr rfl rfl) (hb hby d338)
  obtain ⟨rfl, N5q, e5⟩ := hQ5
  have N5 := Fr.app N3 N5q
  have f11 := (kFld K4 (kFld K2 F_o1_value nw0) nw0)
  have f12 := (kArv K4 (kArv K2 V_o_6 na0) na0)
  have f13 := (kExa K4 (kExa K2 E_o1))
  obtain ⟨_, T10, L10, X10, hQ10, st10⟩ := own_virtual X5 hx hZ4 hown4 (w140 hw) (w141 hw) (notFace_of_selects (args := #[]) (mvT hZ4 (w143 hw))) (w143 hw) (w142 hw) (w7 hw) (w144 hw) (by decide) (r41_isEmpty l Z a0 hw [] o1 o_6 i_7 i_8 i_9 k_o_6 h4 n0 (Nat.le_trans Z0 sz_0_2) f11 f12) e5 f13 (W := 0) (by decide) (g := (mkF m 19 #[vr o0, vr o1, vr o2] [(.ref o1)])) rfl (by rw [hml]; rfl) (argsL := []) (rest := []) (lenOf pd_8 rfl) rfl rfl (own_wr rfl rfl) (hb hby d341)
  obtain ⟨rfl, N10q, e10⟩ := hQ10
  have N10 := Fr.app N5 N10q
  have f16 := (kFld K4 (kFld K2 F_o1_coder nw0) nw0)
  have f17 := (kOld K4 (kOld K2 O0 na0) na0)
  obtain ⟨_, T15, L15, X15, hQ15, st15⟩ := own_virtual X10 hx hZ4 hown4 (w38 hw) (w39 hw) (notFace_of_selects (args := #[]) (mvT hZ4 (w41 hw))) (w41 hw) (w40 hw) (w7 hw) (w42 hw) (by decide) (r104_indexOf l Z a0 hw [] o1 i_14 o_6 i_7 i_8 i_9 k_o_6 h4 n0 (Nat.le_trans Z0 sz_0_2) f13 S_COMPACT_STRINGS f16 f11 f12 f17 hp0 hp1 hp2 hp3) e10 f13 (W := 0) (by decide) (g := (mkF m 28 #[vr o0, vr o1, vr o2] [(.int 58), (.ref o1)])) rfl (by rw [hml]; rfl) (argsL := [(.int 58)]) (rest := []) (lenOf pd_14 rfl) rfl rfl (own_wr rfl rfl) (hb hby d351)
  obtain ⟨rfl, N15q, e15⟩ := hQ15
  have N15 := Fr.app N10 N15q
  have f21 := (kFld K4 (kFld K2 F_o2_value nw0) nw0)
  have f22 := (kArv K4 (kArv K2 V_o_18 na0) na0)
  have f23 := (kExa K4 (kExa K2 E_o2))
  obtain ⟨_, T20, L20, X20, hQ20, st20⟩ := own_virtual X15 hx hZ4 hown4 (w140 hw) (w141 hw) (notFace_of_selects (args := #[]) (mvT hZ4 (w143 hw))) (w143 hw) (w142 hw) (w7 hw) (w144 hw) (by decide) (r34_isEmpty l Z a0 hw [] o2 o_18 i_19 k_o_18 h4 n0 (Nat.le_trans Z0 sz_0_2) f21 f22) e15 f23 (W := 0) (by decide) (g := (mkF m 49 #[vr o0, vr o1, vr o2] [(.ref o2)])) rfl (by rw [hml]; rfl) (argsL := []) (rest := []) (lenOf pd_8 rfl) rfl rfl (own_wr rfl rfl) (hb hby d356)
  obtain ⟨rfl, N20q, e20⟩ := hQ20
  have N20 := Fr.app N15 N20q
  have f24 := (kFld K4 (kFld K2 F_o0_system nw0) nw0)
  have f25 := (kExa K4 (kExa K2 E_o0))
  obtain ⟨T26, h26, X26, e26, W26, st26⟩ := putF X20 hx hZ4 hown4 (host := "") (Or.inl (w145 hw)) Via.refl e20 f24 f25 (Or.inr ⟨(w146 hw), rfl, hnm⟩) (w81 hw) (ty := (.object "java/lang/String")) (by decide) rfl rfl (g := (mkF m 67 #[vr o0, vr o1, vr o2] [(.ref o1), (.ref o0)])) rfl rfl (hb hby d360)
  have K26 := KL.ofW W26
  have Fw26 : Fd2 Z h26 o0 (.ref o1) := Fld.same W26 f24
  have N26 := Fr.snoc X26 N20 g_o0
  have f27 := (kFld K26 (kFld K4 (kFld K2 F_o0_id nw0) nw0) (nwS (Or.inr (sn_2 hw)) nw0))
  have f28 := (kExa K26 f25)
  obtain ⟨T29, h29, X29, e29, W29, st29⟩ := putF X26 hx hZ4 hown4 (host := "") (Or.inl (w147 hw)) Via.refl e26 f27 f28 (Or.inr ⟨(w148 hw), rfl, hnm⟩) (w81 hw) (ty := (.object "java/lang/String")) (by decide) rfl rfl (g := (mkF m 72 #[vr o0, vr o1, vr o2] [(.ref o2), (.ref o0)])) rfl rfl (hb hby d363)
  have K29 := KL.ofW W29
  have Fw29 : Fd3 Z h29 o0 (.ref o2) := Fld.same W29 f27
  have N29 := Fr.snoc X29 N26 g_o0
  -- what was kept, from the start on
  have C0 := (KL.refl h0 (WS_r103__init_ Z o0)).trans K2 na0
  have C1 := C0.trans K4 na0
  have C2 := C1.trans K26 (naO (own_mi 0 rfl) na0)
  have C3 := C2.trans K29 (naO (own_mi 1 rfl) na0)
  have f30 := (kFld K29 Fw26 (nwS (Or.inr (sn_3 hw)) nw0))
  have sz_2_4 := (Nat.le_trans K26.1 K29.1)
  refine ⟨T29, _, none, _, _, X29, hS4, (by rw [e29]; exact (Nat.le_trans hk4 sz_2_4)), (fun h => by cases h <;> rfl), ?_, fun fs hr => ?_⟩
  · show Q_r103__init_ Z o0 o1 o2 o_6 i_7 i_8 i_9 k_o_6 i_14 o_18 i_19 k_o_18 h0 n0 _ T29.heap _
    rw [e29]
    exact ⟨rfl, N29, C3, f30, Fw29⟩
  · refine t_aloadN 1 X0.here hx (hb hby d323) rfl rfl rfl ?_
    refine st1 _ ?_
    refine t_aloadN 5 X1.here hx (hb hby d328) rfl rfl rfl ?_
    refine st2 _ ?_
    refine st3 _ ?_
    refine t_pop 11 X3.here hx (hb hby d335) rfl rfl ?_
    refine t_aloadN 12 X3.here hx (hb hby d336) rfl rfl rfl ?_
    refine st4 _ ?_
    refine st5 _ ?_
    refine t_pop 18 X5.here hx (hb hby d339) rfl rfl ?_
    refine t_aloadN 19 X5.here hx (hb hby d340) rfl rfl rfl ?_
    refine st10 _ ?_
    refine t_ifNo 25 X10.here hx (hb hby d348) (by decide) rfl ?_
    refine t_aloadN 26 X10.here hx (hb hby d349) rfl rfl rfl ?_
    refine t_bipush 28 (r := 58) X10.here hx (hb hby d350) (by decide) rfl ?_
    refine st15 _ ?_
    refine t_ifYes (pc := 31) 48 X15.here hx (hb hby d354) (by decide) (by decide) (by decide) ?_
    refine t_aloadN 49 X15.here hx (hb hby d355) rfl rfl rfl ?_
    refine st20 _ ?_
    refine t_ifYes (pc := 52) 65 X20.here hx (hb hby d357) (by decide) (by decide) (by decide) ?_
    refine t_aloadN 66 X20.here hx (hb hby d358) rfl rfl rfl ?_
    refine t_aloadN 67 X20.here hx (hb hby d359) rfl rfl rfl ?_
    refine st26 _ ?_
    refine t_aloadN 71 X26.here hx (hb hby d361) rfl rfl rfl ?_
    refine t_aloadN 72 X26.here hx (hb hby d362) rfl rfl rfl ?_
    refine st29 _ ?_
    exact X29.returnOut hx hret (hb hby d364) hr
def Q_r86_parse (Z : State) (o0 : Addr) (i_1 : Int32) (o_2 : Addr) (i_3 i_4 i_5 i_6 i_7 : Int32) (k_o_2 : ClassId) (u_10 : Value) (h0 : Heap) (n0 : Nat) (v : Option Value) (h : Heap) (L : List Loc) : Prop := ∃ b9 : Addr, ∃ b1_13_11 : Addr, ∃ b1_13_10_19 : Addr, ∃ b2_6_7_13_10_19 : Addr, ∃ k2_6_7_13_10_19 : ClassId, ∃ b2_6_7_13_11 : Addr, ∃ k2_6_7_13_11 : ClassId, v = some (.ref b9) ∧ Fr n0 L ∧ KL h0 h [] ∧ h0.size ≤ b9 ∧ h0.size ≤ b1_13_11 ∧ h0.size ≤ b1_13_10_19 ∧ h0.size ≤ b2_6_7_13_10_19 ∧ h0.size ≤ b2_6_7_13_11 ∧ b9 ≠ b1_13_11 ∧ b9 ≠ b1_13_10_19 ∧ b9 ≠ b2_6_7_13_10_19 ∧ b9 ≠ b2_6_7_13_11 ∧ b1_13_11 ≠ b1_13_10_19 ∧ b1_13_11 ≠ b2_6_7_13_10_19 ∧ b1_13_11 ≠ b2_6_7_13_11 ∧ b1_13_10_19 ≠ b2_6_7_13_10_19 ∧ b1_13_10_19 ≠ b2_6_7_13_11 ∧ b2_6_7_13_10_19 ≠ b2_6_7_13_11 ∧ Ex1 Z h b9 ∧ Fd2 Z h b9 (.ref b1_13_11) ∧ Fd3 Z h b9 (.ref b1_13_10_19) ∧ Ex0 Z h b1_13_11 ∧ Fd0 Z h b1_13_11 z0 ∧ Fd1 Z h b1_13_11 (.ref b2_6_7_13_11) ∧ Ex0 Z h b1_13_10_19 ∧ Fd0 Z h b1_13_10_19 z0 ∧ Fd1 Z h b1_13_10_19 (.ref b2_6_7_13_10_19) ∧ Arv Z h b2_6_7_13_10_19 k2_6_7_13_10_19 .byte 1 [(.int i_7)] z0 ∧ Arv Z h b2_6_7_13_11 k2_6_7_13_11 .byte 3 [(.int i_3), (.int i_4), (.int i_5)] z0
theorem ef_r86_parse (o0 : Addr) (m : MethodId) : entryFrame m #[(.ref o0)] 2 = mkF m 0 #[.val (.ref o0), .unset] [] := by first | (simp [entryFrame, mkF, argsToLocals, Value.category]; done) | rfl
set_option maxRecDepth 65536 in
set_option maxHeartbeats 40000000 in
theorem r86_parse (l : Launch) (Z : State) (a0 : Array Value) (hw : HW Z a0) (ws : List Jvm.Cond) (o0 : Addr) (i_1 : Int32) (o_2 : Addr) (i_3 i_4 i_5 i_6 i_7 : Int32) (k_o_2 : ClassId) (u_10 : Value) (h0 : Heap) (n0 : Nat) (Z0 : n0 ≤ h0.size) (E_o0 : Ex0 Z h0 o0) (S_COMPACT_STRINGS : SCS Z i_1) (F_o0_coder : Fd0 Z h0 o0 z0) (F_o0_value : Fd1 Z h0 o0 (.ref o_2)) (V_o_2 : Arv Z h0 o_2 k_o_2 .byte 5 [(.int i_3), (.int i_4), (.int i_5), (.int i_6), (.int i_7)] z0) (O0 : Old Z n0 h0) (hp0 : ¬ (i_1 = (0 : Int32))) (hp1 : ¬ (i_3 = (58 : Int32))) (hp2 : ¬ (i_4 = (58 : Int32))) (hp3 : ¬ (i_5 = (58 : Int32))) (hp4 : i_6 = (58 : Int32)) (S_SIOOBE_FORMATTER : Sta Z Z.heap "jdk/internal/util/Preconditions" "SIOOBE_FORMATTER" "Ljava/util/function/BiFunction;" u_10) (hp5 : u_10.isRef = true) :
    MFS l Z y31_parse b10_ 2 (some (.object "com/example/keen_roster/keenroster/core/Identifier")) ws ⟨6, 9, 54, 96⟩ #[(.ref o0)] h0 (Q_r86_parse Z o0 i_1 o_2 i_3 i_4 i_5 i_6 i_7 k_o_2 u_10 h0 n0) := by
  refine own_bodyS (k := 9) (n := 54) (plainFor_of_name pn_Identifier44) (ef_r86_parse o0) (by decide) (by decide) ?_
  intro p e s m below meth c s₁ hx hby hml hown hnm hret hZ e0 hS0 hk0 X0
  have N0 := Fr.nil n0
  obtain ⟨_, T8, L8, X8, hQ8, st8⟩ := own_virtual X0 hx hZ hown (w38 hw) (w39 hw) (notFace_of_selects (args := #[]) (mvT hZ (w41 hw))) (w41 hw) (w40 hw) (w7 hw) (w42 hw) (by decide) (r87_indexOf l Z a0 hw [] o0 i_1 o_2 i_3 i_4 i_5 i_6 i_7 k_o_2 h0 n0 Z0 E_o0 S_COMPACT_STRINGS F_o0_coder F_o0_value V_o_2 O0 hp0 hp1 hp2 hp3 hp4) e0 E_o0 (W := 0) (by decide) (g := (mkF m 3 #[vr o0, .unset] [(.int 58), (.ref o0)])) rfl (by rw [hml]; rfl) (argsL := [(.int 58)]) (rest := []) (lenOf pd_14 rfl) rfl rfl (own_wr rfl rfl) (hb hby d118)
  obtain ⟨rfl, N8q, e8⟩ := hQ8
  have N8 := Fr.app N0 N8q
  obtain ⟨T9, h9, X9, e9, E9, A9, D9, -, st9⟩ := newO X8 hx hZ hown (w80 hw) (w81 hw) (w36 hw) e8 (g := (mkF m 25 #[vr o0, vi 3] [])) rfl (hb hby d218) (by decide) (by decide)
  obtain ⟨b9, g9⟩ : ∃ z, z = h0.size := ⟨_, rfl⟩
  rw [← g9] at A9 D9 st9
  have ge_b9 : h0.size ≤ b9 := Nat.le_of_eq g9.symm
  have K9 := KL.ofE E9
  have F_b9_system : Fd2 Z h9 b9 .null := D9 (Or.inr (w146 hw)) (ty := (.object "java/lang/String")) (by decide)
  have F_b9_id : Fd3 Z h9 b9 .null := D9 (Or.inr (w148 hw)) (ty := (.object "java/lang/String")) (by decide)
  have f12 := (kExa K9 E_o0)
  have f13 := (kFld K9 F_o0_value nw0)
  have f14 := (kArv K9 V_o_2 na0)
  have f15 := (kFld K9 F_o0_coder nw0)
  have f16 := (kOld K9 O0 na0)
  obtain ⟨_, T11, L11, X11, hQ11, st11⟩ := own_virtual X9 hx hZ hown (w82 hw) (w83 hw) (notFace_of_selects (args := #[]) (mvT hZ (w85 hw))) (w85 hw) (w84 hw) (w7 hw) (w86 hw) (by decide) (r91_substring l Z a0 hw [] o0 o_2 i_3 i_4 i_5 i_6 i_7 k_o_2 i_1 u_10 h9 n0 (Nat.le_trans Z0 K9.1) f12 f13 f14 S_COMPACT_STRINGS f15 f16 hp0 S_SIOOBE_FORMATTER hp5) e9 f12 (W := 2) (by decide) (g := (mkF m 32 #[vr o0, vi 3] [(.int 3), z0, (.ref o0), (.ref b9), (.ref b9)])) rfl (by rw [hml]; rfl) (argsL := [z0, (.int 3)]) (rest := [(.ref b9), (.ref b9)]) (lenOf pd_20 rfl) rfl rfl (own_wr rfl rfl) (hb hby d223)
  obtain ⟨b1_13_11, b2_6_7_13_11, k2_6_7_13_11, rfl, N11q, K11, Q11_0, Q11_1, Q11_2, Q11_3, Q11_4, Q11_5, Q11_6⟩ := hQ11
  have N11 := Fr.app N8 N11q
  have f20 := (kExa K11 f12)
  have f21 := (kFld K11 f13 nw0)
  have f22 := (kArv K11 f14 na0)
  have f23 := (kFld K11 f15 nw0)
  have f24 := (kOld K11 f16 na0)
  have sz_0_2 := (Nat.le_trans K9.1 K11.1)
  obtain ⟨_, T19, L19, X19, hQ19, st19⟩ := own_virtual X11 hx hZ hown (w117 hw) (w118 hw) (notFace_of_selects (args := #[]) (mvT hZ (w120 hw))) (w120 hw) (w119 hw) (w7 hw) (w121 hw) (by decide) (r97_substring l Z a0 hw [] o0 o_2 i_3 i_4 i_5 i_6 i_7 k_o_2 i_1 u_10 T11.heap n0 (Nat.le_trans Z0 sz_0_2) f20 f21 f22 S_COMPACT_STRINGS f23 f24 hp0 S_SIOOBE_FORMATTER hp5) rfl f20 (W := 3) (by decide) (g := (mkF m 39 #[vr o0, vi 3] [(.int 4), (.ref o0), (.ref b1_13_11), (.ref b9), (.ref b9)])) rfl (by rw [hml]; rfl) (argsL := [(.int 4)]) (rest := [(.ref b1_13_11), (.ref b9), (.ref b9)]) (lenOf pd_21 rfl) rfl rfl (own_wr rfl rfl) (hb hby d315)
  obtain ⟨b1_13_10_19, b2_6_7_13_10_19, k2_6_7_13_10_19, rfl, N19q, K19, Q19_0, Q19_1, Q19_2, Q19_3, Q19_4, Q19_5, Q19_6⟩ := hQ19
  have N19 := Fr.app N11 N19q
  have f28 := (kExa K19 Q11_3)
  have f29 := (kFld K19 Q11_5 nw0)
  have f30 := (kArv K19 Q11_6 na0)
  have f31 := (kFld K19 Q11_4 nw0)
  have f32 := (kOld K19 f24 na0)
  have f33 := (kFld K19 (kFld K11 F_b9_system nw0) nw0)
  have f34 := (kExa K19 (kExa K11 A9))
  have f35 := (kFld K19 (kFld K11 F_b9_id nw0) nw0)
  have sz_0_3 := (Nat.le_trans sz_0_2 K19.1)
  obtain ⟨_, T27, L27, X27, hS27, hk27, hZ27, hown27, hQ27, st27⟩ := own_Sinit X19 hx hZ rfl hown (w123 hw) (w124 hw) (w36 hw) (w125 hw) (by decide) (r103__init_ l Z a0 hw [] b9 b1_13_11 b1_13_10_19 b2_6_7_13_11 i_3 i_4 i_5 k2_6_7_13_11 i_1 b2_6_7_13_10_19 i_7 k2_6_7_13_10_19 T19.heap n0 (Nat.le_trans Z0 sz_0_3) f28 f29 f30 S_COMPACT_STRINGS f31 f32 hp0 hp1 hp2 hp3 Q19_3 Q19_5 Q19_6 f33 f34 (Nat.le_trans Z0 (Nat.le_trans (Nat.le_refl _) ge_b9)) f35) rfl (W := 1) (by decide) (g := (mkF m 42 #[vr o0, vi 3] [(.ref b1_13_10_19), (.ref b1_13_11), (.ref b9), (.ref b9)])) rfl (by rw [hml]; rfl) (argsL := [(.ref b1_13_11), (.ref b1_13_10_19)]) (rest := [(.ref b9)]) (lenOf pd_24 rfl) rfl rfl (own_wr rfl rfl) (hb hby d322) hS0 (Nat.le_trans hk0 sz_0_3)
  obtain ⟨rfl, N27q, K27, Q27_0, Q27_1⟩ := hQ27
  have N27 := Fr.app N19 N27q
  -- what was kept, from the start on
  have C0 := (KL.refl h0 []).trans K9 na0
  have C1 := C0.trans K11 na0
  have C2 := C1.trans K19 na0
  have C3 := C2.trans K27 (naO (Or.inr (Nat.le_trans (Nat.le_refl _) ge_b9)) (naO (Or.inr (Nat.le_trans (Nat.le_refl _) ge_b9)) na0))
  have lt_b9 : b9 < h9.size := Exa.lt A9
  have lt_b1_13_11 : b1_13_11 < T11.heap.size := Exa.lt Q11_3
  have lt_b2_6_7_13_11 : b2_6_7_13_11 < T11.heap.size := Arv.lt Q11_6
  have f36 := (kExa K27 f34)
  have f37 := (kExa K27 f28)
  have f38 := (kFld K27 f31 (nwS (Or.inl (Ne.symm (lt_ne lt_b9 Q11_0))) (nwS (Or.inl (Ne.symm (lt_ne lt_b9 Q11_0))) nw0)))
  have f39 := (kFld K27 f29 (nwS (Or.inl (Ne.symm (lt_ne lt_b9 Q11_0))) (nwS (Or.inl (Ne.symm (lt_ne lt_b9 Q11_0))) nw0)))
  have f40 := (kExa K27 Q19_3)
  have f41 := (kFld K27 Q19_4 (nwS (Or.inl (Ne.symm (lt_ne (Nat.lt_of_lt_of_le lt_b9 K11.1) Q19_0))) (nwS (Or.inl (Ne.symm (lt_ne (Nat.lt_of_lt_of_le lt_b9 K11.1) Q19_0))) nw0)))
  have f42 := (kFld K27 Q19_5 (nwS (Or.inl (Ne.symm (lt_ne (Nat.lt_of_lt_of_le lt_b9 K11.1) Q19_0))) (nwS (Or.inl (Ne.symm (lt_ne (Nat.lt_of_lt_of_le lt_b9 K11.1) Q19_0))) nw0)))
  have f43 := (kArv K27 Q19_6 (naN (lt_ne (Nat.lt_of_lt_of_le lt_b9 K11.1) Q19_1) (naN (lt_ne (Nat.lt_of_lt_of_le lt_b9 K11.1) Q19_1) na0)))
  have f44 := (kArv K27 f30 (naN (lt_ne lt_b9 Q11_1) (naN (lt_ne lt_b9 Q11_1) na0)))
  refine ⟨T27, _, some (.ref b9), _, _, X27, hS27, (by rw [show T27.heap = T27.heap from rfl]; exact hk27), (fun h => by cases h <;> rfl), ?_, fun fs hr => ?_⟩
  · show Q_r86_parse Z o0 i_1 o_2 i_3 i_4 i_5 i_6 i_7 k_o_2 u_10 h0 n0 _ T27.heap _
    exact ⟨b9, b1_13_11, b1_13_10_19, b2_6_7_13_10_19, k2_6_7_13_10_19, b2_6_7_13_11, k2_6_7_13_11, rfl, N27, C3, (Nat.le_trans (Nat.le_refl _) ge_b9), (Nat.le_trans K9.1 Q11_0), (Nat.le_trans sz_0_2 Q19_0), (Nat.le_trans sz_0_2 Q19_1), (Nat.le_trans K9.1 Q11_1), (lt_ne lt_b9 Q11_0), (lt_ne (Nat.lt_of_lt_of_le lt_b9 K11.1) Q19_0), (lt_ne (Nat.lt_of_lt_of_le lt_b9 K11.1) Q19_1), (lt_ne lt_b9 Q11_1), (lt_ne lt_b1_13_11 Q19_0), (lt_ne lt_b1_13_11 Q19_1), Q11_2, Q19_2, (Ne.symm (lt_ne lt_b2_6_7_13_11 Q19_0)), (Ne.symm (lt_ne lt_b2_6_7_13_11 Q19_1)), f36, Q27_0, Q27_1, f37, f38, f39, f40, f41, f42, f43, f44⟩
  · refine t_aloadN 1 X0.here hx (hb hby d116) rfl rfl rfl ?_
    refine t_bipush 3 (r := 58) X0.here hx (hb hby d117) (by decide) rfl ?_
    refine st8 _ ?_
    refine t_istoreN (pc' := 7) (L' := #[vr o0, vi 3]) X8.here hx (hb hby d215) rfl rfl ?_
    refine t_iloadN 8 X8.here hx (hb hby d216) rfl rfl ?_
    refine t_ifYes (pc := 8) 25 X8.here hx (hb hby d217) (by decide) (by decide) (by decide) ?_
    refine st9 _ ?_
    refine t_dup 29 X9.here hx (hb hby d219) rfl rfl ?_
    refine t_aloadN 30 X9.here hx (hb hby d220) rfl rfl rfl ?_
    refine t_iconst 31 (r := 0) X9.here hx (hb hby d221) (by decide) rfl ?_
    refine t_iloadN 32 X9.here hx (hb hby d222) rfl rfl ?_
    refine st11 _ ?_
    refine t_aloadN 36 X11.here hx (hb hby d311) rfl rfl rfl ?_
    refine t_iloadN 37 X11.here hx (hb hby d312) rfl rfl ?_
    refine t_iconst 38 (r := 1) X11.here hx (hb hby d313) (by decide) rfl ?_
    refine t_iadd 39 (r := 4) X11.here hx (hb hby d314) (by decide : ((3 : Int32) + (1 : Int32)) = (4 : Int32)) rfl ?_
    refine st19 _ ?_
    refine st27 _ ?_
    jvm_step X27.here [X27.here.top, hx, (hb hby d365), X27.method', hret, Value.isRef, FieldType.isReference]
    first | (intro acts; rw [hr _ acts rfl rfl rfl]) | rw [hr _ _ rfl rfl rfl]
    exact Steps.refl _
def Q_r108_same (Z : State) (o0 o1 o_1 : Addr) (i_2 i_3 i_4 : Int32) (k_o_1 : ClassId) (i_5 : Int32) (u_7 : Value) (i_9 i_10 i_11 i_12 i_13 : Int32) (k_o1 : ClassId) (h0 : Heap) (n0 : Nat) (v : Option Value) (h : Heap) (L : List Loc) : Prop := v = some (.int 1) ∧ Fr n0 L ∧ h = h0
theorem ef_r108_same (o0 o1 : Addr) (m : MethodId) : entryFrame m #[(.ref o0), (.ref o1), (.int 0), (.int 3)] 4 = mkF m 0 #[.val (.ref o0), .val (.ref o1), .val (.int 0), .val (.int 3)] [] := by first | (simp [entryFrame, mkF, argsToLocals, Value.category]; done) | rfl
set_option maxRecDepth 65536 in
set_option maxHeartbeats 40000000 in
theorem r108_same (l : Launch) (Z : State) (a0 : Array Value) (hw : HW Z a0) (ws : List Jvm.Cond) (o0 o1 o_1 : Addr) (i_2 i_3 i_4 : Int32) (k_o_1 : ClassId) (i_5 : Int32) (u_7 : Value) (i_9 i_10 i_11 i_12 i_13 : Int32) (k_o1 : ClassId) (h0 : Heap) (n0 : Nat) (Z0 : n0 ≤ h0.size) (E_o0 : Ex0 Z h0 o0) (F_o0_value : Fd1 Z h0 o0 (.ref o_1)) (V_o_1 : Arv Z h0 o_1 k_o_1 .byte 3 [(.int i_2), (.int i_3), (.int i_4)] z0) (S_COMPACT_STRINGS : SCS Z i_5) (F_o0_coder : Fd0 Z h0 o0 z0) (O0 : Old Z n0 h0) (hp0 : ¬ (i_5 = (0 : Int32))) (S_SIOOBE_FORMATTER : Sta Z Z.heap "jdk/internal/util/Preconditions" "SIOOBE_FORMATTER" "Ljava/util/function/BiFunction;" u_7) (hp1 : u_7.isRef = true) (V_o1 : Arv Z h0 o1 k_o1 .char 5 [(.int i_9), (.int i_10), (.int i_11), (.int i_12), (.int i_13)] z0) (hp2 : (i_2 &&& (255 : Int32)) = i_9) (hp3 : (i_3 &&& (255 : Int32)) = i_10) (hp4 : (i_4 &&& (255 : Int32)) = i_11) :
    MF l Z y35_same b33_ 4 (some .boolean) ws ⟨4, 0, 0, 53⟩ #[(.ref o0), (.ref o1), z0, (.int 3)] h0 (Q_r108_same Z o0 o1 o_1 i_2 i_3 i_4 k_o_1 i_5 u_7 i_9 i_10 i_11 i_12 i_13 k_o1 h0 n0) := by
  refine own_body (plainFor_of_name pn_IdentifierParsePinLaw141) (ef_r108_same o0 o1) (by decide) (by decide) ?_
  intro p e s m below meth c s₁ hx hby hml hown hnm hret hZ hh e0 X0
  have N0 := Fr.nil n0
  obtain ⟨_, T6, L6, X6, hQ6, st6⟩ := own_virtual X0 hx hZ hown (w157 hw) (w54 hw) (notFace_of_selects (args := #[]) (mvT hZ (w56 hw))) (w56 hw) (w55 hw) (w7 hw) (w57 hw) (by decide) (r48_length l Z a0 hw [] o0 o_1 i_2 i_3 i_4 k_o_1 i_5 h0 n0 Z0 F_o0_value V_o_1 E_o0 S_COMPACT_STRINGS F_o0_coder O0 hp0) e0 E_o0 (W := 0) (by decide) (g := (mkF m 1 #[vr o0, vr o1, vi 0, vi 3] [(.ref o0)])) rfl (by rw [hml]; rfl) (argsL := []) (rest := []) (lenOf pd_10 rfl) rfl rfl (own_wr rfl rfl) (hb hby d370)
  obtain ⟨rfl, N6q, e6⟩ := hQ6
  have N6 := Fr.app N0 N6q
  obtain ⟨_, T8, L8, X8, hQ8, st8⟩ := own_virtual X6 hx hZ hown (w158 hw) (w159 hw) (notFace_of_selects (args := #[]) (mvT hZ (w161 hw))) (w161 hw) (w160 hw) (w7 hw) (w162 hw) (by decide) (r49_charAt l Z a0 hw [] o0 i_5 o_1 i_2 i_3 i_4 k_o_1 u_7 h0 n0 Z0 E_o0 S_COMPACT_STRINGS F_o0_coder O0 hp0 F_o0_value V_o_1 S_SIOOBE_FORMATTER hp1) e6 E_o0 (W := 0) (by decide) (g := (mkF m 17 #[vr o0, vr o1, vi 0, vi 3] [z0, (.ref o0)])) rfl (by rw [hml]; rfl) (argsL := [z0]) (rest := []) (lenOf pd_2 rfl) rfl rfl (own_wr rfl rfl) (hb hby d378)
  obtain ⟨rfl, N8q, e8⟩ := hQ8
  have N8 := Fr.app N6 N8q
  obtain ⟨_, T14, L14, X14, hQ14, st14⟩ := own_virtual X8 hx hZ hown (w158 hw) (w159 hw) (notFace_of_selects (args := #[]) (mvT hZ (w161 hw))) (w161 hw) (w160 hw) (w7 hw) (w162 hw) (by decide) (r51_charAt l Z a0 hw [] o0 i_5 o_1 i_2 i_3 i_4 k_o_1 u_7 h0 n0 Z0 E_o0 S_COMPACT_STRINGS F_o0_coder O0 hp0 F_o0_value V_o_1 S_SIOOBE_FORMATTER hp1) e8 E_o0 (W := 0) (by decide) (g := (mkF m 35 #[vr o0, vr o1, vi 0, vi 3] [(.int 1), (.ref o0)])) rfl (by rw [hml]; rfl) (argsL := [(.int 1)]) (rest := []) (lenOf pd_2 rfl) rfl rfl (own_wr rfl rfl) (hb hby d418)
  obtain ⟨rfl, N14q, e14⟩ := hQ14
  have N14 := Fr.app N8 N14q
  obtain ⟨_, T15, L15, X15, hQ15, st15⟩ := own_virtual X14 hx hZ hown (w158 hw) (w159 hw) (notFace_of_selects (args := #[]) (mvT hZ (w161 hw))) (w161 hw) (w160 hw) (w7 hw) (w162 hw) (by decide) (r53_charAt l Z a0 hw [] o0 i_5 o_1 i_2 i_3 i_4 k_o_1 u_7 h0 n0 Z0 E_o0 S_COMPACT_STRINGS F_o0_coder O0 hp0 F_o0_value V_o_1 S_SIOOBE_FORMATTER hp1) e14 E_o0 (W := 0) (by decide) (g := (mkF m 55 #[vr o0, vr o1, vi 0, vi 3] [(.int 2), (.ref o0)])) rfl (by rw [hml]; rfl) (argsL := [(.int 2)]) (rest := []) (lenOf pd_2 rfl) rfl rfl (own_wr rfl rfl) (hb hby d427)
  obtain ⟨rfl, N15q, e15⟩ := hQ15
  have N15 := Fr.app N14 N15q
  refine ⟨T15, _, some (.int 1), X15, (fun h => by cases h <;> rfl), ?_, fun fs hr => ?_⟩
  · show Q_r108_same Z o0 o1 o_1 i_2 i_3 i_4 k_o_1 i_5 u_7 i_9 i_10 i_11 i_12 i_13 k_o1 h0 n0 _ T15.heap _
    rw [e15]
    exact ⟨rfl, N15, rfl⟩
  · refine t_aloadN 1 X0.here hx (hb hby d369) rfl rfl rfl ?_
    refine st6 _ ?_
    refine t_iloadN 5 X6.here hx (hb hby d371) rfl rfl ?_
    refine t_icmpYes (pc := 5) 10 X6.here hx (hb hby d372) (by decide) (by decide) (by decide) ?_
    refine t_iloadN 11 X6.here hx (hb hby d373) rfl rfl ?_
    refine t_iconst 12 (r := 1) X6.here hx (hb hby d374) (by decide) rfl ?_
    refine t_icmpNo 15 X6.here hx (hb hby d375) (by decide) rfl ?_
    refine t_aloadN 16 X6.here hx (hb hby d376) rfl rfl rfl ?_
    refine t_iconst 17 (r := 0) X6.here hx (hb hby d377) (by decide) rfl ?_
    refine st8 _ ?_
    refine t_aloadN 21 X8.here hx (hb hby d398) rfl rfl rfl ?_
    refine t_iloadN 22 X8.here hx (hb hby d399) rfl rfl ?_
    refine own_aldC (pc' := 23) X8 hx hZ e8 V_o1 (j := 0) (v := (.int i_9)) (by decide) rfl (hb hby d400) rfl ?_
    refine t_icmpYes (pc := 23) 28 X8.here hx (hb hby d401) (teq hp2).1 (by decide) (by decide) ?_
    refine t_iloadN 29 X8.here hx (hb hby d402) rfl rfl ?_
    refine t_iconst 30 (r := 2) X8.here hx (hb hby d403) (by decide) rfl ?_
    refine t_icmpNo 33 X8.here hx (hb hby d404) (by decide) rfl ?_
    refine t_aloadN 34 X8.here hx (hb hby d416) rfl rfl rfl ?_
    refine t_iconst 35 (r := 1) X8.here hx (hb hby d417) (by decide) rfl ?_
    refine st14 _ ?_
    refine t_aloadN 39 X14.here hx (hb hby d419) rfl rfl rfl ?_
    refine t_iloadN 40 X14.here hx (hb hby d420) rfl rfl ?_
    refine t_iconst 41 (r := 1) X14.here hx (hb hby d421) (by decide) rfl ?_
    refine t_iadd 42 (r := 1) X14.here hx (hb hby d422) (by decide : ((0 : Int32) + (1 : Int32)) = (1 : Int32)) rfl ?_
    refine own_aldC (pc' := 43) X14 hx hZ e14 V_o1 (j := 1) (v := (.int i_10)) (by decide) rfl (hb hby d423) rfl ?_
    refine t_icmpYes (pc := 43) 48 X14.here hx (hb hby d424) (teq hp3).1 (by decide) (by decide) ?_
    refine t_iloadN 49 X14.here hx (hb hby d405) rfl rfl ?_
    refine t_iconst 50 (r := 3) X14.here hx (hb hby d406) (by decide) rfl ?_
    refine t_icmpNo 53 X14.here hx (hb hby d407) (by decide) rfl ?_
    refine t_aloadN 54 X14.here hx (hb hby d425) rfl rfl rfl ?_
    refine t_iconst 55 (r := 2) X14.here hx (hb hby d426) (by decide) rfl ?_
    refine st15 _ ?_
    refine t_aloadN 59 X15.here hx (hb hby d428) rfl rfl rfl ?_
    refine t_iloadN 60 X15.here hx (hb hby d429) rfl rfl ?_
    refine t_iconst 61 (r := 2) X15.here hx (hb hby d430) (by decide) rfl ?_
    refine t_iadd 62 (r := 2) X15.here hx (hb hby d431) (by decide : ((0 : Int32) + (2 : Int32)) = (2 : Int32)) rfl ?_
    refine own_aldC (pc' := 63) X15 hx hZ e15 V_o1 (j := 2) (v := (.int i_11)) (by decide) rfl (hb hby d432) rfl ?_
    refine t_icmpYes (pc := 63) 68 X15.here hx (hb hby d433) (teq hp4).1 (by decide) (by decide) ?_
    refine t_iloadN 69 X15.here hx (hb hby d408) rfl rfl ?_
    refine t_iconst 70 (r := 4) X15.here hx (hb hby d409) (by decide) rfl ?_
    refine t_icmpYes (pc := 70) 88 X15.here hx (hb hby d410) (by decide) (by decide) (by decide) ?_
    refine t_iconst 89 (r := 1) X15.here hx (hb hby d411) (by decide) rfl ?_
    exact retN X15 hx (t := .boolean) hret (by simp) (hb hby d412) hr
def Q_r109_same (Z : State) (o0 o1 o_1 : Addr) (i_2 : Int32) (k_o_1 : ClassId) (i_3 : Int32) (u_5 : Value) (i_7 i_8 i_9 i_10 i_11 : Int32) (k_o1 : ClassId) (h0 : Heap) (n0 : Nat) (v : Option Value) (h : Heap) (L : List Loc) : Prop := v = some (.int 1) ∧ Fr n0 L ∧ h = h0
theorem ef_r109_same (o0 o1 : Addr) (m : MethodId) : entryFrame m #[(.ref o0), (.ref o1), (.int 4), (.int 1)] 4 = mkF m 0 #[.val (.ref o0), .val (.ref o1), .val (.int 4), .val (.int 1)] [] := by first | (simp [entryFrame, mkF, argsToLocals, Value.category]; done) | rfl
set_option maxRecDepth 65536 in
set_option maxHeartbeats 40000000 in
theorem r109_same (l : Launch) (Z : State) (a0 : Array Value) (hw : HW Z a0) (ws : List Jvm.Cond) (o0 o1 o_1 : Addr) (i_2 : Int32) (k_o_1 : ClassId) (i_3 : Int32) (u_5 : Value) (i_7 i_8 i_9 i_10 i_11 : Int32) (k_o1 : ClassId) (h0 : Heap) (n0 : Nat) (Z0 : n0 ≤ h0.size) (E_o0 : Ex0 Z h0 o0) (F_o0_value : Fd1 Z h0 o0 (.ref o_1)) (V_o_1 : Arv Z h0 o_1 k_o_1 .byte 1 [(.int i_2)] z0) (S_COMPACT_STRINGS : SCS Z i_3) (F_o0_coder : Fd0 Z h0 o0 z0) (O0 : Old Z n0 h0) (hp0 : ¬ (i_3 = (0 : Int32))) (S_SIOOBE_FORMATTER : Sta Z Z.heap "jdk/internal/util/Preconditions" "SIOOBE_FORMATTER" "Ljava/util/function/BiFunction;" u_5) (hp1 : u_5.isRef = true) (V_o1 : Arv Z h0 o1 k_o1 .char 5 [(.int i_7), (.int i_8), (.int i_9), (.int i_10), (.int i_11)] z0) (hp2 : (i_2 &&& (255 : Int32)) = i_11) :
    MF l Z y35_same b33_ 4 (some .boolean) ws ⟨4, 0, 0, 53⟩ #[(.ref o0), (.ref o1), (.int 4), (.int 1)] h0 (Q_r109_same Z o0 o1 o_1 i_2 k_o_1 i_3 u_5 i_7 i_8 i_9 i_10 i_11 k_o1 h0 n0) := by
  refine own_body (plainFor_of_name pn_IdentifierParsePinLaw141) (ef_r109_same o0 o1) (by decide) (by decide) ?_
  intro p e s m below meth c s₁ hx hby hml hown hnm hret hZ hh e0 X0
  have N0 := Fr.nil n0
  obtain ⟨_, T4, L4, X4, hQ4, st4⟩ := own_virtual X0 hx hZ hown (w157 hw) (w54 hw) (notFace_of_selects (args := #[]) (mvT hZ (w56 hw))) (w56 hw) (w55 hw) (w7 hw) (w57 hw) (by decide) (r37_length l Z a0 hw [] o0 o_1 i_2 k_o_1 i_3 h0 n0 Z0 F_o0_value V_o_1 E_o0 S_COMPACT_STRINGS F_o0_coder O0 hp0) e0 E_o0 (W := 0) (by decide) (g := (mkF m 1 #[vr o0, vr o1, vi 4, vi 1] [(.ref o0)])) rfl (by rw [hml]; rfl) (argsL := []) (rest := []) (lenOf pd_10 rfl) rfl rfl (own_wr rfl rfl) (hb hby d370)
  obtain ⟨rfl, N4q, e4⟩ := hQ4
  have N4 := Fr.app N0 N4q
  obtain ⟨_, T6, L6, X6, hQ6, st6⟩ := own_virtual X4 hx hZ hown (w158 hw) (w159 hw) (notFace_of_selects (args := #[]) (mvT hZ (w161 hw))) (w161 hw) (w160 hw) (w7 hw) (w162 hw) (by decide) (r44_charAt l Z a0 hw [] o0 i_3 o_1 i_2 k_o_1 u_5 h0 n0 Z0 E_o0 S_COMPACT_STRINGS F_o0_coder O0 hp0 F_o0_value V_o_1 S_SIOOBE_FORMATTER hp1) e4 E_o0 (W := 0) (by decide) (g := (mkF m 17 #[vr o0, vr o1, vi 4, vi 1] [z0, (.ref o0)])) rfl (by rw [hml]; rfl) (argsL := [z0]) (rest := []) (lenOf pd_2 rfl) rfl rfl (own_wr rfl rfl) (hb hby d378)
  obtain ⟨rfl, N6q, e6⟩ := hQ6
  have N6 := Fr.app N4 N6q
  refine ⟨T6, _, some (.int 1), X6, (fun h => by cases h <;> rfl), ?_, fun fs hr => ?_⟩
  · show Q_r109_same Z o0 o1 o_1 i_2 k_o_1 i_3 u_5 i_7 i_8 i_9 i_10 i_11 k_o1 h0 n0 _ T6.heap _
    rw [e6]
    exact ⟨rfl, N6, rfl⟩
  · refine t_aloadN 1 X0.here hx (hb hby d369) rfl rfl rfl ?_
    refine st4 _ ?_
    refine t_iloadN 5 X4.here hx (hb hby d371) rfl rfl ?_
    refine t_icmpYes (pc := 5) 10 X4.here hx (hb hby d372) (by decide) (by decide) (by decide) ?_
    refine t_iloadN 11 X4.here hx (hb hby d373) rfl rfl ?_
    refine t_iconst 12 (r := 1) X4.here hx (hb hby d374) (by decide) rfl ?_
    refine t_icmpNo 15 X4.here hx (hb hby d375) (by decide) rfl ?_
    refine t_aloadN 16 X4.here hx (hb hby d376) rfl rfl rfl ?_
    refine t_iconst 17 (r := 0) X4.here hx (hb hby d377) (by decide) rfl ?_
    refine st6 _ ?_
    refine t_aloadN 21 X6.here hx (hb hby d398) rfl rfl rfl ?_
    refine t_iloadN 22 X6.here hx (hb hby d399) rfl rfl ?_
    refine own_aldC (pc' := 23) X6 hx hZ e6 V_o1 (j := 4) (v := (.int i_11)) (by decide) rfl (hb hby d400) rfl ?_
    refine t_icmpYes (pc := 23) 28 X6.here hx (hb hby d401) (teq hp2).1 (by decide) (by decide) ?_
    refine t_iloadN 29 X6.here hx (hb hby d402) rfl rfl ?_
    refine t_iconst 30 (r := 2) X6.here hx (hb hby d403) (by decide) rfl ?_
    refine t_icmpYes (pc := 30) 48 X6.here hx (hb hby d404) (by decide) (by decide) (by decide) ?_
    refine t_iloadN 49 X6.here hx (hb hby d405) rfl rfl ?_
    refine t_iconst 50 (r := 3) X6.here hx (hb hby d406) (by decide) rfl ?_
    refine t_icmpYes (pc := 50) 68 X6.here hx (hb hby d407) (by decide) (by decide) (by decide) ?_
    refine t_iloadN 69 X6.here hx (hb hby d408) rfl rfl ?_
    refine t_iconst 70 (r := 4) X6.here hx (hb hby d409) (by decide) rfl ?_
    refine t_icmpYes (pc := 70) 88 X6.here hx (hb hby d410) (by decide) (by decide) (by decide) ?_
    refine t_iconst 89 (r := 1) X6.here hx (hb hby d411) (by decide) rfl ?_
    exact retN X6 hx (t := .boolean) hret (by simp) (hb hby d412) hr
theorem ef_law_3 (p0 p1 p2 p3 p4 : Int32) (m : MethodId) : entryFrame m #[(.int p0), (.int p1), (.int p2), (.int p3), (.int p4)] maxLocals = mkF m 0 #[.val (.int p0), .val (.int p1), .val (.int p2), .val (.int p3), .val (.int p4), .unset, .unset, .unset] [] := by first | (simp [entryFrame, mkF, argsToLocals, Value.category, maxLocals]; done) | rfl
set_option maxRecDepth 65536 in
set_option maxHeartbeats 40000000 in
theorem law_3 (l : Launch) (Z : State) (a0 : Array Value) (hw : HW Z a0) (ws : List Jvm.Cond) (p0 p1 p2 p3 p4 cs : Int32) (fm : Value) (h0 : Heap) (n0 : Nat) (Z0 : n0 ≤ h0.size) (hn0 : ¬ ((p0 &&& (255 : Int32)) = (58 : Int32))) (hn1 : ¬ ((own_pick p1) = (58 : Int32))) (hn2 : ¬ ((own_pick p2) = (58 : Int32))) (he3 : (own_pick p3) = (58 : Int32)) (hcs : ¬ (cs = (0 : Int32))) (hfm : fm.isRef = true) (S_COMPACT_STRINGS : SCS Z cs) (O0 : Old Z n0 h0) (S_SIOOBE_FORMATTER : Sta Z Z.heap "jdk/internal/util/Preconditions" "SIOOBE_FORMATTER" "Ljava/util/function/BiFunction;" fm) :
    MetFree l x (head1 (Jvm.Cond.code x code maxLocals ret :: ws) room_1) (fun a U => a = #[(.int p0), (.int p1), (.int p2), (.int p3), (.int p4)] ∧ Z.Warmed39 U.vm ∧ U.heap = h0) (fun _ _ _ _ _ => True) (fun _ U o U' => ∃ v L, o = .returned v ∧ Q_law n0 v L ∧ ReturnedEndW U o U' L 32 2176) := by
  refine own_bodyS (k := 12) (n := 68) (y := x) (Q := fun v _ L => Q_law n0 v L) (plainFor_of_name pn_IdentifierParsePinLaw141) (ef_law_3 p0 p1 p2 p3 p4) (by decide) (by decide) ?_
  intro p e s m below meth c s₁ hx hby hml hown hnm hret hZ e0 hS0 hk0 X0
  have N0 := Fr.nil n0
  obtain ⟨T1, h1, k1, X1, e1, E1, A1, st1⟩ := newP (aty := .char) X0 hx hZ (w0 hw) e0 (g := (mkF m 1 #[vi p0, vi p1, vi p2, vi p3, vi p4, .unset, .unset, .unset] [(.int 5)])) rfl (hb hby at_1) rfl (by decide) (cap := 5) (by decide) (by decide) (by decide) (by decide)
  obtain ⟨b1, g1⟩ : ∃ z, z = h0.size := ⟨_, rfl⟩
  rw [← g1] at A1 st1
  have ge_b1 : h0.size ≤ b1 := Nat.le_of_eq g1.symm
  have K1 := KL.ofE E1
  have V1 : Arv Z h1 b1 k1 .char 5 [z0, z0, z0, z0, z0] z0 := (Arv.new A1 (by decide)).pad (pad_rep [] z0 5)
  obtain ⟨T2, h2, X2, e2, W2, V2, st2⟩ := own_astC X1 hx hZ e1 V1 (j := 0) (by decide) 0 rfl (Nat.le_of_ble_eq_true rfl) (g := (mkF m 14 #[vi p0, vi p1, vi p2, vi p3, vi p4, vr b1, .unset, .unset] [(.int (p0 &&& (255 : Int32))), z0, (.ref b1)])) rfl rfl (hb hby at_14)
  rw [show (nar .char (p0 &&& (255 : Int32))) = (p0 &&& (255 : Int32)) from (i2c_mask _)] at V2
  have K2 := KL.ofW W2
  replace V2 : Arv Z h2 b1 k1 .char 5 [(.int (p0 &&& (255 : Int32))), z0, z0, z0, z0] z0 := V2
  have N2 := Fr.snoc X2 N0 (Nat.le_trans Z0 (Nat.le_trans (Nat.le_refl _) ge_b1))
  have sz_0_2 := (Nat.le_trans K1.1 K2.1)
  obtain ⟨_, T3, L3, X3, hQ3, st3⟩ := own_static X2 hx hZ hown (w1 hw) (w2 hw) (w3 hw) (w4 hw) (by decide) (r_pick l Z a0 hw [] p1 h2 n0 (Nat.le_trans Z0 sz_0_2)) e2 (W := 2) (by decide) (g := (mkF m 19 #[vi p0, vi p1, vi p2, vi p3, vi p4, vr b1, .unset, .unset] [(.int p1), (.int 1), (.ref b1)])) rfl (by rw [hml]; rfl) (argsL := [(.int p1)]) (rest := [(.int 1), (.ref b1)]) (lenOf pd_2 rfl) rfl rfl (own_wr rfl rfl) (hb hby at_19)
  obtain ⟨rfl, N3q, e3⟩ := hQ3
  have N3 := Fr.app N2 N3q
  obtain ⟨T4, h4, X4, e4, W4, V4, st4⟩ := own_astC X3 hx hZ e3 V2 (j := 1) (by decide) 1 rfl (Nat.le_of_ble_eq_true rfl) (g := (mkF m 22 #[vi p0, vi p1, vi p2, vi p3, vi p4, vr b1, .unset, .unset] [(.int (own_pick p1)), (.int 1), (.ref b1)])) rfl rfl (hb hby at_22)
  rw [show (nar .char (own_pick p1)) = (own_pick p1) from (own_c2c (own_picka p1) (own_pickb p1))] at V4
  have K4 := KL.ofW W4
  replace V4 : Arv Z h4 b1 k1 .char 5 [(.int (p0 &&& (255 : Int32))), (.int (own_pick p1)), z0, z0, z0] z0 := V4
  have N4 := Fr.snoc X4 N3 (Nat.le_trans Z0 (Nat.le_trans (Nat.le_refl _) ge_b1))
  have sz_0_3 := (Nat.le_trans sz_0_2 K4.1)
  obtain ⟨_, T5, L5, X5, hQ5, st5⟩ := own_static X4 hx hZ hown (w1 hw) (w2 hw) (w3 hw) (w4 hw) (by decide) (r_pick l Z a0 hw [] p2 h4 n0 (Nat.le_trans Z0 sz_0_3)) e4 (W := 2) (by decide) (g := (mkF m 27 #[vi p0, vi p1, vi p2, vi p3, vi p4, vr b1, .unset, .unset] [(.int p2), (.int 2), (.ref b1)])) rfl (by rw [hml]; rfl) (argsL := [(.int p2)]) (rest := [(.int 2), (.ref b1)]) (lenOf pd_2 rfl) rfl rfl (own_wr rfl rfl) (hb hby at_27)
  obtain ⟨rfl, N5q, e5⟩ := hQ5
  have N5 := Fr.app N4 N5q
  obtain ⟨T6, h6, X6, e6, W6, V6, st6⟩ := own_astC X5 hx hZ e5 V4 (j := 2) (by decide) 2 rfl (Nat.le_of_ble_eq_true rfl) (g := (mkF m 30 #[vi p0, vi p1, vi p2, vi p3, vi p4, vr b1, .unset, .unset] [(.int (own_pick p2)), (.int 2), (.ref b1)])) rfl rfl (hb hby at_30)
  rw [show (nar .char (own_pick p2)) = (own_pick p2) from (own_c2c (own_picka p2) (own_pickb p2))] at V6
  have K6 := KL.ofW W6
  replace V6 : Arv Z h6 b1 k1 .char 5 [(.int (p0 &&& (255 : Int32))), (.int (own_pick p1)), (.int (own_pick p2)), z0, z0] z0 := V6
  have N6 := Fr.snoc X6 N5 (Nat.le_trans Z0 (Nat.le_trans (Nat.le_refl _) ge_b1))
  have sz_0_4 := (Nat.le_trans sz_0_3 K6.1)
  obtain ⟨_, T7, L7, X7, hQ7, st7⟩ := own_static X6 hx hZ hown (w1 hw) (w2 hw) (w3 hw) (w4 hw) (by decide) (r_pick l Z a0 hw [] p3 h6 n0 (Nat.le_trans Z0 sz_0_4)) e6 (W := 2) (by decide) (g := (mkF m 35 #[vi p0, vi p1, vi p2, vi p3, vi p4, vr b1, .unset, .unset] [(.int p3), (.int 3), (.ref b1)])) rfl (by rw [hml]; rfl) (argsL := [(.int p3)]) (rest := [(.int 3), (.ref b1)]) (lenOf pd_2 rfl) rfl rfl (own_wr rfl rfl) (hb hby at_35)
  obtain ⟨rfl, N7q, e7⟩ := hQ7
  have N7 := Fr.app N6 N7q
  obtain ⟨T8, h8, X8, e8, W8, V8, st8⟩ := own_astC X7 hx hZ e7 V6 (j := 3) (by decide) 3 rfl (Nat.le_of_ble_eq_true rfl) (g := (mkF m 38 #[vi p0, vi p1, vi p2, vi p3, vi p4, vr b1, .unset, .unset] [(.int (own_pick p3)), (.int 3), (.ref b1)])) rfl rfl (hb hby at_38)
  rw [show (nar .char (own_pick p3)) = (own_pick p3) from (own_c2c (own_picka p3) (own_pickb p3))] at V8
  have K8 := KL.ofW W8
  replace V8 : Arv Z h8 b1 k1 .char 5 [(.int (p0 &&& (255 : Int32))), (.int (own_pick p1)), (.int (own_pick p2)), (.int (own_pick p3)), z0] z0 := V8
  have N8 := Fr.snoc X8 N7 (Nat.le_trans Z0 (Nat.le_trans (Nat.le_refl _) ge_b1))
  have sz_0_5 := (Nat.le_trans sz_0_4 K8.1)
  obtain ⟨_, T9, L9, X9, hQ9, st9⟩ := own_static X8 hx hZ hown (w1 hw) (w2 hw) (w3 hw) (w4 hw) (by decide) (r_pick l Z a0 hw [] p4 h8 n0 (Nat.le_trans Z0 sz_0_5)) e8 (W := 2) (by decide) (g := (mkF m 44 #[vi p0, vi p1, vi p2, vi p3, vi p4, vr b1, .unset, .unset] [(.int p4), (.int 4), (.ref b1)])) rfl (by rw [hml]; rfl) (argsL := [(.int p4)]) (rest := [(.int 4), (.ref b1)]) (lenOf pd_2 rfl) rfl rfl (own_wr rfl rfl) (hb hby at_44)
  obtain ⟨rfl, N9q, e9⟩ := hQ9
  have N9 := Fr.app N8 N9q
  obtain ⟨T10, h10, X10, e10, W10, V10, st10⟩ := own_astC X9 hx hZ e9 V8 (j := 4) (by decide) 4 rfl (Nat.le_of_ble_eq_true rfl) (g := (mkF m 47 #[vi p0, vi p1, vi p2, vi p3, vi p4, vr b1, .unset, .unset] [(.int (own_pick p4)), (.int 4), (.ref b1)])) rfl rfl (hb hby at_47)
  rw [show (nar .char (own_pick p4)) = (own_pick p4) from (own_c2c (own_picka p4) (own_pickb p4))] at V10
  have K10 := KL.ofW W10
  replace V10 : Arv Z h10 b1 k1 .char 5 [(.int (p0 &&& (255 : Int32))), (.int (own_pick p1)), (.int (own_pick p2)), (.int (own_pick p3)), (.int (own_pick p4))] z0 := V10
  have N10 := Fr.snoc X10 N9 (Nat.le_trans Z0 (Nat.le_trans (Nat.le_refl _) ge_b1))
  obtain ⟨T11, h11, X11, e11, E11, A11, D11, -, st11⟩ := newO X10 hx hZ hown (w5 hw) (w6 hw) (w7 hw) e10 (g := (mkF m 136 #[vi p0, vi p1, vi p2, vi p3, vi p4, vr b1, vi 3, .unset] [])) rfl (hb hby at_136) (by decide) (by decide)
  obtain ⟨b11, g11⟩ : ∃ z, z = h10.size := ⟨_, rfl⟩
  rw [← g11] at A11 D11 st11
  have ge_b11 : h10.size ≤ b11 := Nat.le_of_eq g11.symm
  have K11 := KL.ofE E11
  have F_b11_coder : Fd0 Z h11 b11 z0 := D11 (Or.inr (w31 hw)) (ty := .byte) (by decide)
  have F_b11_value : Fd1 Z h11 b11 .null := D11 (Or.inr (w33 hw)) (ty := (.array .byte)) (by decide)
  have f13 := (kArv K11 V10 na0)
  have f14 := (kOld K11 (kOld K10 (kOld K8 (kOld K6 (kOld K4 (kOld K2 (kOld K1 O0 na0) (naS (P := fun w => n0 ≤ w.1) (Nat.le_trans Z0 (Nat.le_trans (Nat.le_refl _) ge_b1)) na0)) (naS (P := fun w => n0 ≤ w.1) (Nat.le_trans Z0 (Nat.le_trans (Nat.le_refl _) ge_b1)) na0)) (naS (P := fun w => n0 ≤ w.1) (Nat.le_trans Z0 (Nat.le_trans (Nat.le_refl _) ge_b1)) na0)) (naS (P := fun w => n0 ≤ w.1) (Nat.le_trans Z0 (Nat.le_trans (Nat.le_refl _) ge_b1)) na0)) (naS (P := fun w => n0 ≤ w.1) (Nat.le_trans Z0 (Nat.le_trans (Nat.le_refl _) ge_b1)) na0)) na0)
  have sz_0_6 := (Nat.le_trans sz_0_5 K10.1)
  have sz_0_7 := (Nat.le_trans sz_0_6 K11.1)
  obtain ⟨_, T12, L12, X12, hQ12, st12⟩ := own_init X11 hx hZ rfl hown (w8 hw) (w9 hw) (w7 hw) (w10 hw) (by decide) (r1__init_ l Z a0 hw [] b11 b1 (p0 &&& (255 : Int32)) (own_pick p1) (own_pick p2) (own_pick p3) (own_pick p4) k1 cs h11 n0 (Nat.le_trans Z0 sz_0_7) f13 S_COMPACT_STRINGS F_b11_coder A11 F_b11_value f14 hcs (own_m255b p0) (own_pickb p1) (own_pickb p2) (own_pickb p3) (own_pickb p4) (Nat.le_trans Z0 (Nat.le_trans sz_0_6 ge_b11))) e11 (W := 1) (by decide) (g := (mkF m 142 #[vi p0, vi p1, vi p2, vi p3, vi p4, vr b1, vi 3, .unset] [(.ref b1), (.ref b11), (.ref b11)])) rfl (by rw [hml]; rfl) (argsL := [(.ref b1)]) (rest := [(.ref b11)]) (lenOf pd_7 rfl) rfl rfl (own_wr rfl rfl) (hb hby at_142)
  obtain ⟨b1_9_7_12, k1_9_7_12, rfl, N12q, K12, Q12_0, Q12_1, Q12_2, Q12_3⟩ := hQ12
  have N12 := Fr.app N10 N12q
  have f17 := (kExa K12 A11)
  have f18 := (kOld K12 f14 (naS (P := fun w => n0 ≤ w.1) (Nat.le_trans Z0 (Nat.le_trans sz_0_6 ge_b11)) (naS (P := fun w => n0 ≤ w.1) (Nat.le_trans Z0 (Nat.le_trans sz_0_6 ge_b11)) na0)))
  have sz_0_8 := (Nat.le_trans sz_0_7 K12.1)
  obtain ⟨_, T16, L16, X16, hS16, hk16, hZ16, hown16, hQ16, st16⟩ := own_Sstatic X12 hx hZ hown (w34 hw) (w35 hw) (w36 hw) (w37 hw) (by decide) (r86_parse l Z a0 hw [] b11 cs b1_9_7_12 ((p0 &&& (255 : Int32)).toInt8.toInt32) ((own_pick p1).toInt8.toInt32) ((own_pick p2).toInt8.toInt32) ((own_pick p3).toInt8.toInt32) ((own_pick p4).toInt8.toInt32) k1_9_7_12 fm T12.heap n0 (Nat.le_trans Z0 sz_0_8) f17 S_COMPACT_STRINGS Q12_1 Q12_2 Q12_3 f18 hcs (own_n58 (own_m255a p0) (own_m255b p0) hn0) (own_n58 (own_picka p1) (own_pickb p1) hn1) (own_n58 (own_picka p2) (own_pickb p2) hn2) (own_b58 he3) S_SIOOBE_FORMATTER hfm) rfl (W := 0) (by decide) (g := (mkF m 145 #[vi p0, vi p1, vi p2, vi p3, vi p4, vr b1, vi 3, .unset] [(.ref b11)])) rfl (by rw [hml]; rfl) (argsL := [(.ref b11)]) (rest := []) (lenOf pd_25 rfl) rfl rfl (own_wr rfl rfl) (hb hby at_145) hS0 (Nat.le_trans hk0 sz_0_8)
  obtain ⟨b9_16, b1_13_11_16, b1_13_10_19_16, b2_6_7_13_10_19_16, k2_6_7_13_10_19_16, b2_6_7_13_11_16, k2_6_7_13_11_16, rfl, N16q, K16, Q16_0, Q16_1, Q16_2, Q16_3, Q16_4, Q16_5, Q16_6, Q16_7, Q16_8, Q16_9, Q16_10, Q16_11, Q16_12, Q16_13, Q16_14, Q16_15, Q16_16, Q16_17, Q16_18, Q16_19, Q16_20, Q16_21, Q16_22, Q16_23, Q16_24, Q16_25⟩ := hQ16
  have N16 := Fr.app N12 N16q
  have sz_0_9 := (Nat.le_trans sz_0_8 K16.1)
  obtain ⟨_, T24, L24, X24, hQ24, st24⟩ := own_virtual X16 hx hZ16 hown16 (w149 hw) (w150 hw) (notFace_of_selects (args := #[]) (mvT hZ16 (w152 hw))) (w152 hw) (w151 hw) (w36 hw) (w153 hw) (by decide) (r42_system l Z a0 hw [] b9_16 b1_13_11_16 T16.heap n0 (Nat.le_trans Z0 sz_0_9) Q16_16) rfl Q16_15 (W := 0) (by decide) (g := (mkF m 152 #[vi p0, vi p1, vi p2, vi p3, vi p4, vr b1, vi 3, vr b9_16] [(.ref b9_16)])) rfl (by rw [hml]; rfl) (argsL := []) (rest := []) (lenOf pd_26 rfl) rfl rfl (own_wr rfl rfl) (hb hby at_152)
  obtain ⟨rfl, N24q, e24⟩ := hQ24
  have N24 := Fr.app N16 N24q
  have f26 := (kOld K16 f18 na0)
  have lt_b1 : b1 < h1.size := Arv.lt V1
  have sz_1_3 := (Nat.le_trans K2.1 K4.1)
  have sz_1_4 := (Nat.le_trans sz_1_3 K6.1)
  have sz_1_5 := (Nat.le_trans sz_1_4 K8.1)
  have sz_1_6 := (Nat.le_trans sz_1_5 K10.1)
  have f27 := (kArv K16 (kArv K12 f13 (naN (Ne.symm (lt_ne (Nat.lt_of_lt_of_le lt_b1 sz_1_6) ge_b11)) (naN (Ne.symm (lt_ne (Nat.lt_of_lt_of_le lt_b1 sz_1_6) ge_b11)) na0))) na0)
  obtain ⟨_, T25, L25, X25, hQ25, st25⟩ := own_static X24 hx hZ16 hown16 (w154 hw) (w155 hw) (w3 hw) (w156 hw) (by decide) (r108_same l Z a0 hw [] b1_13_11_16 b1 b2_6_7_13_11_16 ((p0 &&& (255 : Int32)).toInt8.toInt32) ((own_pick p1).toInt8.toInt32) ((own_pick p2).toInt8.toInt32) k2_6_7_13_11_16 cs fm (p0 &&& (255 : Int32)) (own_pick p1) (own_pick p2) (own_pick p3) (own_pick p4) k1 T16.heap n0 (Nat.le_trans Z0 sz_0_9) Q16_18 Q16_20 Q16_25 S_COMPACT_STRINGS Q16_19 f26 hcs S_SIOOBE_FORMATTER hfm f27 (own_b2c (own_m255a p0) (own_m255b p0)) (own_b2c (own_picka p1) (own_pickb p1)) (own_b2c (own_picka p2) (own_pickb p2))) e24 (W := 0) (by decide) (g := (mkF m 160 #[vi p0, vi p1, vi p2, vi p3, vi p4, vr b1, vi 3, vr b9_16] [(.int 3), z0, (.ref b1), (.ref b1_13_11_16)])) rfl (by rw [hml]; rfl) (argsL := [(.ref b1_13_11_16), (.ref b1), z0, (.int 3)]) (rest := []) (lenOf pd_28 rfl) rfl rfl (own_wr rfl rfl) (hb hby at_160)
  obtain ⟨rfl, N25q, e25⟩ := hQ25
  have N25 := Fr.app N24 N25q
  obtain ⟨_, T28, L28, X28, hQ28, st28⟩ := own_virtual X25 hx hZ16 hown16 (w172 hw) (w173 hw) (notFace_of_selects (args := #[]) (mvT hZ16 (w175 hw))) (w175 hw) (w174 hw) (w36 hw) (w176 hw) (by decide) (r46_id l Z a0 hw [] b9_16 b1_13_10_19_16 T16.heap n0 (Nat.le_trans Z0 sz_0_9) Q16_17) e25 Q16_15 (W := 0) (by decide) (g := (mkF m 168 #[vi p0, vi p1, vi p2, vi p3, vi p4, vr b1, vi 3, vr b9_16] [(.ref b9_16)])) rfl (by rw [hml]; rfl) (argsL := []) (rest := []) (lenOf pd_26 rfl) rfl rfl (own_wr rfl rfl) (hb hby at_168)
  obtain ⟨rfl, N28q, e28⟩ := hQ28
  have N28 := Fr.app N25 N28q
  obtain ⟨_, T29, L29, X29, hQ29, st29⟩ := own_static X28 hx hZ16 hown16 (w154 hw) (w155 hw) (w3 hw) (w156 hw) (by decide) (r109_same l Z a0 hw [] b1_13_10_19_16 b1 b2_6_7_13_10_19_16 ((own_pick p4).toInt8.toInt32) k2_6_7_13_10_19_16 cs fm (p0 &&& (255 : Int32)) (own_pick p1) (own_pick p2) (own_pick p3) (own_pick p4) k1 T16.heap n0 (Nat.le_trans Z0 sz_0_9) Q16_21 Q16_23 Q16_24 S_COMPACT_STRINGS Q16_22 f26 hcs S_SIOOBE_FORMATTER hfm f27 (own_b2c (own_picka p4) (own_pickb p4))) e28 (W := 0) (by decide) (g := (mkF m 181 #[vi p0, vi p1, vi p2, vi p3, vi p4, vr b1, vi 3, vr b9_16] [(.int 1), (.int 4), (.ref b1), (.ref b1_13_10_19_16)])) rfl (by rw [hml]; rfl) (argsL := [(.ref b1_13_10_19_16), (.ref b1), (.int 4), (.int 1)]) (rest := []) (lenOf pd_28 rfl) rfl rfl (own_wr rfl rfl) (hb hby at_181)
  obtain ⟨rfl, N29q, e29⟩ := hQ29
  have N29 := Fr.app N28 N29q
  refine ⟨T29, _, some (.int 1), _, _, X29, hS16, (by rw [e29]; exact hk16), (fun h => by cases h <;> rfl), ?_, fun fs hr => ?_⟩
  · show Q_law n0 _ _
    exact ⟨rfl, N29⟩
  · refine t_iconst 1 (r := 5) X0.here hx (hb hby at_0) (by decide) rfl ?_
    refine st1 _ ?_
    refine t_astore (pc' := 5) (L' := #[vi p0, vi p1, vi p2, vi p3, vi p4, vr b1, .unset, .unset]) X1.here hx (hb hby at_3) rfl rfl rfl ?_
    refine t_aload 7 X1.here hx (hb hby at_5) rfl rfl rfl ?_
    refine t_iconst 8 (r := 0) X1.here hx (hb hby at_7) (by decide) rfl ?_
    refine t_iloadN 9 X1.here hx (hb hby at_8) rfl rfl ?_
    refine t_sipush 12 (r := 255) X1.here hx (hb hby at_9) (by decide) rfl ?_
    refine t_iand 13 X1.here hx (hb hby at_12) rfl rfl ?_
    refine t_i2c 14 (r := (p0 &&& (255 : Int32))) X1.here hx (hb hby at_13) (i2c_mask _) rfl ?_
    refine st2 _ ?_
    refine t_aload 17 X2.here hx (hb hby at_15) rfl rfl rfl ?_
    refine t_iconst 18 (r := 1) X2.here hx (hb hby at_17) (by decide) rfl ?_
    refine t_iloadN 19 X2.here hx (hb hby at_18) rfl rfl ?_
    refine st3 _ ?_
    refine st4 _ ?_
    refine t_aload 25 X4.here hx (hb hby at_23) rfl rfl rfl ?_
    refine t_iconst 26 (r := 2) X4.here hx (hb hby at_25) (by decide) rfl ?_
    refine t_iloadN 27 X4.here hx (hb hby at_26) rfl rfl ?_
    refine st5 _ ?_
    refine st6 _ ?_
    refine t_aload 33 X6.here hx (hb hby at_31) rfl rfl rfl ?_
    refine t_iconst 34 (r := 3) X6.here hx (hb hby at_33) (by decide) rfl ?_
    refine t_iloadN 35 X6.here hx (hb hby at_34) rfl rfl ?_
    refine st7 _ ?_
    refine st8 _ ?_
    refine t_aload 41 X8.here hx (hb hby at_39) rfl rfl rfl ?_
    refine t_iconst 42 (r := 4) X8.here hx (hb hby at_41) (by decide) rfl ?_
    refine t_iload 44 X8.here hx (hb hby at_42) rfl rfl ?_
    refine st9 _ ?_
    refine st10 _ ?_
    refine t_iconst 49 (r := (-1 : Int32)) X10.here hx (hb hby at_48) (by decide) rfl ?_
    refine t_istore (pc' := 51) (L' := #[vi p0, vi p1, vi p2, vi p3, vi p4, vr b1, vi ((-1)), .unset]) X10.here hx (hb hby at_49) rfl rfl ?_
    refine t_aload 53 X10.here hx (hb hby at_51) rfl rfl rfl ?_
    refine t_iconst 54 (r := 0) X10.here hx (hb hby at_53) (by decide) rfl ?_
    refine own_aldC (pc' := 55) X10 hx hZ e10 V10 (j := 0) (v := (.int (p0 &&& (255 : Int32)))) (by decide) rfl (hb hby at_54) rfl ?_
    refine t_bipush 57 (r := 58) X10.here hx (hb hby at_55) (by decide) rfl ?_
    refine t_icmpYes (pc := 57) 66 X10.here hx (hb hby at_57) (feq hn0).2 (by decide) (by decide) ?_
    refine t_aload 68 X10.here hx (hb hby at_66) rfl rfl rfl ?_
    refine t_iconst 69 (r := 1) X10.here hx (hb hby at_68) (by decide) rfl ?_
    refine own_aldC (pc' := 70) X10 hx hZ e10 V10 (j := 1) (v := (.int (own_pick p1))) (by decide) rfl (hb hby at_69) rfl ?_
    refine t_bipush 72 (r := 58) X10.here hx (hb hby at_70) (by decide) rfl ?_
    refine t_icmpYes (pc := 72) 81 X10.here hx (hb hby at_72) (feq hn1).2 (by decide) (by decide) ?_
    refine t_aload 83 X10.here hx (hb hby at_81) rfl rfl rfl ?_
    refine t_iconst 84 (r := 2) X10.here hx (hb hby at_83) (by decide) rfl ?_
    refine own_aldC (pc' := 85) X10 hx hZ e10 V10 (j := 2) (v := (.int (own_pick p2))) (by decide) rfl (hb hby at_84) rfl ?_
    refine t_bipush 87 (r := 58) X10.here hx (hb hby at_85) (by decide) rfl ?_
    refine t_icmpYes (pc := 87) 96 X10.here hx (hb hby at_87) (feq hn2).2 (by decide) (by decide) ?_
    refine t_aload 98 X10.here hx (hb hby at_96) rfl rfl rfl ?_
    refine t_iconst 99 (r := 3) X10.here hx (hb hby at_98) (by decide) rfl ?_
    refine own_aldC (pc' := 100) X10 hx hZ e10 V10 (j := 3) (v := (.int (own_pick p3))) (by decide) rfl (hb hby at_99) rfl ?_
    refine t_bipush 102 (r := 58) X10.here hx (hb hby at_100) (by decide) rfl ?_
    refine t_icmpNo 105 X10.here hx (hb hby at_102) (teq he3).2 rfl ?_
    refine t_iconst 106 (r := 3) X10.here hx (hb hby at_105) (by decide) rfl ?_
    refine t_istore (pc' := 108) (L' := #[vi p0, vi p1, vi p2, vi p3, vi p4, vr b1, vi 3, .unset]) X10.here hx (hb hby at_106) rfl rfl ?_
    refine t_goto (pc := 108) 123 X10.here hx (hb hby at_108) (by decide) (by decide) ?_
    refine t_iload 125 X10.here hx (hb hby at_123) rfl rfl ?_
    refine t_ifNo 128 X10.here hx (hb hby at_125) (by decide) rfl ?_
    refine t_iload 130 X10.here hx (hb hby at_128) rfl rfl ?_
    refine t_iconst 131 (r := 4) X10.here hx (hb hby at_130) (by decide) rfl ?_
    refine t_icmpYes (pc := 131) 136 X10.here hx (hb hby at_131) (by decide) (by decide) (by decide) ?_
    refine st11 _ ?_
    refine t_dup 140 X11.here hx (hb hby at_139) rfl rfl ?_
    refine t_aload 142 X11.here hx (hb hby at_140) rfl rfl rfl ?_
    refine st12 _ ?_
    refine st16 _ ?_
    refine t_astore (pc' := 150) (L' := #[vi p0, vi p1, vi p2, vi p3, vi p4, vr b1, vi 3, vr b9_16]) X16.here hx (hb hby at_148) rfl rfl rfl ?_
    refine t_aload 152 X16.here hx (hb hby at_150) rfl rfl rfl ?_
    refine st24 _ ?_
    refine t_aload 157 X24.here hx (hb hby at_155) rfl rfl rfl ?_
    refine t_iconst 158 (r := 0) X24.here hx (hb hby at_157) (by decide) rfl ?_
    refine t_iload 160 X24.here hx (hb hby at_158) rfl rfl ?_
    refine st25 _ ?_
    refine t_ifNo 166 X25.here hx (hb hby at_163) (by decide) rfl ?_
    refine t_aload 168 X25.here hx (hb hby at_166) rfl rfl rfl ?_
    refine st28 _ ?_
    refine t_aload 173 X28.here hx (hb hby at_171) rfl rfl rfl ?_
    refine t_iload 175 X28.here hx (hb hby at_173) rfl rfl ?_
    refine t_iconst 176 (r := 1) X28.here hx (hb hby at_175) (by decide) rfl ?_
    refine t_iadd 177 (r := 4) X28.here hx (hb hby at_176) (by decide : ((3 : Int32) + (1 : Int32)) = (4 : Int32)) rfl ?_
    refine t_iconst 178 (r := 4) X28.here hx (hb hby at_177) (by decide) rfl ?_
    refine t_iload 180 X28.here hx (hb hby at_178) rfl rfl ?_
    refine t_isub 181 (r := 1) X28.here hx (hb hby at_180) (by decide : ((4 : Int32) - (3 : Int32)) = (1 : Int32)) rfl ?_
    refine st29 _ ?_
    refine t_ifNo 187 X29.here hx (hb hby at_184) (by decide) rfl ?_
    refine t_iconst 188 (r := 1) X29.here hx (hb hby at_187) (by decide) rfl ?_
    refine t_goto (pc := 188) 192 X29.here hx (hb hby at_188) (by decide) (by decide) ?_
    exact retN X29 hx (t := .boolean) hret (by simp) (hb hby at_192) hr
theorem ef_law_4 (p0 p1 p2 p3 p4 : Int32) (m : MethodId) : entryFrame m #[(.int p0), (.int p1), (.int p2), (.int p3), (.int p4)] maxLocals = mkF m 0 #[.val (.int p0), .val (.int p1), .val (.int p2), .val (.int p3), .val (.int p4), .unset, .unset, .unset] [] := by first | (simp [entryFrame, mkF, argsToLocals, Value.category, maxLocals]; done) | rfl
set_option maxRecDepth 65536 in
set_option maxHeartbeats 40000000 in
theorem law_4 (l : Launch) (Z : State) (a0 : Array Value) (hw : HW Z a0) (ws : List Jvm.Cond) (p0 p1 p2 p3 p4 cs : Int32) (fm : Value) (h0 : Heap) (n0 : Nat) (Z0 : n0 ≤ h0.size) (hn0 : ¬ ((p0 &&& (255 : Int32)) = (58 : Int32))) (hn1 : ¬ ((own_pick p1) = (58 : Int32))) (hn2 : ¬ ((own_pick p2) = (58 : Int32))) (hn3 : ¬ ((own_pick p3) = (58 : Int32))) (he4 : (own_pick p4) = (58 : Int32)) :
    MetFree l x (head1 (Jvm.Cond.code x code maxLocals ret :: ws) room_1) (fun a U => a = #[(.int p0), (.int p1), (.int p2), (.int p3), (.int p4)] ∧ Z.Warmed39 U.vm ∧ U.heap = h0) (fun _ _ _ _ _ => True) (fun _ U o U' => ∃ v L, o = .returned v ∧ Q_law n0 v L ∧ ReturnedEndW U o U' L 32 2176) := by
  refine own_bodyS (k := 1) (n := 5) (y := x) (Q := fun v _ L => Q_law n0 v L) (plainFor_of_name pn_IdentifierParsePinLaw141) (ef_law_4 p0 p1 p2 p3 p4) (by decide) (by decide) ?_
  intro p e s m below meth c s₁ hx hby hml hown hnm hret hZ e0 hS0 hk0 X0
  have N0 := Fr.nil n0
  obtain ⟨T1, h1, k1, X1, e1, E1, A1, st1⟩ := newP (aty := .char) X0 hx hZ (w0 hw) e0 (g := (mkF m 1 #[vi p0, vi p1, vi p2, vi p3, vi p4, .unset, .unset, .unset] [(.int 5)])) rfl (hb hby at_1) rfl (by decide) (cap := 5) (by decide) (by decide) (by decide) (by decide)
  obtain ⟨b1, g1⟩ : ∃ z, z = h0.size := ⟨_, rfl⟩
  rw [← g1] at A1 st1
  have ge_b1 : h0.size ≤ b1 := Nat.le_of_eq g1.symm
  have K1 := KL.ofE E1
  have V1 : Arv Z h1 b1 k1 .char 5 [z0, z0, z0, z0, z0] z0 := (Arv.new A1 (by decide)).pad (pad_rep [] z0 5)
  obtain ⟨T2, h2, X2, e2, W2, V2, st2⟩ := own_astC X1 hx hZ e1 V1 (j := 0) (by decide) 0 rfl (Nat.le_of_ble_eq_true rfl) (g := (mkF m 14 #[vi p0, vi p1, vi p2, vi p3, vi p4, vr b1, .unset, .unset] [(.int (p0 &&& (255 : Int32))), z0, (.ref b1)])) rfl rfl (hb hby at_14)
  rw [show (nar .char (p0 &&& (255 : Int32))) = (p0 &&& (255 : Int32)) from (i2c_mask _)] at V2
  have K2 := KL.ofW W2
  replace V2 : Arv Z h2 b1 k1 .char 5 [(.int (p0 &&& (255 : Int32))), z0, z0, z0, z0] z0 := V2
  have N2 := Fr.snoc X2 N0 (Nat.le_trans Z0 (Nat.le_trans (Nat.le_refl _) ge_b1))
  have sz_0_2 := (Nat.le_trans K1.1 K2.1)
  obtain ⟨_, T3, L3, X3, hQ3, st3⟩ := own_static X2 hx hZ hown (w1 hw) (w2 hw) (w3 hw) (w4 hw) (by decide) (r_pick l Z a0 hw [] p1 h2 n0 (Nat.le_trans Z0 sz_0_2)) e2 (W := 2) (by decide) (g := (mkF m 19 #[vi p0, vi p1, vi p2, vi p3, vi p4, vr b1, .unset, .unset] [(.int p1), (.int 1), (.ref b1)])) rfl (by rw [hml]; rfl) (argsL := [(.int p1)]) (rest := [(.int 1), (.ref b1)]) (lenOf pd_2 rfl) rfl rfl (own_wr rfl rfl) (hb hby at_19)
  obtain ⟨rfl, N3q, e3⟩ := hQ3
  have N3 := Fr.app N2 N3q
  obtain ⟨T4, h4, X4, e4, W4, V4, st4⟩ := own_astC X3 hx hZ e3 V2 (j := 1) (by decide) 1 rfl (Nat.le_of_ble_eq_true rfl) (g := (mkF m 22 #[vi p0, vi p1, vi p2, vi p3, vi p4, vr b1, .unset, .unset] [(.int (own_pick p1)), (.int 1), (.ref b1)])) rfl rfl (hb hby at_22)
  rw [show (nar .char (own_pick p1)) = (own_pick p1) from (own_c2c (own_picka p1) (own_pickb p1))] at V4
  have K4 := KL.ofW W4
  replace V4 : Arv Z h4 b1 k1 .char 5 [(.int (p0 &&& (255 : Int32))), (.int (own_pick p1)), z0, z0, z0] z0 := V4
  have N4 := Fr.snoc X4 N3 (Nat.le_trans Z0 (Nat.le_trans (Nat.le_refl _) ge_b1))
  have sz_0_3 := (Nat.le_trans sz_0_2 K4.1)
  obtain ⟨_, T5, L5, X5, hQ5, st5⟩ := own_static X4 hx hZ hown (w1 hw) (w2 hw) (w3 hw) (w4 hw) (by decide) (r_pick l Z a0 hw [] p2 h4 n0 (Nat.le_trans Z0 sz_0_3)) e4 (W := 2) (by decide) (g := (mkF m 27 #[vi p0, vi p1, vi p2, vi p3, vi p4, vr b1, .unset, .unset] [(.int p2), (.int 2), (.ref b1)])) rfl (by rw [hml]; rfl) (argsL := [(.int p2)]) (rest := [(.int 2), (.ref b1)]) (lenOf pd_2 rfl) rfl rfl (own_wr rfl rfl) (hb hby at_27)
  obtain ⟨rfl, N5q, e5⟩ := hQ5
  have N5 := Fr.app N4 N5q
  obtain ⟨T6, h6, X6, e6, W6, V6, st6⟩ := own_astC X5 hx hZ e5 V4 (j := 2) (by decide) 2 rfl (Nat.le_of_ble_eq_true rfl) (g := (mkF m 30 #[vi p0, vi p1, vi p2, vi p3, vi p4, vr b1, .unset, .unset] [(.int (own_pick p2)), (.int 2), (.ref b1)])) rfl rfl (hb hby at_30)
  rw [show (nar .char (own_pick p2)) = (own_pick p2) from (own_c2c (own_picka p2) (own_pickb p2))] at V6
  have K6 := KL.ofW W6
  replace V6 : Arv Z h6 b1 k1 .char 5 [(.int (p0 &&& (255 : Int32))), (.int (own_pick p1)), (.int (own_pick p2)), z0, z0] z0 := V6
  have N6 := Fr.snoc X6 N5 (Nat.le_trans Z0 (Nat.le_trans (Nat.le_refl _) ge_b1))
  have sz_0_4 := (Nat.le_trans sz_0_3 K6.1)
  obtain ⟨_, T7, L7, X7, hQ7, st7⟩ := own_static X6 hx hZ hown (w1 hw) (w2 hw) (w3 hw) (w4 hw) (by decide) (r_pick l Z a0 hw [] p3 h6 n0 (Nat.le_trans Z0 sz_0_4)) e6 (W := 2) (by decide) (g := (mkF m 35 #[vi p0, vi p1, vi p2, vi p3, vi p4, vr b1, .unset, .unset] [(.int p3), (.int 3), (.ref b1)])) rfl (by rw [hml]; rfl) (argsL := [(.int p3)]) (rest := [(.int 3), (.ref b1)]) (lenOf pd_2 rfl) rfl rfl (own_wr rfl rfl) (hb hby at_35)
  obtain ⟨rfl, N7q, e7⟩ := hQ7
  have N7 := Fr.app N6 N7q
  obtain ⟨T8, h8, X8, e8, W8, V8, st8⟩ := own_astC X7 hx hZ e7 V6 (j := 3) (by decide) 3 rfl (Nat.le_of_ble_eq_true rfl) (g := (mkF m 38 #[vi p0, vi p1, vi p2, vi p3, vi p4, vr b1, .unset, .unset] [(.int (own_pick p3)), (.int 3), (.ref b1)])) rfl rfl (hb hby at_38)
  rw [show (nar .char (own_pick p3)) = (own_pick p3) from (own_c2c (own_picka p3) (own_pickb p3))] at V8
  have K8 := KL.ofW W8
  replace V8 : Arv Z h8 b1 k1 .char 5 [(.int (p0 &&& (255 : Int32))), (.int (own_pick p1)), (.int (own_pick p2)), (.int (own_pick p3)), z0] z0 := V8
  have N8 := Fr.snoc X8 N7 (Nat.le_trans Z0 (Nat.le_trans (Nat.le_refl _) ge_b1))
  have sz_0_5 := (Nat.le_trans sz_0_4 K8.1)
  obtain ⟨_, T9, L9, X9, hQ9, st9⟩ := own_static X8 hx hZ hown (w1 hw) (w2 hw) (w3 hw) (w4 hw) (by decide) (r_pick l Z a0 hw [] p4 h8 n0 (Nat.le_trans Z0 sz_0_5)) e8 (W := 2) (by decide) (g := (mkF m 44 #[vi p0, vi p1, vi p2, vi p3, vi p4, vr b1, .unset, .unset] [(.int p4), (.int 4), (.ref b1)])) rfl (by rw [hml]; rfl) (argsL := [(.int p4)]) (rest := [(.int 4), (.ref b1)]) (lenOf pd_2 rfl) rfl rfl (own_wr rfl rfl) (hb hby at_44)
  obtain ⟨rfl, N9q, e9⟩ := hQ9
  have N9 := Fr.app N8 N9q
  obtain ⟨T10, h10, X10, e10, W10, V10, st10⟩ := own_astC X9 hx hZ e9 V8 (j := 4) (by decide) 4 rfl (Nat.le_of_ble_eq_true rfl) (g := (mkF m 47 #[vi p0, vi p1, vi p2, vi p3, vi p4, vr b1, .unset, .unset] [(.int (own_pick p4)), (.int 4), (.ref b1)])) rfl rfl (hb hby at_47)
  rw [show (nar .char (own_pick p4)) = (own_pick p4) from (own_c2c (own_picka p4) (own_pickb p4))] at V10
  have K10 := KL.ofW W10
  replace V10 : Arv Z h10 b1 k1 .char 5 [(.int (p0 &&& (255 : Int32))), (.int (own_pick p1)), (.int (own_pick p2)), (.int (own_pick p3)), (.int (own_pick p4))] z0 := V10
  have N10 := Fr.snoc X10 N9 (Nat.le_trans Z0 (Nat.le_trans (Nat.le_refl _) ge_b1))
  have sz_0_6 := (Nat.le_trans sz_0_5 K10.1)
  refine ⟨T10, _, some (.int 1), _, _, X10, hS0, (by rw [e10]; exact (Nat.le_trans hk0 sz_0_6)), (fun h => by cases h <;> rfl), ?_, fun fs hr => ?_⟩
  · show Q_law n0 _ _
    exact ⟨rfl, N10⟩
  · refine t_iconst 1 (r := 5) X0.here hx (hb hby at_0) (by decide) rfl ?_
    refine st1 _ ?_
    refine t_astore (pc' := 5) (L' := #[vi p0, vi p1, vi p2, vi p3, vi p4, vr b1, .unset, .unset]) X1.here hx (hb hby at_3) rfl rfl rfl ?_
    refine t_aload 7 X1.here hx (hb hby at_5) rfl rfl rfl ?_
    refine t_iconst 8 (r := 0) X1.here hx (hb hby at_7) (by decide) rfl ?_
    refine t_iloadN 9 X1.here hx (hb hby at_8) rfl rfl ?_
    refine t_sipush 12 (r := 255) X1.here hx (hb hby at_9) (by decide) rfl ?_
    refine t_iand 13 X1.here hx (hb hby at_12) rfl rfl ?_
    refine t_i2c 14 (r := (p0 &&& (255 : Int32))) X1.here hx (hb hby at_13) (i2c_mask _) rfl ?_
    refine st2 _ ?_
    refine t_aload 17 X2.here hx (hb hby at_15) rfl rfl rfl ?_
    refine t_iconst 18 (r := 1) X2.here hx (hb hby at_17) (by decide) rfl ?_
    refine t_iloadN 19 X2.here hx (hb hby at_18) rfl rfl ?_
    refine st3 _ ?_
    refine st4 _ ?_
    refine t_aload 25 X4.here hx (hb hby at_23) rfl rfl rfl ?_
    refine t_iconst 26 (r := 2) X4.here hx (hb hby at_25) (by decide) rfl ?_
    refine t_iloadN 27 X4.here hx (hb hby at_26) rfl rfl ?_
    refine st5 _ ?_
    refine st6 _ ?_
    refine t_aload 33 X6.here hx (hb hby at_31) rfl rfl rfl ?_
    refine t_iconst 34 (r := 3) X6.here hx (hb hby at_33) (by decide) rfl ?_
    refine t_iloadN 35 X6.here hx (hb hby at_34) rfl rfl ?_
    refine st7 _ ?_
    refine st8 _ ?_
    refine t_aload 41 X8.here hx (hb hby at_39) rfl rfl rfl ?_
    refine t_iconst 42 (r := 4) X8.here hx (hb hby at_41) (by decide) rfl ?_
    refine t_iload 44 X8.here hx (hb hby at_42) rfl rfl ?_
    refine st9 _ ?_
    refine st10 _ ?_
    refine t_iconst 49 (r := (-1 : Int32)) X10.here hx (hb hby at_48) (by decide) rfl ?_
    refine t_istore (pc' := 51) (L' := #[vi p0, vi p1, vi p2, vi p3, vi p4, vr b1, vi ((-1)), .unset]) X10.here hx (hb hby at_49) rfl rfl ?_
    refine t_aload 53 X10.here hx (hb hby at_51) rfl rfl rfl ?_
    refine t_iconst 54 (r := 0) X10.here hx (hb hby at_53) (by decide) rfl ?_
    refine own_aldC (pc' := 55) X10 hx hZ e10 V10 (j := 0) (v := (.int (p0 &&& (255 : Int32)))) (by decide) rfl (hb hby at_54) rfl ?_
    refine t_bipush 57 (r := 58) X10.here hx (hb hby at_55) (by decide) rfl ?_
    refine t_icmpYes (pc := 57) 66 X10.here hx (hb hby at_57) (feq hn0).2 (by decide) (by decide) ?_
    refine t_aload 68 X10.here hx (hb hby at_66) rfl rfl rfl ?_
    refine t_iconst 69 (r := 1) X10.here hx (hb hby at_68) (by decide) rfl ?_
    refine own_aldC (pc' := 70) X10 hx hZ e10 V10 (j := 1) (v := (.int (own_pick p1))) (by decide) rfl (hb hby at_69) rfl ?_
    refine t_bipush 72 (r := 58) X10.here hx (hb hby at_70) (by decide) rfl ?_
    refine t_icmpYes (pc := 72) 81 X10.here hx (hb hby at_72) (feq hn1).2 (by decide) (by decide) ?_
    refine t_aload 83 X10.here hx (hb hby at_81) rfl rfl rfl ?_
    refine t_iconst 84 (r := 2) X10.here hx (hb hby at_83) (by decide) rfl ?_
    refine own_aldC (pc' := 85) X10 hx hZ e10 V10 (j := 2) (v := (.int (own_pick p2))) (by decide) rfl (hb hby at_84) rfl ?_
    refine t_bipush 87 (r := 58) X10.here hx (hb hby at_85) (by decide) rfl ?_
    refine t_icmpYes (pc := 87) 96 X10.here hx (hb hby at_87) (feq hn2).2 (by decide) (by decide) ?_
    refine t_aload 98 X10.here hx (hb hby at_96) rfl rfl rfl ?_
    refine t_iconst 99 (r := 3) X10.here hx (hb hby at_98) (by decide) rfl ?_
    refine own_aldC (pc' := 100) X10 hx hZ e10 V10 (j := 3) (v := (.int (own_pick p3))) (by decide) rfl (hb hby at_99) rfl ?_
    refine t_bipush 102 (r := 58) X10.here hx (hb hby at_100) (by decide) rfl ?_
    refine t_icmpYes (pc := 102) 111 X10.here hx (hb hby at_102) (feq hn3).2 (by decide) (by decide) ?_
    refine t_aload 113 X10.here hx (hb hby at_111) rfl rfl rfl ?_
    refine t_iconst 114 (r := 4) X10.here hx (hb hby at_113) (by decide) rfl ?_
    refine own_aldC (pc' := 115) X10 hx hZ e10 V10 (j := 4) (v := (.int (own_pick p4))) (by decide) rfl (hb hby at_114) rfl ?_
    refine t_bipush 117 (r := 58) X10.here hx (hb hby at_115) (by decide) rfl ?_
    refine t_icmpNo 120 X10.here hx (hb hby at_117) (teq he4).2 rfl ?_
    refine t_iconst 121 (r := 4) X10.here hx (hb hby at_120) (by decide) rfl ?_
    refine t_istore (pc' := 123) (L' := #[vi p0, vi p1, vi p2, vi p3, vi p4, vr b1, vi 4, .unset]) X10.here hx (hb hby at_121) rfl rfl ?_
    refine t_iload 125 X10.here hx (hb hby at_123) rfl rfl ?_
    refine t_ifNo 128 X10.here hx (hb hby at_125) (by decide) rfl ?_
    refine t_iload 130 X10.here hx (hb hby at_128) rfl rfl ?_
    refine t_iconst 131 (r := 4) X10.here hx (hb hby at_130) (by decide) rfl ?_
    refine t_icmpNo 134 X10.here hx (hb hby at_131) (by decide) rfl ?_
    refine t_iconst 135 (r := 1) X10.here hx (hb hby at_134) (by decide) rfl ?_
    exact retN X10 hx (t := .boolean) hret (by simp) (hb hby at_135) hr
theorem ef_law_5 (p0 p1 p2 p3 p4 : Int32) (m : MethodId) : entryFrame m #[(.int p0), (.int p1), (.int p2), (.int p3), (.int p4)] maxLocals = mkF m 0 #[.val (.int p0), .val (.int p1), .val (.int p2), .val (.int p3), .val (.int p4), .unset, .unset, .unset] [] := by first | (simp [entryFrame, mkF, argsToLocals, Value.category, maxLocals]; done) | rfl
set_option maxRecDepth 65536 in
set_option maxHeartbeats 40000000 in
theorem law_5 (l : Launch) (Z : State) (a0 : Array Value) (hw : HW Z a0) (ws : List Jvm.Cond) (p0 p1 p2 p3 p4 cs : Int32) (fm : Value) (h0 : Heap) (n0 : Nat) (Z0 : n0 ≤ h0.size) (hn0 : ¬ ((p0 &&& (255 : Int32)) = (58 : Int32))) (hn1 : ¬ ((own_pick p1) = (58 : Int32))) (hn2 : ¬ ((own_pick p2) = (58 : Int32))) (hn3 : ¬ ((own_pick p3) = (58 : Int32))) (hn4 : ¬ ((own_pick p4) = (58 : Int32))) :
    MetFree l x (head1 (Jvm.Cond.code x code maxLocals ret :: ws) room_1) (fun a U => a = #[(.int p0), (.int p1), (.int p2), (.int p3), (.int p4)] ∧ Z.Warmed39 U.vm ∧ U.heap = h0) (fun _ _ _ _ _ => True) (fun _ U o U' => ∃ v L, o = .returned v ∧ Q_law n0 v L ∧ ReturnedEndW U o U' L 32 2176) := by
  refine own_bodyS (k := 1) (n := 5) (y := x) (Q := fun v _ L => Q_law n0 v L) (plainFor_of_name pn_IdentifierParsePinLaw141) (ef_law_5 p0 p1 p2 p3 p4) (by decide) (by decide) ?_
  intro p e s m below meth c s₁ hx hby hml hown hnm hret hZ e0 hS0 hk0 X0
  have N0 := Fr.nil n0
  obtain ⟨T1, h1, k1, X1, e1, E1, A1, st1⟩ := newP (aty := .char) X0 hx hZ (w0 hw) e0 (g := (mkF m 1 #[vi p0, vi p1, vi p2, vi p3, vi p4, .unset, .unset, .unset] [(.int 5)])) rfl (hb hby at_1) rfl (by decide) (cap := 5) (by decide) (by decide) (by decide) (by decide)
  obtain ⟨b1, g1⟩ : ∃ z, z = h0.size := ⟨_, rfl⟩
  rw [← g1] at A1 st1
  have ge_b1 : h0.size ≤ b1 := Nat.le_of_eq g1.symm
  have K1 := KL.ofE E1
  have V1 : Arv Z h1 b1 k1 .char 5 [z0, z0, z0, z0, z0] z0 := (Arv.new A1 (by decide)).pad (pad_rep [] z0 5)
  obtain ⟨T2, h2, X2, e2, W2, V2, st2⟩ := own_astC X1 hx hZ e1 V1 (j := 0) (by decide) 0 rfl (Nat.le_of_ble_eq_true rfl) (g := (mkF m 14 #[vi p0, vi p1, vi p2, vi p3, vi p4, vr b1, .unset, .unset] [(.int (p0 &&& (255 : Int32))), z0, (.ref b1)])) rfl rfl (hb hby at_14)
  rw [show (nar .char (p0 &&& (255 : Int32))) = (p0 &&& (255 : Int32)) from (i2c_mask _)] at V2
  have K2 := KL.ofW W2
  replace V2 : Arv Z h2 b1 k1 .char 5 [(.int (p0 &&& (255 : Int32))), z0, z0, z0, z0] z0 := V2
  have N2 := Fr.snoc X2 N0 (Nat.le_trans Z0 (Nat.le_trans (Nat.le_refl _) ge_b1))
  have sz_0_2 := (Nat.le_trans K1.1 K2.1)
  obtain ⟨_, T3, L3, X3, hQ3, st3⟩ := own_static X2 hx hZ hown (w1 hw) (w2 hw) (w3 hw) (w4 hw) (by decide) (r_pick l Z a0 hw [] p1 h2 n0 (Nat.le_trans Z0 sz_0_2)) e2 (W := 2) (by decide) (g := (mkF m 19 #[vi p0, vi p1, vi p2, vi p3, vi p4, vr b1, .unset, .unset] [(.int p1), (.int 1), (.ref b1)])) rfl (by rw [hml]; rfl) (argsL := [(.int p1)]) (rest := [(.int 1), (.ref b1)]) (lenOf pd_2 rfl) rfl rfl (own_wr rfl rfl) (hb hby at_19)
  obtain ⟨rfl, N3q, e3⟩ := hQ3
  have N3 := Fr.app N2 N3q
  obtain ⟨T4, h4, X4, e4, W4, V4, st4⟩ := own_astC X3 hx hZ e3 V2 (j := 1) (by decide) 1 rfl (Nat.le_of_ble_eq_true rfl) (g := (mkF m 22 #[vi p0, vi p1, vi p2, vi p3, vi p4, vr b1, .unset, .unset] [(.int (own_pick p1)), (.int 1), (.ref b1)])) rfl rfl (hb hby at_22)
  rw [show (nar .char (own_pick p1)) = (own_pick p1) from (own_c2c (own_picka p1) (own_pickb p1))] at V4
  have K4 := KL.ofW W4
  replace V4 : Arv Z h4 b1 k1 .char 5 [(.int (p0 &&& (255 : Int32))), (.int (own_pick p1)), z0, z0, z0] z0 := V4
  have N4 := Fr.snoc X4 N3 (Nat.le_trans Z0 (Nat.le_trans (Nat.le_refl _) ge_b1))
  have sz_0_3 := (Nat.le_trans sz_0_2 K4.1)
  obtain ⟨_, T5, L5, X5, hQ5, st5⟩ := own_static X4 hx hZ hown (w1 hw) (w2 hw) (w3 hw) (w4 hw) (by decide) (r_pick l Z a0 hw [] p2 h4 n0 (Nat.le_trans Z0 sz_0_3)) e4 (W := 2) (by decide) (g := (mkF m 27 #[vi p0, vi p1, vi p2, vi p3, vi p4, vr b1, .unset, .unset] [(.int p2), (.int 2), (.ref b1)])) rfl (by rw [hml]; rfl) (argsL := [(.int p2)]) (rest := [(.int 2), (.ref b1)]) (lenOf pd_2 rfl) rfl rfl (own_wr rfl rfl) (hb hby at_27)
  obtain ⟨rfl, N5q, e5⟩ := hQ5
  have N5 := Fr.app N4 N5q
  obtain ⟨T6, h6, X6, e6, W6, V6, st6⟩ := own_astC X5 hx hZ e5 V4 (j := 2) (by decide) 2 rfl (Nat.le_of_ble_eq_true rfl) (g := (mkF m 30 #[vi p0, vi p1, vi p2, vi p3, vi p4, vr b1, .unset, .unset] [(.int (own_pick p2)), (.int 2), (.ref b1)])) rfl rfl (hb hby at_30)
  rw [show (nar .char (own_pick p2)) = (own_pick p2) from (own_c2c (own_picka p2) (own_pickb p2))] at V6
  have K6 := KL.ofW W6
  replace V6 : Arv Z h6 b1 k1 .char 5 [(.int (p0 &&& (255 : Int32))), (.int (own_pick p1)), (.int (own_pick p2)), z0, z0] z0 := V6
  have N6 := Fr.snoc X6 N5 (Nat.le_trans Z0 (Nat.le_trans (Nat.le_refl _) ge_b1))
  have sz_0_4 := (Nat.le_trans sz_0_3 K6.1)
  obtain ⟨_, T7, L7, X7, hQ7, st7⟩ := own_static X6 hx hZ hown (w1 hw) (w2 hw) (w3 hw) (w4 hw) (by decide) (r_pick l Z a0 hw [] p3 h6 n0 (Nat.le_trans Z0 sz_0_4)) e6 (W := 2) (by decide) (g := (mkF m 35 #[vi p0, vi p1, vi p2, vi p3, vi p4, vr b1, .unset, .unset] [(.int p3), (.int 3), (.ref b1)])) rfl (by rw [hml]; rfl) (argsL := [(.int p3)]) (rest := [(.int 3), (.ref b1)]) (lenOf pd_2 rfl) rfl rfl (own_wr rfl rfl) (hb hby at_35)
  obtain ⟨rfl, N7q, e7⟩ := hQ7
  have N7 := Fr.app N6 N7q
  obtain ⟨T8, h8, X8, e8, W8, V8, st8⟩ := own_astC X7 hx hZ e7 V6 (j := 3) (by decide) 3 rfl (Nat.le_of_ble_eq_true rfl) (g := (mkF m 38 #[vi p0, vi p1, vi p2, vi p3, vi p4, vr b1, .unset, .unset] [(.int (own_pick p3)), (.int 3), (.ref b1)])) rfl rfl (hb hby at_38)
  rw [show (nar .char (own_pick p3)) = (own_pick p3) from (own_c2c (own_picka p3) (own_pickb p3))] at V8
  have K8 := KL.ofW W8
  replace V8 : Arv Z h8 b1 k1 .char 5 [(.int (p0 &&& (255 : Int32))), (.int (own_pick p1)), (.int (own_pick p2)), (.int (own_pick p3)), z0] z0 := V8
  have N8 := Fr.snoc X8 N7 (Nat.le_trans Z0 (Nat.le_trans (Nat.le_refl _) ge_b1))
  have sz_0_5 := (Nat.le_trans sz_0_4 K8.1)
  obtain ⟨_, T9, L9, X9, hQ9, st9⟩ := own_static X8 hx hZ hown (w1 hw) (w2 hw) (w3 hw) (w4 hw) (by decide) (r_pick l Z a0 hw [] p4 h8 n0 (Nat.le_trans Z0 sz_0_5)) e8 (W := 2) (by decide) (g := (mkF m 44 #[vi p0, vi p1, vi p2, vi p3, vi p4, vr b1, .unset, .unset] [(.int p4), (.int 4), (.ref b1)])) rfl (by rw [hml]; rfl) (argsL := [(.int p4)]) (rest := [(.int 4), (.ref b1)]) (lenOf pd_2 rfl) rfl rfl (own_wr rfl rfl) (hb hby at_44)
  obtain ⟨rfl, N9q, e9⟩ := hQ9
  have N9 := Fr.app N8 N9q
  obtain ⟨T10, h10, X10, e10, W10, V10, st10⟩ := own_astC X9 hx hZ e9 V8 (j := 4) (by decide) 4 rfl (Nat.le_of_ble_eq_true rfl) (g := (mkF m 47 #[vi p0, vi p1, vi p2, vi p3, vi p4, vr b1, .unset, .unset] [(.int (own_pick p4)), (.int 4), (.ref b1)])) rfl rfl (hb hby at_47)
  rw [show (nar .char (own_pick p4)) = (own_pick p4) from (own_c2c (own_picka p4) (own_pickb p4))] at V10
  have K10 := KL.ofW W10
  replace V10 : Arv Z h10 b1 k1 .char 5 [(.int (p0 &&& (255 : Int32))), (.int (own_pick p1)), (.int (own_pick p2)), (.int (own_pick p3)), (.int (own_pick p4))] z0 := V10
  have N10 := Fr.snoc X10 N9 (Nat.le_trans Z0 (Nat.le_trans (Nat.le_refl _) ge_b1))
  have sz_0_6 := (Nat.le_trans sz_0_5 K10.1)
  refine ⟨T10, _, some (.int 1), _, _, X10, hS0, (by rw [e10]; exact (Nat.le_trans hk0 sz_0_6)), (fun h => by cases h <;> rfl), ?_, fun fs hr => ?_⟩
  · show Q_law n0 _ _
    exact ⟨rfl, N10⟩
  · refine t_iconst 1 (r := 5) X0.here hx (hb hby at_0) (by decide) rfl ?_
    refine st1 _ ?_
    refine t_astore (pc' := 5) (L' := #[vi p0, vi p1, vi p2, vi p3, vi p4, vr b1, .unset, .unset]) X1.here hx (hb hby at_3) rfl rfl rfl ?_
    refine t_aload 7 X1.here hx (hb hby at_5) rfl rfl rfl ?_
    refine t_iconst 8 (r := 0) X1.here hx (hb hby at_7) (by decide) rfl ?_
    refine t_iloadN 9 X1.here hx (hb hby at_8) rfl rfl ?_
    refine t_sipush 12 (r := 255) X1.here hx (hb hby at_9) (by decide) rfl ?_
    refine t_iand 13 X1.here hx (hb hby at_12) rfl rfl ?_
    refine t_i2c 14 (r := (p0 &&& (255 : Int32))) X1.here hx (hb hby at_13) (i2c_mask _) rfl ?_
    refine st2 _ ?_
    refine t_aload 17 X2.here hx (hb hby at_15) rfl rfl rfl ?_
    refine t_iconst 18 (r := 1) X2.here hx (hb hby at_17) (by decide) rfl ?_
    refine t_iloadN 19 X2.here hx (hb hby at_18) rfl rfl ?_
    refine st3 _ ?_
    refine st4 _ ?_
    refine t_aload 25 X4.here hx (hb hby at_23) rfl rfl rfl ?_
    refine t_iconst 26 (r := 2) X4.here hx (hb hby at_25) (by decide) rfl ?_
    refine t_iloadN 27 X4.here hx (hb hby at_26) rfl rfl ?_
    refine st5 _ ?_
    refine st6 _ ?_
    refine t_aload 33 X6.here hx (hb hby at_31) rfl rfl rfl ?_
    refine t_iconst 34 (r := 3) X6.here hx (hb hby at_33) (by decide) rfl ?_
    refine t_iloadN 35 X6.here hx (hb hby at_34) rfl rfl ?_
    refine st7 _ ?_
    refine st8 _ ?_
    refine t_aload 41 X8.here hx (hb hby at_39) rfl rfl rfl ?_
    refine t_iconst 42 (r := 4) X8.here hx (hb hby at_41) (by decide) rfl ?_
    refine t_iload 44 X8.here hx (hb hby at_42) rfl rfl ?_
    refine st9 _ ?_
    refine st10 _ ?_
    refine t_iconst 49 (r := (-1 : Int32)) X10.here hx (hb hby at_48) (by decide) rfl ?_
    refine t_istore (pc' := 51) (L' := #[vi p0, vi p1, vi p2, vi p3, vi p4, vr b1, vi ((-1)), .unset]) X10.here hx (hb hby at_49) rfl rfl ?_
    refine t_aload 53 X10.here hx (hb hby at_51) rfl rfl rfl ?_
    refine t_iconst 54 (r := 0) X10.here hx (hb hby at_53) (by decide) rfl ?_
    refine own_aldC (pc' := 55) X10 hx hZ e10 V10 (j := 0) (v := (.int (p0 &&& (255 : Int32)))) (by decide) rfl (hb hby at_54) rfl ?_
    refine t_bipush 57 (r := 58) X10.here hx (hb hby at_55) (by decide) rfl ?_
    refine t_icmpYes (pc := 57) 66 X10.here hx (hb hby at_57) (feq hn0).2 (by decide) (by decide) ?_
    refine t_aload 68 X10.here hx (hb hby at_66) rfl rfl rfl ?_
    refine t_iconst 69 (r := 1) X10.here hx (hb hby at_68) (by decide) rfl ?_
    refine own_aldC (pc' := 70) X10 hx hZ e10 V10 (j := 1) (v := (.int (own_pick p1))) (by decide) rfl (hb hby at_69) rfl ?_
    refine t_bipush 72 (r := 58) X10.here hx (hb hby at_70) (by decide) rfl ?_
    refine t_icmpYes (pc := 72) 81 X10.here hx (hb hby at_72) (feq hn1).2 (by decide) (by decide) ?_
    refine t_aload 83 X10.here hx (hb hby at_81) rfl rfl rfl ?_
    refine t_iconst 84 (r := 2) X10.here hx (hb hby at_83) (by decide) rfl ?_
    refine own_aldC (pc' := 85) X10 hx hZ e10 V10 (j := 2) (v := (.int (own_pick p2))) (by decide) rfl (hb hby at_84) rfl ?_
    refine t_bipush 87 (r := 58) X10.here hx (hb hby at_85) (by decide) rfl ?_
    refine t_icmpYes (pc := 87) 96 X10.here hx (hb hby at_87) (feq hn2).2 (by decide) (by decide) ?_
    refine t_aload 98 X10.here hx (hb hby at_96) rfl rfl rfl ?_
    refine t_iconst 99 (r := 3) X10.here hx (hb hby at_98) (by decide) rfl ?_
    refine own_aldC (pc' := 100) X10 hx hZ e10 V10 (j := 3) (v := (.int (own_pick p3))) (by decide) rfl (hb hby at_99) rfl ?_
    refine t_bipush 102 (r := 58) X10.here hx (hb hby at_100) (by decide) rfl ?_
    refine t_icmpYes (pc := 102) 111 X10.here hx (hb hby at_102) (feq hn3).2 (by decide) (by decide) ?_
    refine t_aload 113 X10.here hx (hb hby at_111) rfl rfl rfl ?_
    refine t_iconst 114 (r := 4) X10.here hx (hb hby at_113) (by decide) rfl ?_
    refine own_aldC (pc' := 115) X10 hx hZ e10 V10 (j := 4) (v := (.int (own_pick p4))) (by decide) rfl (hb hby at_114) rfl ?_
    refine t_bipush 117 (r := 58) X10.here hx (hb hby at_115) (by decide) rfl ?_
    refine t_icmpYes (pc := 117) 123 X10.here hx (hb hby at_117) (feq hn4).2 (by decide) (by decide) ?_
    refine t_iload 125 X10.here hx (hb hby at_123) rfl rfl ?_
    refine t_ifYes (pc := 125) 134 X10.here hx (hb hby at_125) (by decide) (by decide) (by decide) ?_
    refine t_iconst 135 (r := 1) X10.here hx (hb hby at_134) (by decide) rfl ?_
    exact retN X10 hx (t := .boolean) hret (by simp) (hb hby at_135) hr
set_option maxRecDepth 65536 in
set_option maxHeartbeats 40000000 in
theorem rm_law (l : Launch) (Z : State) (a0 : Array Value) (hw : HW Z a0) (ws : List Jvm.Cond) (p0 p1 p2 p3 p4 : Int32) (h0 : Heap) (n0 : Nat) (Z0 : n0 ≤ h0.size) (cs : Int32) (fm : Value) (hcs : ¬ (cs = (0 : Int32))) (hfm : fm.isRef = true) (S_COMPACT_STRINGS : SCS Z cs) (O0 : Old Z n0 h0) (S_SIOOBE_FORMATTER : Sta Z Z.heap "jdk/internal/util/Preconditions" "SIOOBE_FORMATTER" "Ljava/util/function/BiFunction;" fm) :
    MetFree l x (head1 (Jvm.Cond.code x code maxLocals ret :: ws) room_1) (fun a U => a = #[(.int p0), (.int p1), (.int p2), (.int p3), (.int p4)] ∧ Z.Warmed39 U.vm ∧ U.heap = h0) (fun _ _ _ _ _ => True) (fun _ U o U' => ∃ v L, o = .returned v ∧ Q_law n0 v L ∧ ReturnedEndW U o U' L 32 2176) := by
  by_cases hn0 : (p0 &&& (255 : Int32)) = (58 : Int32)
  · have he0 := hn0
    exact law_0 l Z a0 hw ws p0 p1 p2 p3 p4 cs fm h0 n0 Z0 he0
  ·
    by_cases hn1 : (own_pick p1) = (58 : Int32)
    · have he1 := hn1
      exact law_1 l Z a0 hw ws p0 p1 p2 p3 p4 cs fm h0 n0 Z0 hn0 he1 hcs hfm S_COMPACT_STRINGS O0 S_SIOOBE_FORMATTER
    ·
      by_cases hn2 : (own_pick p2) = (58 : Int32)
      · have he2 := hn2
        exact law_2 l Z a0 hw ws p0 p1 p2 p3 p4 cs fm h0 n0 Z0 hn0 hn1 he2 hcs hfm S_COMPACT_STRINGS O0 S_SIOOBE_FORMATTER
      ·
        by_cases hn3 : (own_pick p3) = (58 : Int32)
        · have he3 := hn3
          exact law_3 l Z a0 hw ws p0 p1 p2 p3 p4 cs fm h0 n0 Z0 hn0 hn1 hn2 he3 hcs hfm S_COMPACT_STRINGS O0 S_SIOOBE_FORMATTER
        ·
          by_cases hn4 : (own_pick p4) = (58 : Int32)
          · have he4 := hn4
            exact law_4 l Z a0 hw ws p0 p1 p2 p3 p4 cs fm h0 n0 Z0 hn0 hn1 hn2 hn3 he4
          ·
            exact law_5 l Z a0 hw ws p0 p1 p2 p3 p4 cs fm h0 n0 Z0 hn0 hn1 hn2 hn3 hn4
set_option maxRecDepth 65536 in
set_option maxHeartbeats 40000000 in
theorem comes_1 {Post : Tables → Env → Array Value → State → Outcome → State → Prop} (hpost : ∀ tb e args s v u, (limb_1_1.after args s (.returned v) u = true ∧ limb_1_2.after args s (.returned v) u = true ∧ True) → ReturnedEndW s (.returned v) u (Jvm.fieldLocs frame_1_writes args s ++ Jvm.arrayLocs frame_1_arrays args s ++ Jvm.staticLocs frame_1_statics s) 32 2176 → Post tb e args s (.returned v) u) :
    ArmFor flags0 classFile x code maxLocals ret World_1 tables_1 room_1 Calls_1 rest_1 Pre_1 Post := by
  intro l hfl _ _ p e ha hc hk s m args below hf hA hF happ hP
  obtain ⟨hcalls, hrest, hpre⟩ := hP
  obtain ⟨-, -, -, hnamed, -, -, -, hat⟩ := (Spec.applies_iff hf).mp happ
  obtain ⟨hg, hn⟩ := and_e (Cond.before_iff.mp (show (Jvm.Cond.and given_1 narrow_1).before args s = true from hpre))
  obtain ⟨g1, g2⟩ := and_e hg
  obtain ⟨g3, g4⟩ := and_e g2
  obtain ⟨g5, g6⟩ := and_e g4
  obtain ⟨g7, g8⟩ := and_e g6
  obtain ⟨g9, g10⟩ := and_e g8
  obtain ⟨w0, w1, w2, w3, w4, rfl⟩ : ∃ w0 w1 w2 w3 w4 : Value, args = #[w0, w1, w2, w3, w4] := by
    have hs : args.size = 5 := by simpa [Cond.value, given_1] using g1
    obtain ⟨L⟩ := args
    match L, hs with
    | [w0, w1, w2, w3, w4], _ => exact ⟨w0, w1, w2, w3, w4, rfl⟩
  have hw := fun d (hd : d ∈ tables_1) => atoms_spec (ws := Jvm.Cond.code x code maxLocals ret :: tables_1) hat d (List.mem_cons_of_mem _ hd)
  have hfit : Fit s := fun {y c} hc i hi => by
    obtain ⟨ha, rfl⟩ := Array.getElem?_eq_some_iff.mp hc
    have q := List.all_eq_true.mp ((Array.all_eq_true_iff_forall_mem.mp hF) _ (Array.getElem_mem ha)) i (List.mem_range.mpr hi)
    simpa [Array.getElem?_eq_getElem hi] using q
  obtain ⟨hsets, hown0⟩ := atoms_of _ (rest_1_c_eq ▸ (show rest_1_c.before _ s = true from hrest))
  have hr0 := Cond.before_iff.mp hown0
  obtain ⟨i0, ei0⟩ := is_v g3
  obtain rfl : w0 = (.int i0) := Option.some.inj ei0
  obtain ⟨i1, ei1⟩ := is_v g5
  obtain rfl : w1 = (.int i1) := Option.some.inj ei1
  obtain ⟨i2, ei2⟩ := is_v g7
  obtain rfl : w2 = (.int i2) := Option.some.inj ei2
  obtain ⟨i3, ei3⟩ := is_v g9
  obtain rfl : w3 = (.int i3) := Option.some.inj ei3
  obtain ⟨i4, ei4⟩ := is_v g10
  obtain rfl : w4 = (.int i4) := Option.some.inj ei4
  obtain ⟨cs, ev_cs⟩ := is_v (Cond.before_iff.mp (hsets _ (List.mem_of_getElem? (i := 1) rfl)))
  have S_COMPACT_STRINGS := Sta.start ev_cs (Or.inl (hsets _ (List.mem_of_getElem? (i := 0) rfl)))
  have hcs : ¬ (cs = (0 : Int32)) := by
    have q := Cond.before_iff.mp (hsets _ (List.mem_of_getElem? (i := 2) rfl))
    simp only [Cond.value, ev_cs, Term.int_eval] at q
    simpa using q
  obtain ⟨fm, ev_fm, hfm⟩ := isR_v (Cond.before_iff.mp (hsets _ (List.mem_of_getElem? (i := 8) rfl)))
  have S_SIOOBE_FORMATTER := Sta.start ev_fm (Or.inl (hsets _ (List.mem_of_getElem? (i := 7) rfl)))
  obtain ⟨n, o, h1, h2, h3, _, L, rfl, ⟨rfl, N⟩, hq⟩ := rm_law l s _ hw tables_1 i0 i1 i2 i3 i4 s.heap s.heap.size (Nat.le_refl _) cs fm hcs hfm S_COMPACT_STRINGS (Old.start s) S_SIOOBE_FORMATTER p e ha hc hk s m _ below hf ((Spec.applies_iff_loose hf).mp happ).1 ⟨rfl, State.Warmed39.refl s, rfl⟩ trivial
  refine ⟨n, _, h1, h2, h3, hpost _ _ _ _ _ _ ⟨Cond.after_iff.mpr rfl, Cond.after_iff.mpr (eq_i res_at (Term.int_eval (1)) rfl), trivial⟩ ⟨hq.1, hq.2.1, hq.2.2.1, (hq.2.2.2.sift fun y hy => Or.inr (N y hy)).mono (by decide) (by decide)⟩⟩
theorem main_1_1 : Claimed_1_1 := comes_1 fun _ _ _ _ _ _ h hF => ⟨h.1, hF⟩
theorem main_1_2 : Claimed_1_2 := comes_1 fun _ _ _ _ _ _ h hF => ⟨h.2.1, hF⟩
end Jvm.Pilot.@@N@@
namespace Jvm.Pilot.@@N@@
open Jvm Jvm.ClassFile Sem Op Lib Jvm.Free Jvm.Stand Jvm.Pilot.@@N@@.Jvm.D
/-! MADE BY PROGRAM (witnessworld.py) out of the Statement's table words and the real class files: 25 classes; the members and pool entries that the words name. The judged class is class 1, her method 3. -/
namespace start1
open Jvm.ClassFile
def u (s : String) : CpInfo := .utf8 (stringToUtf16 s)
/-- a pool by its gaps: so many unusable entries, then the entry; so many at the end -/
def gap : Nat → List CpInfo → List CpInfo
  | 0, r => r
  | n + 1, r => .unusable :: gap n r
def poolList (es : List (Nat × CpInfo)) (last : Nat) : List CpInfo := es.foldr (fun e r => gap e.1 (e.2 :: r)) (gap last [])
def pool (es : List (Nat × CpInfo)) (last : Nat) : Array CpInfo := ⟨poolList es last⟩
def fileOf (pool : Array CpInfo) (this : Nat) (attrs : Array Attribute := #[]) (ms : Array MethodInfo := #[]) (fl : Nat := 33) (sup : Nat := 0) (ifs : Array Nat := #[]) (fds : Array FieldInfo := #[]) : ClassFile where
  minorVersion := 0
  majorVersion := 65
  constantPool := pool
  accessFlags := fl
  thisClass := this
  superClass := sup
  interfaces := ifs
  fields := fds
  methods := ms
  attributes := attrs
def plain (name : String) (sup : Option ClassId) : Class where
  name := name
  kind := .ordinary
  loader := none
  accessFlags := 33
  super := sup
  interfaces := #[]
  cf := none
  fields := #[]
  methods := #[]
  instanceTypes := #[]
  staticTypes := #[]
  resolved := #[]
  callSites := []
  init := .initialized
  statics := none
  mirror := none

def pool0 : Array CpInfo := pool [(5, u "<init>"), (0, u "()V"), (1, .class_ 10), (1, u "java/lang/Object")] 113

def k0c0 : Code := { maxStack := 0, maxLocals := 1, code := object_method_1_code, exceptionTable := #[], attributes := #[] }
def k0m0 : Method := { name := "<init>", desc := "()V", sig := { parameters := [], returnType := none }, accessFlags := 1, code := some k0c0 }
/-- java/lang/Object -/
def k0 : Class := { plain "java/lang/Object" none with
  accessFlags := 33
  interfaces := #[]
  cf := some (fileOf pool0 8 #[] #[{ accessFlags := 1, nameIndex := 5, descriptorIndex := 6, attributes := #[] }] 33 0 #[] #[])
  fields := #[]
  methods := #[k0m0]
  instanceTypes := #[]
  staticTypes := #[]
  resolved := Array.replicate 124 none
  statics := none }

def pool1 : Array CpInfo := pool [(2, .class_ 4), (1, u "java/lang/Object"), (0, u "<init>"), (0, u "()V"), (0, .methodref 8 9), (0, .class_ 10), (0, .nameAndType 11 12), (0, u "java/lang/String"), (0, u "length"), (0, u "()I"), (0, .methodref 8 14), (0, .nameAndType 15 16), (0, u "charAt"), (0, u "(I)C"), (0, .methodref 18 19), (0, .class_ 20), (0, .nameAndType 21 16), (0, u "com/example/keen_roster/keenroster/core/IdentifierParsePinLaw"), (0, u "pick"), (0, .methodref 8 23), (0, .nameAndType 5 24), (0, u "([C)V"), (0, .methodref 26 27), (0, .class_ 28), (0, .nameAndType 29 30), (0, u "com/example/keen_roster/keenroster/core/Identifier"), (0, u "parse"), (0, u "(Ljava/lang/String;)Lcom/example/keen_roster/keenroster/core/Identifier;"), (0, .methodref 26 32), (0, .nameAndType 33 34), (0, u "system"), (0, u "()Ljava/lang/String;"), (0, .methodref 18 36), (0, .nameAndType 37 38), (0, u "same"), (0, u "(Ljava/lang/String;[CII)Z"), (0, .methodref 26 40), (0, .nameAndType 41 34), (0, u "id"), (3, u "law"), (0, u "(IIIII)Z")] 4

def k1m0 : Method := { name := "<init>", desc := "()V", sig := { parameters := [], returnType := none }, accessFlags := 1, code := none }
def k1c1 : Code := { maxStack := 2, maxLocals := 2, code := method_2_code, exceptionTable := #[], attributes := #[] }
def k1m1 : Method := { name := "pick", desc := "(I)C", sig := { parameters := [.int], returnType := some .char }, accessFlags := 10, code := some k1c1 }
def k1c2 : Code := { maxStack := 4, maxLocals := 4, code := method_3_code, exceptionTable := #[], attributes := #[] }
def k1m2 : Method := { name := "same", desc := "(Ljava/lang/String;[CII)Z", sig := { parameters := [(.object "java/lang/String"), (.array .char), .int, .int], returnType := some .boolean }, accessFlags := 10, code := some k1c2 }
def k1c3 : Code := { maxStack := 5, maxLocals := 8, code := code, exceptionTable := #[], attributes := #[] }
def k1m3 : Method := { name := "law", desc := "(IIIII)Z", sig := { parameters := [.int, .int, .int, .int, .int], returnType := some .boolean }, accessFlags := 9, code := some k1c3 }
/-- com/example/keen_roster/keenroster/core/IdentifierParsePinLaw -/
def k1 : Class := { plain "com/example/keen_roster/keenroster/core/IdentifierParsePinLaw" (some 0) with
  accessFlags := 49
  interfaces := #[]
  cf := some (fileOf pool1 18 #[] #[{ accessFlags := 1, nameIndex := 5, descriptorIndex := 6, attributes := #[] }, { accessFlags := 10, nameIndex := 21, descriptorIndex := 16, attributes := #[] }, { accessFlags := 10, nameIndex := 37, descriptorIndex := 38, attributes := #[] }, { accessFlags := 9, nameIndex := 45, descriptorIndex := 46, attributes := #[] }] 49 2 #[] #[])
  fields := #[]
  methods := #[k1m0, k1m1, k1m2, k1m3]
  instanceTypes := #[]
  staticTypes := #[]
  resolved := Array.replicate 51 none
  statics := none }

def pool2 : Array CpInfo := pool [(1, .class_ 2), (0, u "java/io/Serializable"), (0, .class_ 4), (0, u "java/lang/Object")] 2

/-- java/io/Serializable -/
def k2 : Class := { plain "java/io/Serializable" (some 0) with
  accessFlags := 1537
  interfaces := #[]
  cf := some (fileOf pool2 1 #[] #[] 1537 3 #[] #[])
  fields := #[]
  methods := #[]
  instanceTypes := #[]
  staticTypes := #[]
  resolved := Array.replicate 7 none
  statics := none }

def pool3 : Array CpInfo := pool [(1, .class_ 2), (0, u "java/lang/Comparable"), (0, .class_ 4), (0, u "java/lang/Object")] 7

/-- java/lang/Comparable -/
def k3 : Class := { plain "java/lang/Comparable" (some 0) with
  accessFlags := 1537
  interfaces := #[]
  cf := some (fileOf pool3 1 #[] #[] 1537 3 #[] #[])
  fields := #[]
  methods := #[]
  instanceTypes := #[]
  staticTypes := #[]
  resolved := Array.replicate 12 none
  statics := none }

def pool4 : Array CpInfo := pool [(2, .class_ 4), (1, u "java/lang/CharSequence"), (42, .class_ 48), (0, u "java/lang/CharSequence$1CodePointIterator"), (10, .class_ 60), (0, u "java/lang/CharSequence$1CharIterator"), (5, .class_ 67), (0, u "java/lang/Object")] 63

/-- java/lang/CharSequence -/
def k4 : Class := { plain "java/lang/CharSequence" (some 0) with
  accessFlags := 1537
  interfaces := #[]
  cf := some (fileOf pool4 2 #[.nestMembers #[47, 59]] #[] 1537 66 #[] #[])
  fields := #[]
  methods := #[]
  instanceTypes := #[]
  staticTypes := #[]
  resolved := Array.replicate 131 none
  statics := none }

def pool5 : Array CpInfo := pool [(1, .class_ 2), (0, u "java/lang/constant/Constable"), (0, .class_ 4), (0, u "java/lang/Object")] 6

/-- java/lang/constant/Constable -/
def k5 : Class := { plain "java/lang/constant/Constable" (some 0) with
  accessFlags := 1537
  interfaces := #[]
  cf := some (fileOf pool5 1 #[] #[] 1537 3 #[] #[])
  fields := #[]
  methods := #[]
  instanceTypes := #[]
  staticTypes := #[]
  resolved := Array.replicate 11 none
  statics := none }

def pool6 : Array CpInfo := pool [(1, .class_ 2), (0, u "java/lang/constant/ConstantDesc"), (0, .class_ 4), (0, u "java/lang/Object")] 32

/-- java/lang/constant/ConstantDesc -/
def k6 : Class := { plain "java/lang/constant/ConstantDesc" (some 0) with
  accessFlags := 1537
  interfaces := #[]
  cf := some (fileOf pool6 1 #[] #[] 1537 3 #[] #[])
  fields := #[]
  methods := #[]
  instanceTypes := #[]
  staticTypes := #[]
  resolved := Array.replicate 37 none
  statics := none }

def pool7 : Array CpInfo := pool [(1, .methodref 2 3), (0, .class_ 4), (0, .nameAndType 5 6), (0, u "java/lang/Object"), (0, u "<init>"), (0, u "()V"), (2, .fieldref 10 11), (0, .class_ 12), (0, .nameAndType 13 14), (0, u "java/lang/String"), (0, u "value"), (0, u "[B"), (0, .fieldref 10 16), (0, .nameAndType 17 18), (0, u "coder"), (0, u "B"), (2, u "hash"), (0, u "I"), (2, u "hashIsZero"), (0, u "Z"), (0, .methodref 10 28), (0, .nameAndType 5 29), (0, u "([CIILjava/lang/Void;)V"), (8, .fieldref 10 39), (0, .nameAndType 40 26), (0, u "COMPACT_STRINGS"), (1, .class_ 44), (1, u "java/lang/StringUTF16"), (0, u "compress"), (1, .methodref 42 48), (0, .nameAndType 49 50), (0, u "coderFromArrayLen"), (0, u "([BI)B"), (56, .class_ 109), (1, u "java/lang/StringLatin1"), (32, u "()Z"), (34, .methodref 42 178), (0, .nameAndType 45 179), (0, u "([CII)[B"), (31, u "([BB)V"), (122, u "()I"), (0, .methodref 10 336), (0, .nameAndType 17 337), (0, u "()B"), (25, u "([BI)C"), (27, u "(II)V"), (35, u "(I)C"), (64, .methodref 10 493), (0, .nameAndType 494 142), (0, u "isLatin1"), (0, .methodref 107 496), (0, .nameAndType 497 363), (0, u "charAt"), (3, u "checkIndex"), (3, .methodref 10 506), (0, .nameAndType 507 334), (0, u "length"), (5, u "checkFromToIndex"), (7, .methodref 10 522), (0, .nameAndType 523 524), (0, u "checkBoundsBeginEnd"), (0, u "(III)V"), (50, .class_ 576), (0, u "java/lang/CharSequence"), (22, u "CASE_INSENSITIVE_ORDER"), (0, u "Ljava/util/Comparator;"), (32, .methodref 10 634), (0, .nameAndType 635 636), (0, u "indexOf"), (0, u "(II)I"), (0, .methodref 107 638), (0, .nameAndType 635 639), (0, u "([BIII)I"), (41, .methodref 10 682), (0, .nameAndType 683 684), (0, u "substring"), (0, u "(II)Ljava/lang/String;"), (0, .methodref 107 686), (0, .nameAndType 687 688), (0, u "newString"), (0, u "([BII)Ljava/lang/String;"), (3, u "isEmpty"), (72, u "(I)I"), (126, u "(I)Ljava/lang/String;"), (117, u "([C)V"), (42, .fieldref 1054 1055), (0, .class_ 1056), (0, .nameAndType 1057 1058), (0, u "jdk/internal/util/Preconditions"), (0, u "SIOOBE_FORMATTER"), (0, u "Ljava/util/function/BiFunction;"), (0, .methodref 1054 1060), (0, .nameAndType 501 1061), (0, u "(IILjava/util/function/BiFunction;)I"), (0, .methodref 1054 1063), (0, .nameAndType 513 1064), (0, u "(IIILjava/util/function/BiFunction;)I"), (36, u "serialPersistentFields"), (0, u "[Ljava/io/ObjectStreamField;"), (0, .class_ 1104), (0, u "java/lang/String$CaseInsensitiveComparator"), (1, .class_ 1107), (0, u "java/io/Serializable"), (0, .class_ 1109), (0, u "java/lang/Comparable"), (0, .class_ 1111), (0, u "java/lang/constant/Constable"), (0, .class_ 1113), (0, u "java/lang/constant/ConstantDesc"), (2, u "serialVersionUID"), (0, u "J"), (3, u "REPL"), (0, u "C"), (2, u "LATIN1"), (1, u "UTF16")] 323

def k7m0 : Method := { name := "<init>", desc := "()V", sig := { parameters := [], returnType := none }, accessFlags := 1, code := none }
def k7c1 : Code := { maxStack := 5, maxLocals := 2, code := jdk_42_method_3_code, exceptionTable := #[], attributes := #[] }
def k7m1 : Method := { name := "<init>", desc := "([C)V", sig := { parameters := [(.array .char)], returnType := none }, accessFlags := 1, code := some k7c1 }
def k7c2 : Code := { maxStack := 2, maxLocals := 1, code := jdk_42_method_54_code, exceptionTable := #[], attributes := #[] }
def k7m2 : Method := { name := "length", desc := "()I", sig := { parameters := [], returnType := some .int }, accessFlags := 1, code := some k7c2 }
def k7c3 : Code := { maxStack := 1, maxLocals := 1, code := jdk_42_method_55_code, exceptionTable := #[], attributes := #[] }
def k7m3 : Method := { name := "isEmpty", desc := "()Z", sig := { parameters := [], returnType := some .boolean }, accessFlags := 1, code := some k7c3 }
def k7c4 : Code := { maxStack := 2, maxLocals := 2, code := jdk_42_method_56_code, exceptionTable := #[], attributes := #[] }
def k7m4 : Method := { name := "charAt", desc := "(I)C", sig := { parameters := [.int], returnType := some .char }, accessFlags := 1, code := some k7c4 }
def k7c5 : Code := { maxStack := 3, maxLocals := 2, code := jdk_42_method_79_code, exceptionTable := #[], attributes := #[] }
def k7m5 : Method := { name := "indexOf", desc := "(I)I", sig := { parameters := [.int], returnType := some .int }, accessFlags := 1, code := some k7c5 }
def k7c6 : Code := { maxStack := 4, maxLocals := 3, code := jdk_42_method_80_code, exceptionTable := #[], attributes := #[] }
def k7m6 : Method := { name := "indexOf", desc := "(II)I", sig := { parameters := [.int, .int], returnType := some .int }, accessFlags := 1, code := some k7c6 }
def k7c7 : Code := { maxStack := 3, maxLocals := 2, code := jdk_42_method_91_code, exceptionTable := #[], attributes := #[] }
def k7m7 : Method := { name := "substring", desc := "(I)Ljava/lang/String;", sig := { parameters := [.int], returnType := some (.object "java/lang/String") }, accessFlags := 1, code := some k7c7 }
def k7c8 : Code := { maxStack := 3, maxLocals := 5, code := jdk_42_method_92_code, exceptionTable := #[], attributes := #[] }
def k7m8 : Method := { name := "substring", desc := "(II)Ljava/lang/String;", sig := { parameters := [.int, .int], returnType := some (.object "java/lang/String") }, accessFlags := 1, code := some k7c8 }
def k7c9 : Code := { maxStack := 4, maxLocals := 6, code := jdk_42_method_149_code, exceptionTable := #[], attributes := #[] }
def k7m9 : Method := { name := "<init>", desc := "([CIILjava/lang/Void;)V", sig := { parameters := [(.array .char), .int, .int, (.object "java/lang/Void")], returnType := none }, accessFlags := 2, code := some k7c9 }
def k7c10 : Code := { maxStack := 2, maxLocals := 3, code := jdk_42_method_151_code, exceptionTable := #[], attributes := #[] }
def k7m10 : Method := { name := "<init>", desc := "([BB)V", sig := { parameters := [(.array .byte), .byte], returnType := none }, accessFlags := 0, code := some k7c10 }
def k7c11 : Code := { maxStack := 1, maxLocals := 1, code := jdk_42_method_152_code, exceptionTable := #[], attributes := #[] }
def k7m11 : Method := { name := "coder", desc := "()B", sig := { parameters := [], returnType := some .byte }, accessFlags := 0, code := some k7c11 }
def k7c12 : Code := { maxStack := 1, maxLocals := 1, code := jdk_42_method_154_code, exceptionTable := #[], attributes := #[] }
def k7m12 : Method := { name := "isLatin1", desc := "()Z", sig := { parameters := [], returnType := some .boolean }, accessFlags := 0, code := some k7c12 }
def k7c13 : Code := { maxStack := 3, maxLocals := 2, code := jdk_42_method_155_code, exceptionTable := #[], attributes := #[] }
def k7m13 : Method := { name := "checkIndex", desc := "(II)V", sig := { parameters := [.int, .int], returnType := none }, accessFlags := 8, code := some k7c13 }
def k7c14 : Code := { maxStack := 4, maxLocals := 3, code := jdk_42_method_158_code, exceptionTable := #[], attributes := #[] }
def k7m14 : Method := { name := "checkBoundsBeginEnd", desc := "(III)V", sig := { parameters := [.int, .int, .int], returnType := none }, accessFlags := 8, code := some k7c14 }
/-- java/lang/String -/
def k7 : Class := { plain "java/lang/String" (some 0) with
  accessFlags := 49
  interfaces := #[2, 3, 4, 5, 6]
  cf := some (fileOf pool7 10 #[.nestMembers #[1103]] #[{ accessFlags := 1, nameIndex := 5, descriptorIndex := 6, attributes := #[] }, { accessFlags := 1, nameIndex := 5, descriptorIndex := 1010, attributes := #[] }, { accessFlags := 1, nameIndex := 507, descriptorIndex := 334, attributes := #[] }, { accessFlags := 1, nameIndex := 692, descriptorIndex := 142, attributes := #[] }, { accessFlags := 1, nameIndex := 497, descriptorIndex := 427, attributes := #[] }, { accessFlags := 1, nameIndex := 635, descriptorIndex := 765, attributes := #[] }, { accessFlags := 1, nameIndex := 635, descriptorIndex := 636, attributes := #[] }, { accessFlags := 1, nameIndex := 683, descriptorIndex := 892, attributes := #[] }, { accessFlags := 1, nameIndex := 683, descriptorIndex := 684, attributes := #[] }, { accessFlags := 2, nameIndex := 5, descriptorIndex := 29, attributes := #[] }, { accessFlags := 0, nameIndex := 5, descriptorIndex := 211, attributes := #[] }, { accessFlags := 0, nameIndex := 17, descriptorIndex := 337, attributes := #[] }, { accessFlags := 0, nameIndex := 494, descriptorIndex := 142, attributes := #[] }, { accessFlags := 8, nameIndex := 501, descriptorIndex := 391, attributes := #[] }, { accessFlags := 8, nameIndex := 523, descriptorIndex := 524, attributes := #[] }] 49 2 #[1106, 1108, 575, 1110, 1112] #[{ accessFlags := 18, nameIndex := 13, descriptorIndex := 14, attributes := #[] }, { accessFlags := 18, nameIndex := 17, descriptorIndex := 18, attributes := #[] }, { accessFlags := 2, nameIndex := 21, descriptorIndex := 22, attributes := #[] }, { accessFlags := 2, nameIndex := 25, descriptorIndex := 26, attributes := #[] }, { accessFlags := 26, nameIndex := 1116, descriptorIndex := 1117, attributes := #[] }, { accessFlags := 24, nameIndex := 40, descriptorIndex := 26, attributes := #[] }, { accessFlags := 26, nameIndex := 1101, descriptorIndex := 1102, attributes := #[] }, { accessFlags := 26, nameIndex := 1121, descriptorIndex := 1122, attributes := #[] }, { accessFlags := 25, nameIndex := 599, descriptorIndex := 600, attributes := #[] }, { accessFlags := 24, nameIndex := 1125, descriptorIndex := 18, attributes := #[] }, { accessFlags := 24, nameIndex := 1127, descriptorIndex := 18, attributes := #[] }])
  fields := #[{ name := "value", type := (.array .byte), accessFlags := 18, slot := 0, constantValue := 0 }, { name := "coder", type := .byte, accessFlags := 18, slot := 1, constantValue := 0 }, { name := "hash", type := .int, accessFlags := 2, slot := 2, constantValue := 0 }, { name := "hashIsZero", type := .boolean, accessFlags := 2, slot := 3, constantValue := 0 }, { name := "serialVersionUID", type := .long, accessFlags := 26, slot := 0, constantValue := 0 }, { name := "COMPACT_STRINGS", type := .boolean, accessFlags := 24, slot := 1, constantValue := 0 }, { name := "serialPersistentFields", type := (.array (.object "java/io/ObjectStreamField")), accessFlags := 26, slot := 2, constantValue := 0 }, { name := "REPL", type := .char, accessFlags := 26, slot := 3, constantValue := 0 }, { name := "CASE_INSENSITIVE_ORDER", type := (.object "java/util/Comparator"), accessFlags := 25, slot := 4, constantValue := 0 }, { name := "LATIN1", type := .byte, accessFlags := 24, slot := 5, constantValue := 0 }, { name := "UTF16", type := .byte, accessFlags := 24, slot := 6, constantValue := 0 }]
  methods := #[k7m0, k7m1, k7m2, k7m3, k7m4, k7m5, k7m6, k7m7, k7m8, k7m9, k7m10, k7m11, k7m12, k7m13, k7m14]
  instanceTypes := #[(.array .byte), .byte, .int, .boolean]
  staticTypes := #[.long, .boolean, (.array (.object "java/io/ObjectStreamField")), .char, (.object "java/util/Comparator"), .byte, .byte]
  resolved := Array.replicate 1451 none
  statics := some 0 }

def pool8 : Array CpInfo := pool [(6, .class_ 8), (1, u "java/lang/Object"), (0, u "<init>"), (0, u "()V"), (1, .class_ 14), (1, u "java/lang/StringUTF16"), (31, u "$assertionsDisabled"), (0, u "Z"), (13, u "HI_BYTE_SHIFT"), (0, u "I"), (2, u "LO_BYTE_SHIFT"), (49, .methodref 12 116), (0, .nameAndType 117 118), (0, u "compress"), (0, u "([CI[BII)I"), (3, u "([CII)[B"), (138, u "coderFromArrayLen"), (0, u "([BI)B"), (106, .class_ 371), (1, u "java/lang/StringUTF16$LinesSpliterator"), (58, u "MAX_LENGTH"), (196, .class_ 628), (0, u "java/lang/StringUTF16$CodePointsSpliterator"), (0, .class_ 630), (0, u "java/lang/StringUTF16$CharsSpliterator")] 4

def k8m0 : Method := { name := "<init>", desc := "()V", sig := { parameters := [], returnType := none }, accessFlags := 0, code := none }
def k8c1 : Code := { maxStack := 2, maxLocals := 2, code := jdk_52_method_15_code, exceptionTable := #[], attributes := #[] }
def k8m1 : Method := { name := "coderFromArrayLen", desc := "([BI)B", sig := { parameters := [(.array .byte), .int], returnType := some .byte }, accessFlags := 8, code := some k8c1 }
def k8c2 : Code := { maxStack := 5, maxLocals := 6, code := jdk_52_method_16_code, exceptionTable := #[], attributes := #[] }
def k8m2 : Method := { name := "compress", desc := "([CII)[B", sig := { parameters := [(.array .char), .int, .int], returnType := some (.array .byte) }, accessFlags := 9, code := some k8c2 }
def k8c3 : Code := { maxStack := 3, maxLocals := 7, code := jdk_52_method_21_code, exceptionTable := #[], attributes := #[] }
def k8m3 : Method := { name := "compress", desc := "([CI[BII)I", sig := { parameters := [(.array .char), .int, (.array .byte), .int, .int], returnType := some .int }, accessFlags := 9, code := some k8c3 }
/-- java/lang/StringUTF16 -/
def k8 : Class := { plain "java/lang/StringUTF16" (some 0) with
  accessFlags := 48
  interfaces := #[]
  cf := some (fileOf pool8 12 #[.nestMembers #[627, 629, 369]] #[{ accessFlags := 0, nameIndex := 9, descriptorIndex := 10, attributes := #[] }, { accessFlags := 8, nameIndex := 261, descriptorIndex := 262, attributes := #[] }, { accessFlags := 9, nameIndex := 117, descriptorIndex := 122, attributes := #[] }, { accessFlags := 9, nameIndex := 117, descriptorIndex := 118, attributes := #[] }] 48 6 #[] #[{ accessFlags := 26, nameIndex := 61, descriptorIndex := 62, attributes := #[] }, { accessFlags := 26, nameIndex := 65, descriptorIndex := 62, attributes := #[] }, { accessFlags := 24, nameIndex := 430, descriptorIndex := 62, attributes := #[] }, { accessFlags := 4120, nameIndex := 46, descriptorIndex := 47, attributes := #[] }])
  fields := #[{ name := "HI_BYTE_SHIFT", type := .int, accessFlags := 26, slot := 0, constantValue := 0 }, { name := "LO_BYTE_SHIFT", type := .int, accessFlags := 26, slot := 1, constantValue := 0 }, { name := "MAX_LENGTH", type := .int, accessFlags := 24, slot := 2, constantValue := 0 }, { name := "$assertionsDisabled", type := .boolean, accessFlags := 4120, slot := 3, constantValue := 0 }]
  methods := #[k8m0, k8m1, k8m2, k8m3]
  instanceTypes := #[]
  staticTypes := #[.int, .int, .int, .boolean]
  resolved := Array.replicate 635 none
  statics := none }

def pool9 : Array CpInfo := pool [(1, .methodref 2 3), (0, .class_ 4), (0, .nameAndType 5 6), (0, u "java/lang/Object"), (0, u "<init>"), (0, u "()V"), (0, .class_ 8), (0, u "java/lang/Record")] 13

def k9c0 : Code := { maxStack := 1, maxLocals := 1, code := jdk_30_method_1_code, exceptionTable := #[], attributes := #[] }
def k9m0 : Method := { name := "<init>", desc := "()V", sig := { parameters := [], returnType := none }, accessFlags := 4, code := some k9c0 }
/-- java/lang/Record -/
def k9 : Class := { plain "java/lang/Record" (some 0) with
  accessFlags := 1057
  interfaces := #[]
  cf := some (fileOf pool9 7 #[] #[{ accessFlags := 4, nameIndex := 5, descriptorIndex := 6, attributes := #[] }] 1057 2 #[] #[])
  fields := #[]
  methods := #[k9m0]
  instanceTypes := #[]
  staticTypes := #[]
  resolved := Array.replicate 22 none
  statics := none }

def pool10 : Array CpInfo := pool [(1, .methodref 2 3), (0, .class_ 4), (0, .nameAndType 5 6), (0, u "java/lang/Record"), (0, u "<init>"), (0, u "()V"), (0, .string 8), (0, u "system"), (0, .methodref 10 11), (0, .class_ 12), (0, .nameAndType 13 14), (0, u "java/util/Objects"), (0, u "requireNonNull"), (0, u "(Ljava/lang/Object;Ljava/lang/String;)Ljava/lang/Object;"), (0, .string 16), (0, u "id"), (0, .methodref 18 19), (0, .class_ 20), (0, .nameAndType 21 22), (0, u "java/lang/String"), (0, u "isEmpty"), (0, u "()Z"), (0, .methodref 18 24), (0, .nameAndType 25 26), (0, u "indexOf"), (0, u "(I)I"), (11, .fieldref 39 40), (0, .class_ 41), (0, .nameAndType 8 42), (0, u "com/example/keen_roster/keenroster/core/Identifier"), (0, u "Ljava/lang/String;"), (0, .fieldref 39 44), (0, .nameAndType 16 42), (1, .methodref 18 47), (0, .nameAndType 48 49), (0, u "substring"), (0, u "(II)Ljava/lang/String;"), (0, .methodref 18 51), (0, .nameAndType 48 52), (0, u "(I)Ljava/lang/String;"), (0, .methodref 39 54), (0, .nameAndType 5 55), (0, u "(Ljava/lang/String;Ljava/lang/String;)V"), (15, u "parse"), (0, u "(Ljava/lang/String;)Lcom/example/keen_roster/keenroster/core/Identifier;"), (1, u "()Ljava/lang/String;")] 35

def k10c0 : Code := { maxStack := 3, maxLocals := 3, code := prog_2_method_1_code, exceptionTable := #[], attributes := #[] }
def k10m0 : Method := { name := "<init>", desc := "(Ljava/lang/String;Ljava/lang/String;)V", sig := { parameters := [(.object "java/lang/String"), (.object "java/lang/String")], returnType := none }, accessFlags := 1, code := some k10c0 }
def k10c1 : Code := { maxStack := 6, maxLocals := 2, code := prog_2_method_2_code, exceptionTable := #[], attributes := #[] }
def k10m1 : Method := { name := "parse", desc := "(Ljava/lang/String;)Lcom/example/keen_roster/keenroster/core/Identifier;", sig := { parameters := [(.object "java/lang/String")], returnType := some (.object "com/example/keen_roster/keenroster/core/Identifier") }, accessFlags := 9, code := some k10c1 }
def k10c2 : Code := { maxStack := 1, maxLocals := 1, code := prog_2_method_6_code, exceptionTable := #[], attributes := #[] }
def k10m2 : Method := { name := "system", desc := "()Ljava/lang/String;", sig := { parameters := [], returnType := some (.object "java/lang/String") }, accessFlags := 1, code := some k10c2 }
def k10c3 : Code := { maxStack := 1, maxLocals := 1, code := prog_2_method_7_code, exceptionTable := #[], attributes := #[] }
def k10m3 : Method := { name := "id", desc := "()Ljava/lang/String;", sig := { parameters := [], returnType := some (.object "java/lang/String") }, accessFlags := 1, code := some k10c3 }
/-- com/example/keen_roster/keenroster/core/Identifier -/
def k10 : Class := { plain "com/example/keen_roster/keenroster/core/Identifier" (some 9) with
  accessFlags := 49
  interfaces := #[]
  cf := some (fileOf pool10 39 #[] #[{ accessFlags := 1, nameIndex := 5, descriptorIndex := 55, attributes := #[] }, { accessFlags := 9, nameIndex := 71, descriptorIndex := 72, attributes := #[] }, { accessFlags := 1, nameIndex := 8, descriptorIndex := 74, attributes := #[] }, { accessFlags := 1, nameIndex := 16, descriptorIndex := 74, attributes := #[] }] 49 2 #[] #[{ accessFlags := 18, nameIndex := 8, descriptorIndex := 42, attributes := #[] }, { accessFlags := 18, nameIndex := 16, descriptorIndex := 42, attributes := #[] }])
  fields := #[{ name := "system", type := (.object "java/lang/String"), accessFlags := 18, slot := 0, constantValue := 0 }, { name := "id", type := (.object "java/lang/String"), accessFlags := 18, slot := 1, constantValue := 0 }]
  methods := #[k10m0, k10m1, k10m2, k10m3]
  instanceTypes := #[(.object "java/lang/String"), (.object "java/lang/String")]
  staticTypes := #[]
  resolved := Array.replicate 110 none
  statics := none }

def pool11 : Array CpInfo := pool [(1, .class_ 2), (0, u "java/lang/String"), (1, .class_ 6), (1, u "java/lang/Object"), (0, u "<init>"), (0, u "()V"), (0, .methodref 1 10), (0, .nameAndType 11 12), (0, u "checkIndex"), (0, u "(II)V"), (1, .class_ 16), (1, u "java/lang/StringLatin1"), (21, .methodref 39 40), (0, .class_ 41), (0, .nameAndType 42 43), (0, u "java/lang/Math"), (0, u "min"), (0, u "(II)I"), (9, u "([BI)C"), (34, .methodref 14 89), (0, .nameAndType 90 91), (0, u "canEncode"), (0, u "(I)Z"), (0, .methodref 39 93), (0, .nameAndType 94 43), (0, u "max"), (0, .methodref 14 96), (0, .nameAndType 97 98), (0, u "indexOfChar"), (0, u "([BIII)I"), (2, u "indexOf"), (10, .methodref 1 113), (0, .nameAndType 7 114), (0, u "([BB)V"), (6, u "$assertionsDisabled"), (0, u "Z"), (8, .class_ 133), (1, u "java/util/Arrays"), (62, u "newString"), (0, u "([BII)Ljava/lang/String;"), (23, .class_ 223), (1, u "java/lang/StringLatin1$LinesSpliterator"), (8, .methodref 131 233), (0, .nameAndType 234 235), (0, u "copyOfRange"), (0, u "([BII)[B"), (16, u "charAt"), (137, .class_ 391), (0, u "java/lang/StringLatin1$CharsSpliterator")] 3

def k11m0 : Method := { name := "<init>", desc := "()V", sig := { parameters := [], returnType := none }, accessFlags := 0, code := none }
def k11c1 : Code := { maxStack := 2, maxLocals := 2, code := jdk_43_method_2_code, exceptionTable := #[], attributes := #[] }
def k11m1 : Method := { name := "charAt", desc := "([BI)C", sig := { parameters := [(.array .byte), .int], returnType := some .char }, accessFlags := 9, code := some k11c1 }
def k11c2 : Code := { maxStack := 2, maxLocals := 1, code := jdk_43_method_4_code, exceptionTable := #[], attributes := #[] }
def k11m2 : Method := { name := "canEncode", desc := "(I)Z", sig := { parameters := [.int], returnType := some .boolean }, accessFlags := 9, code := some k11c2 }
def k11c3 : Code := { maxStack := 4, maxLocals := 4, code := jdk_43_method_22_code, exceptionTable := #[], attributes := #[] }
def k11m3 : Method := { name := "indexOf", desc := "([BIII)I", sig := { parameters := [(.array .byte), .int, .int, .int], returnType := some .int }, accessFlags := 9, code := some k11c3 }
def k11c4 : Code := { maxStack := 2, maxLocals := 6, code := jdk_43_method_23_code, exceptionTable := #[], attributes := #[] }
def k11m4 : Method := { name := "indexOfChar", desc := "([BIII)I", sig := { parameters := [(.array .byte), .int, .int, .int], returnType := some .int }, accessFlags := 10, code := some k11c4 }
def k11c5 : Code := { maxStack := 6, maxLocals := 3, code := jdk_43_method_47_code, exceptionTable := #[], attributes := #[] }
def k11m5 : Method := { name := "newString", desc := "([BII)Ljava/lang/String;", sig := { parameters := [(.array .byte), .int, .int], returnType := some (.object "java/lang/String") }, accessFlags := 9, code := some k11c5 }
/-- java/lang/StringLatin1 -/
def k11 : Class := { plain "java/lang/StringLatin1" (some 0) with
  accessFlags := 48
  interfaces := #[]
  cf := some (fileOf pool11 14 #[.nestMembers #[390, 221]] #[{ accessFlags := 0, nameIndex := 7, descriptorIndex := 8, attributes := #[] }, { accessFlags := 9, nameIndex := 252, descriptorIndex := 53, attributes := #[] }, { accessFlags := 9, nameIndex := 90, descriptorIndex := 91, attributes := #[] }, { accessFlags := 9, nameIndex := 101, descriptorIndex := 98, attributes := #[] }, { accessFlags := 10, nameIndex := 97, descriptorIndex := 98, attributes := #[] }, { accessFlags := 9, nameIndex := 196, descriptorIndex := 197, attributes := #[] }] 48 4 #[] #[{ accessFlags := 4120, nameIndex := 121, descriptorIndex := 122, attributes := #[] }])
  fields := #[{ name := "$assertionsDisabled", type := .boolean, accessFlags := 4120, slot := 0, constantValue := 0 }]
  methods := #[k11m0, k11m1, k11m2, k11m3, k11m4, k11m5]
  instanceTypes := #[]
  staticTypes := #[.boolean]
  resolved := Array.replicate 395 none
  statics := none }

def pool12 : Array CpInfo := pool [(1, .class_ 2), (0, u "java/lang/Math"), (1, .class_ 6), (1, u "java/lang/Object"), (0, u "<init>"), (0, u "()V"), (89, .class_ 100), (1, u "java/lang/Math$RandomNumberGeneratorHolder"), (71, u "negativeZeroFloatBits"), (0, u "J"), (2, u "negativeZeroDoubleBits"), (21, u "max"), (2, u "min"), (43, u "$assertionsDisabled"), (0, u "Z"), (88, u "(II)I"), (2, u "twoToTheDoubleScaleDown"), (0, u "D"), (4, u "twoToTheDoubleScaleUp"), (9, u "E"), (3, u "PI"), (2, u "TAU"), (2, u "DEGREES_TO_RADIANS"), (0, u "RADIANS_TO_DEGREES")] 94

def k12m0 : Method := { name := "<init>", desc := "()V", sig := { parameters := [], returnType := none }, accessFlags := 2, code := none }
def k12c1 : Code := { maxStack := 2, maxLocals := 2, code := jdk_29_method_65_code, exceptionTable := #[], attributes := #[] }
def k12m1 : Method := { name := "max", desc := "(II)I", sig := { parameters := [.int, .int], returnType := some .int }, accessFlags := 9, code := some k12c1 }
def k12c2 : Code := { maxStack := 2, maxLocals := 2, code := jdk_29_method_69_code, exceptionTable := #[], attributes := #[] }
def k12m2 : Method := { name := "min", desc := "(II)I", sig := { parameters := [.int, .int], returnType := some .int }, accessFlags := 9, code := some k12c2 }
/-- java/lang/Math -/
def k12 : Class := { plain "java/lang/Math" (some 0) with
  accessFlags := 49
  interfaces := #[]
  cf := some (fileOf pool12 1 #[.nestMembers #[98]] #[{ accessFlags := 2, nameIndex := 7, descriptorIndex := 8, attributes := #[] }, { accessFlags := 9, nameIndex := 198, descriptorIndex := 335, attributes := #[] }, { accessFlags := 9, nameIndex := 201, descriptorIndex := 335, attributes := #[] }] 49 4 #[] #[{ accessFlags := 25, nameIndex := 354, descriptorIndex := 339, attributes := #[] }, { accessFlags := 25, nameIndex := 358, descriptorIndex := 339, attributes := #[] }, { accessFlags := 25, nameIndex := 361, descriptorIndex := 339, attributes := #[] }, { accessFlags := 26, nameIndex := 364, descriptorIndex := 339, attributes := #[] }, { accessFlags := 26, nameIndex := 365, descriptorIndex := 339, attributes := #[] }, { accessFlags := 26, nameIndex := 172, descriptorIndex := 173, attributes := #[] }, { accessFlags := 26, nameIndex := 176, descriptorIndex := 173, attributes := #[] }, { accessFlags := 8, nameIndex := 344, descriptorIndex := 339, attributes := #[] }, { accessFlags := 8, nameIndex := 338, descriptorIndex := 339, attributes := #[] }, { accessFlags := 4120, nameIndex := 245, descriptorIndex := 246, attributes := #[] }])
  fields := #[{ name := "E", type := .double, accessFlags := 25, slot := 0, constantValue := 0 }, { name := "PI", type := .double, accessFlags := 25, slot := 1, constantValue := 0 }, { name := "TAU", type := .double, accessFlags := 25, slot := 2, constantValue := 0 }, { name := "DEGREES_TO_RADIANS", type := .double, accessFlags := 26, slot := 3, constantValue := 0 }, { name := "RADIANS_TO_DEGREES", type := .double, accessFlags := 26, slot := 4, constantValue := 0 }, { name := "negativeZeroFloatBits", type := .long, accessFlags := 26, slot := 5, constantValue := 0 }, { name := "negativeZeroDoubleBits", type := .long, accessFlags := 26, slot := 6, constantValue := 0 }, { name := "twoToTheDoubleScaleUp", type := .double, accessFlags := 8, slot := 7, constantValue := 0 }, { name := "twoToTheDoubleScaleDown", type := .double, accessFlags := 8, slot := 8, constantValue := 0 }, { name := "$assertionsDisabled", type := .boolean, accessFlags := 4120, slot := 9, constantValue := 0 }]
  methods := #[k12m0, k12m1, k12m2]
  instanceTypes := #[]
  staticTypes := #[.double, .double, .double, .double, .double, .long, .long, .double, .double, .boolean]
  resolved := Array.replicate 460 none
  statics := none }

def pool13 : Array CpInfo := pool [(2, .class_ 4), (1, u "java/lang/Object"), (0, u "<init>"), (0, u "()V"), (17, .class_ 26), (1, u "jdk/internal/util/Preconditions"), (6, u "checkIndex"), (13, u "checkFromToIndex"), (7, .class_ 56), (0, u "jdk/internal/util/Preconditions$4"), (57, .class_ 115), (0, u "jdk/internal/util/Preconditions$1"), (7, u "SIOOBE_FORMATTER"), (0, u "Ljava/util/function/BiFunction;"), (0, .class_ 126), (0, u "jdk/internal/util/Preconditions$2"), (3, u "AIOOBE_FORMATTER"), (0, .class_ 132), (0, u "jdk/internal/util/Preconditions$3"), (3, u "IOOBE_FORMATTER"), (41, u "(IILjava/util/function/BiFunction;)I"), (4, u "(IIILjava/util/function/BiFunction;)I")] 10

def k13m0 : Method := { name := "<init>", desc := "()V", sig := { parameters := [], returnType := none }, accessFlags := 1, code := none }
def k13c1 : Code := { maxStack := 3, maxLocals := 3, code := jdk_41_method_11_code, exceptionTable := #[], attributes := #[] }
def k13m1 : Method := { name := "checkIndex", desc := "(IILjava/util/function/BiFunction;)I", sig := { parameters := [.int, .int, (.object "java/util/function/BiFunction")], returnType := some .int }, accessFlags := 9, code := some k13c1 }
def k13c2 : Code := { maxStack := 4, maxLocals := 4, code := jdk_41_method_12_code, exceptionTable := #[], attributes := #[] }
def k13m2 : Method := { name := "checkFromToIndex", desc := "(IIILjava/util/function/BiFunction;)I", sig := { parameters := [.int, .int, .int, (.object "java/util/function/BiFunction")], returnType := some .int }, accessFlags := 9, code := some k13c2 }
/-- jdk/internal/util/Preconditions -/
def k13 : Class := { plain "jdk/internal/util/Preconditions" (some 0) with
  accessFlags := 33
  interfaces := #[]
  cf := some (fileOf pool13 24 #[.nestMembers #[55, 131, 125, 114]] #[{ accessFlags := 1, nameIndex := 5, descriptorIndex := 6, attributes := #[] }, { accessFlags := 9, nameIndex := 33, descriptorIndex := 178, attributes := #[] }, { accessFlags := 9, nameIndex := 47, descriptorIndex := 183, attributes := #[] }] 33 2 #[] #[{ accessFlags := 25, nameIndex := 123, descriptorIndex := 124, attributes := #[] }, { accessFlags := 25, nameIndex := 130, descriptorIndex := 124, attributes := #[] }, { accessFlags := 25, nameIndex := 136, descriptorIndex := 124, attributes := #[] }])
  fields := #[{ name := "SIOOBE_FORMATTER", type := (.object "java/util/function/BiFunction"), accessFlags := 25, slot := 0, constantValue := 0 }, { name := "AIOOBE_FORMATTER", type := (.object "java/util/function/BiFunction"), accessFlags := 25, slot := 1, constantValue := 0 }, { name := "IOOBE_FORMATTER", type := (.object "java/util/function/BiFunction"), accessFlags := 25, slot := 2, constantValue := 0 }]
  methods := #[k13m0, k13m1, k13m2]
  instanceTypes := #[]
  staticTypes := #[(.object "java/util/function/BiFunction"), (.object "java/util/function/BiFunction"), (.object "java/util/function/BiFunction")]
  resolved := Array.replicate 194 none
  statics := some 1 }

def pool14 : Array CpInfo := pool [(2, .class_ 4), (1, u "java/lang/Object"), (0, u "<init>"), (0, u "()V"), (7, .class_ 16), (1, u "java/util/Arrays"), (57, .class_ 76), (1, u "java/util/Arrays$NaturalOrder"), (36, .class_ 115), (1, u "java/util/Arrays$LegacyMergeSort"), (1, u "Z"), (21, u "copyOfRange"), (10, .methodref 151 152), (0, .class_ 153), (0, .nameAndType 154 155), (0, u "java/lang/System"), (0, u "arraycopy"), (0, u "(Ljava/lang/Object;ILjava/lang/Object;II)V"), (148, .methodref 305 306), (0, .class_ 307), (0, .nameAndType 308 309), (0, u "java/lang/Math"), (0, u "min"), (0, u "(II)I"), (29, .methodref 14 340), (0, .nameAndType 341 342), (0, u "copyOfRangeByte"), (0, u "([BII)[B"), (0, .methodref 14 344), (0, .nameAndType 345 346), (0, u "checkLength"), (0, u "(II)V"), (28, .class_ 376), (0, u "java/util/Arrays$ArrayList"), (68, u "$assertionsDisabled"), (269, u "MIN_ARRAY_SORT_GRAN"), (0, u "I"), (2, u "INSERTIONSORT_THRESHOLD"), (255, .class_ 976), (0, u "java/util/Arrays$ArrayItr")] 52

def k14m0 : Method := { name := "<init>", desc := "()V", sig := { parameters := [], returnType := none }, accessFlags := 2, code := none }
def k14c1 : Code := { maxStack := 4, maxLocals := 2, code := jdk_65_method_131_code, exceptionTable := #[], attributes := #[] }
def k14m1 : Method := { name := "checkLength", desc := "(II)V", sig := { parameters := [.int, .int], returnType := none }, accessFlags := 10, code := some k14c1 }
def k14c2 : Code := { maxStack := 3, maxLocals := 3, code := jdk_65_method_132_code, exceptionTable := #[], attributes := #[] }
def k14m2 : Method := { name := "copyOfRange", desc := "([BII)[B", sig := { parameters := [(.array .byte), .int, .int], returnType := some (.array .byte) }, accessFlags := 9, code := some k14c2 }
def k14c3 : Code := { maxStack := 6, maxLocals := 5, code := jdk_65_method_133_code, exceptionTable := #[], attributes := #[] }
def k14m3 : Method := { name := "copyOfRangeByte", desc := "([BII)[B", sig := { parameters := [(.array .byte), .int, .int], returnType := some (.array .byte) }, accessFlags := 10, code := some k14c3 }
/-- java/util/Arrays -/
def k14 : Class := { plain "java/util/Arrays" (some 0) with
  accessFlags := 49
  interfaces := #[]
  cf := some (fileOf pool14 14 #[.nestMembers #[975, 375, 113, 74]] #[{ accessFlags := 2, nameIndex := 5, descriptorIndex := 6, attributes := #[] }, { accessFlags := 10, nameIndex := 345, descriptorIndex := 346, attributes := #[] }, { accessFlags := 9, nameIndex := 139, descriptorIndex := 342, attributes := #[] }, { accessFlags := 10, nameIndex := 341, descriptorIndex := 342, attributes := #[] }] 49 2 #[] #[{ accessFlags := 26, nameIndex := 715, descriptorIndex := 716, attributes := #[] }, { accessFlags := 26, nameIndex := 719, descriptorIndex := 716, attributes := #[] }, { accessFlags := 4120, nameIndex := 445, descriptorIndex := 117, attributes := #[] }])
  fields := #[{ name := "MIN_ARRAY_SORT_GRAN", type := .int, accessFlags := 26, slot := 0, constantValue := 0 }, { name := "INSERTIONSORT_THRESHOLD", type := .int, accessFlags := 26, slot := 1, constantValue := 0 }, { name := "$assertionsDisabled", type := .boolean, accessFlags := 4120, slot := 2, constantValue := 0 }]
  methods := #[k14m0, k14m1, k14m2, k14m3]
  instanceTypes := #[]
  staticTypes := #[.int, .int, .boolean]
  resolved := Array.replicate 1029 none
  statics := none }

def pool15 : Array CpInfo := pool [(2, .class_ 4), (1, u "java/lang/Object"), (0, u "<init>"), (0, u "()V"), (1, .class_ 10), (1, u "java/lang/System"), (0, u "allowSecurityManager"), (0, u "I"), (16, u "cons"), (0, u "Ljava/io/Console;"), (77, .class_ 110), (1, u "java/lang/System$CallersHolder"), (43, u "initialErrStream"), (0, u "Ljava/io/PrintStream;"), (19, u "security"), (0, u "Ljava/lang/SecurityManager;"), (31, .class_ 209), (0, u "java/lang/System$1"), (7, u "props"), (0, u "Ljava/util/Properties;"), (2, u "lineSeparator"), (0, u "Ljava/lang/String;"), (96, .class_ 321), (1, u "java/lang/System$LoggerFinder"), (5, .class_ 328), (0, u "java/lang/System$Logger"), (67, u "err"), (2, u "out"), (91, u "notSupportedJnuEncoding"), (15, u "in"), (17, u "initialIn"), (0, u "Ljava/io/InputStream;"), (35, u "bootLayer"), (0, u "Ljava/lang/ModuleLayer;"), (99, .class_ 664), (0, u "java/lang/System$2"), (9, u "NEVER"), (2, u "MAYBE"), (49, u "arraycopy"), (0, u "(Ljava/lang/Object;ILjava/lang/Object;II)V"), (72, .class_ 802), (0, u "java/lang/System$Logger$Level")] 31

def k15m0 : Method := { name := "<init>", desc := "()V", sig := { parameters := [], returnType := none }, accessFlags := 2, code := none }
def k15m1 : Method := { name := "arraycopy", desc := "(Ljava/lang/Object;ILjava/lang/Object;II)V", sig := { parameters := [(.object "java/lang/Object"), .int, (.object "java/lang/Object"), .int, .int], returnType := none }, accessFlags := 265, code := none }
/-- java/lang/System -/
def k15 : Class := { plain "java/lang/System" (some 0) with
  accessFlags := 49
  interfaces := #[]
  cf := some (fileOf pool15 8 #[.nestMembers #[319, 327, 801, 108, 663, 208]] #[{ accessFlags := 2, nameIndex := 5, descriptorIndex := 6, attributes := #[] }, { accessFlags := 265, nameIndex := 727, descriptorIndex := 728, attributes := #[] }] 49 2 #[] #[{ accessFlags := 25, nameIndex := 507, descriptorIndex := 526, attributes := #[] }, { accessFlags := 25, nameIndex := 399, descriptorIndex := 155, attributes := #[] }, { accessFlags := 25, nameIndex := 396, descriptorIndex := 155, attributes := #[] }, { accessFlags := 10, nameIndex := 525, descriptorIndex := 526, attributes := #[] }, { accessFlags := 26, nameIndex := 674, descriptorIndex := 12, attributes := #[] }, { accessFlags := 26, nameIndex := 677, descriptorIndex := 12, attributes := #[] }, { accessFlags := 10, nameIndex := 11, descriptorIndex := 12, attributes := #[] }, { accessFlags := 74, nameIndex := 175, descriptorIndex := 176, attributes := #[] }, { accessFlags := 10, nameIndex := 491, descriptorIndex := 222, attributes := #[] }, { accessFlags := 74, nameIndex := 29, descriptorIndex := 30, attributes := #[] }, { accessFlags := 74, nameIndex := 154, descriptorIndex := 155, attributes := #[] }, { accessFlags := 10, nameIndex := 217, descriptorIndex := 218, attributes := #[] }, { accessFlags := 10, nameIndex := 221, descriptorIndex := 222, attributes := #[] }, { accessFlags := 8, nameIndex := 562, descriptorIndex := 563, attributes := #[] }])
  fields := #[{ name := "in", type := (.object "java/io/InputStream"), accessFlags := 25, slot := 0, constantValue := 0 }, { name := "out", type := (.object "java/io/PrintStream"), accessFlags := 25, slot := 1, constantValue := 0 }, { name := "err", type := (.object "java/io/PrintStream"), accessFlags := 25, slot := 2, constantValue := 0 }, { name := "initialIn", type := (.object "java/io/InputStream"), accessFlags := 10, slot := 3, constantValue := 0 }, { name := "NEVER", type := .int, accessFlags := 26, slot := 4, constantValue := 0 }, { name := "MAYBE", type := .int, accessFlags := 26, slot := 5, constantValue := 0 }, { name := "allowSecurityManager", type := .int, accessFlags := 10, slot := 6, constantValue := 0 }, { name := "security", type := (.object "java/lang/SecurityManager"), accessFlags := 74, slot := 7, constantValue := 0 }, { name := "notSupportedJnuEncoding", type := (.object "java/lang/String"), accessFlags := 10, slot := 8, constantValue := 0 }, { name := "cons", type := (.object "java/io/Console"), accessFlags := 74, slot := 9, constantValue := 0 }, { name := "initialErrStream", type := (.object "java/io/PrintStream"), accessFlags := 74, slot := 10, constantValue := 0 }, { name := "props", type := (.object "java/util/Properties"), accessFlags := 10, slot := 11, constantValue := 0 }, { name := "lineSeparator", type := (.object "java/lang/String"), accessFlags := 10, slot := 12, constantValue := 0 }, { name := "bootLayer", type := (.object "java/lang/ModuleLayer"), accessFlags := 8, slot := 13, constantValue := 0 }]
  methods := #[k15m0, k15m1]
  instanceTypes := #[]
  staticTypes := #[(.object "java/io/InputStream"), (.object "java/io/PrintStream"), (.object "java/io/PrintStream"), (.object "java/io/InputStream"), .int, .int, .int, (.object "java/lang/SecurityManager"), (.object "java/lang/String"), (.object "java/io/Console"), (.object "java/io/PrintStream"), (.object "java/util/Properties"), (.object "java/lang/String"), (.object "java/lang/ModuleLayer")]
  resolved := Array.replicate 834 none
  statics := none }

def pool16 : Array CpInfo := pool [(2, .class_ 4), (1, u "java/lang/Object"), (0, u "<init>"), (0, u "()V"), (35, .class_ 44), (1, u "java/util/Objects"), (0, u "requireNonNull"), (48, u "(Ljava/lang/Object;Ljava/lang/String;)Ljava/lang/Object;")] 89

def k16m0 : Method := { name := "<init>", desc := "()V", sig := { parameters := [], returnType := none }, accessFlags := 2, code := none }
def k16c1 : Code := { maxStack := 3, maxLocals := 2, code := jdk_31_method_11_code, exceptionTable := #[], attributes := #[] }
def k16m1 : Method := { name := "requireNonNull", desc := "(Ljava/lang/Object;Ljava/lang/String;)Ljava/lang/Object;", sig := { parameters := [(.object "java/lang/Object"), (.object "java/lang/String")], returnType := some (.object "java/lang/Object") }, accessFlags := 9, code := some k16c1 }
/-- java/util/Objects -/
def k16 : Class := { plain "java/util/Objects" (some 0) with
  accessFlags := 49
  interfaces := #[]
  cf := some (fileOf pool16 42 #[] #[{ accessFlags := 2, nameIndex := 5, descriptorIndex := 6, attributes := #[] }, { accessFlags := 9, nameIndex := 45, descriptorIndex := 94, attributes := #[] }] 49 2 #[] #[])
  fields := #[]
  methods := #[k16m0, k16m1]
  instanceTypes := #[]
  staticTypes := #[]
  resolved := Array.replicate 184 none
  statics := none }

def pool17 : Array CpInfo := pool [(9, u "<init>"), (6, .class_ 18), (1, u "java/lang/Object"), (0, u "()V"), (1, .class_ 23), (1, u "jdk/internal/util/ArraysSupport"), (0, u "LOG2_ARRAY_LONG_INDEX_SCALE"), (0, u "I"), (2, u "U"), (0, u "Ljdk/internal/misc/Unsafe;"), (8, u "BIG_ENDIAN"), (0, u "Z"), (8, u "LOG2_BYTE_BIT_SIZE"), (4, u "LOG2_ARRAY_INT_INDEX_SCALE"), (54, u "JLA"), (0, u "Ljdk/internal/access/JavaLangAccess;"), (11, u "LOG2_ARRAY_BOOLEAN_INDEX_SCALE"), (9, u "LOG2_ARRAY_BYTE_INDEX_SCALE"), (5, u "LOG2_ARRAY_CHAR_INDEX_SCALE"), (5, u "LOG2_ARRAY_SHORT_INDEX_SCALE"), (18, u "LOG2_ARRAY_FLOAT_INDEX_SCALE"), (24, u "LOG2_ARRAY_DOUBLE_INDEX_SCALE"), (89, u "T_BOOLEAN"), (2, u "T_CHAR"), (1, u "T_FLOAT"), (1, u "T_DOUBLE"), (1, u "T_BYTE"), (1, u "T_SHORT"), (1, u "T_INT"), (1, u "T_LONG"), (1, u "SOFT_MAX_ARRAY_LENGTH")] 83

def k17m0 : Method := { name := "<init>", desc := "()V", sig := { parameters := [], returnType := none }, accessFlags := 2, code := none }
/-- jdk/internal/util/ArraysSupport -/
def k17 : Class := { plain "jdk/internal/util/ArraysSupport" (some 0) with
  accessFlags := 33
  interfaces := #[]
  cf := some (fileOf pool17 21 #[] #[{ accessFlags := 2, nameIndex := 9, descriptorIndex := 19, attributes := #[] }] 33 16 #[] #[{ accessFlags := 24, nameIndex := 28, descriptorIndex := 29, attributes := #[] }, { accessFlags := 26, nameIndex := 38, descriptorIndex := 39, attributes := #[] }, { accessFlags := 25, nameIndex := 121, descriptorIndex := 25, attributes := #[] }, { accessFlags := 25, nameIndex := 131, descriptorIndex := 25, attributes := #[] }, { accessFlags := 25, nameIndex := 137, descriptorIndex := 25, attributes := #[] }, { accessFlags := 25, nameIndex := 143, descriptorIndex := 25, attributes := #[] }, { accessFlags := 25, nameIndex := 53, descriptorIndex := 25, attributes := #[] }, { accessFlags := 25, nameIndex := 24, descriptorIndex := 25, attributes := #[] }, { accessFlags := 25, nameIndex := 162, descriptorIndex := 25, attributes := #[] }, { accessFlags := 25, nameIndex := 187, descriptorIndex := 25, attributes := #[] }, { accessFlags := 26, nameIndex := 48, descriptorIndex := 25, attributes := #[] }, { accessFlags := 25, nameIndex := 277, descriptorIndex := 25, attributes := #[] }, { accessFlags := 25, nameIndex := 280, descriptorIndex := 25, attributes := #[] }, { accessFlags := 25, nameIndex := 282, descriptorIndex := 25, attributes := #[] }, { accessFlags := 25, nameIndex := 284, descriptorIndex := 25, attributes := #[] }, { accessFlags := 25, nameIndex := 286, descriptorIndex := 25, attributes := #[] }, { accessFlags := 25, nameIndex := 288, descriptorIndex := 25, attributes := #[] }, { accessFlags := 25, nameIndex := 290, descriptorIndex := 25, attributes := #[] }, { accessFlags := 25, nameIndex := 292, descriptorIndex := 25, attributes := #[] }, { accessFlags := 26, nameIndex := 108, descriptorIndex := 109, attributes := #[] }, { accessFlags := 25, nameIndex := 294, descriptorIndex := 25, attributes := #[] }])
  fields := #[{ name := "U", type := (.object "jdk/internal/misc/Unsafe"), accessFlags := 24, slot := 0, constantValue := 0 }, { name := "BIG_ENDIAN", type := .boolean, accessFlags := 26, slot := 1, constantValue := 0 }, { name := "LOG2_ARRAY_BOOLEAN_INDEX_SCALE", type := .int, accessFlags := 25, slot := 2, constantValue := 0 }, { name := "LOG2_ARRAY_BYTE_INDEX_SCALE", type := .int, accessFlags := 25, slot := 3, constantValue := 0 }, { name := "LOG2_ARRAY_CHAR_INDEX_SCALE", type := .int, accessFlags := 25, slot := 4, constantValue := 0 }, { name := "LOG2_ARRAY_SHORT_INDEX_SCALE", type := .int, accessFlags := 25, slot := 5, constantValue := 0 }, { name := "LOG2_ARRAY_INT_INDEX_SCALE", type := .int, accessFlags := 25, slot := 6, constantValue := 0 }, { name := "LOG2_ARRAY_LONG_INDEX_SCALE", type := .int, accessFlags := 25, slot := 7, constantValue := 0 }, { name := "LOG2_ARRAY_FLOAT_INDEX_SCALE", type := .int, accessFlags := 25, slot := 8, constantValue := 0 }, { name := "LOG2_ARRAY_DOUBLE_INDEX_SCALE", type := .int, accessFlags := 25, slot := 9, constantValue := 0 }, { name := "LOG2_BYTE_BIT_SIZE", type := .int, accessFlags := 26, slot := 10, constantValue := 0 }, { name := "T_BOOLEAN", type := .int, accessFlags := 25, slot := 11, constantValue := 0 }, { name := "T_CHAR", type := .int, accessFlags := 25, slot := 12, constantValue := 0 }, { name := "T_FLOAT", type := .int, accessFlags := 25, slot := 13, constantValue := 0 }, { name := "T_DOUBLE", type := .int, accessFlags := 25, slot := 14, constantValue := 0 }, { name := "T_BYTE", type := .int, accessFlags := 25, slot := 15, constantValue := 0 }, { name := "T_SHORT", type := .int, accessFlags := 25, slot := 16, constantValue := 0 }, { name := "T_INT", type := .int, accessFlags := 25, slot := 17, constantValue := 0 }, { name := "T_LONG", type := .int, accessFlags := 25, slot := 18, constantValue := 0 }, { name := "JLA", type := (.object "jdk/internal/access/JavaLangAccess"), accessFlags := 26, slot := 19, constantValue := 0 }, { name := "SOFT_MAX_ARRAY_LENGTH", type := .int, accessFlags := 25, slot := 20, constantValue := 0 }]
  methods := #[k17m0]
  instanceTypes := #[]
  staticTypes := #[(.object "jdk/internal/misc/Unsafe"), .boolean, .int, .int, .int, .int, .int, .int, .int, .int, .int, .int, .int, .int, .int, .int, .int, .int, .int, (.object "jdk/internal/access/JavaLangAccess"), .int]
  resolved := Array.replicate 378 none
  statics := none }

def pool18 : Array CpInfo := pool [(1, u "java/lang/Cloneable"), (0, .class_ 1), (0, u "java/lang/Object"), (0, .class_ 3)] 3

/-- java/lang/Cloneable -/
def k18 : Class := { plain "java/lang/Cloneable" (some 0) with
  accessFlags := 1537
  interfaces := #[]
  cf := some (fileOf pool18 2 #[] #[] 1537 4 #[] #[])
  fields := #[]
  methods := #[]
  instanceTypes := #[]
  staticTypes := #[]
  resolved := Array.replicate 8 none
  statics := none }

/-- the primitive byte -/
def k19 : Class := { plain "byte" none with kind := .primitive 'B', accessFlags := 0x411 }
/-- [B -/
def k20 : Class := { plain "[B" (some 0) with kind := .array 19 .byte, interfaces := #[18, 2], accessFlags := 1041 }

/-- the primitive char -/
def k21 : Class := { plain "char" none with kind := .primitive 'C', accessFlags := 0x411 }
/-- [C -/
def k22 : Class := { plain "[C" (some 0) with kind := .array 21 .char, interfaces := #[18, 2], accessFlags := 1041 }

/-- the primitive int -/
def k23 : Class := { plain "int" none with kind := .primitive 'I', accessFlags := 0x411 }
/-- [I -/
def k24 : Class := { plain "[I" (some 0) with kind := .array 23 .int, interfaces := #[18, 2], accessFlags := 1041 }

def heap : Heap := #[{ cls := 7, slots := #[.long 0, .int 1, .null, .int 0, .null, .int 0, .int 0], vm := .statics 7 },
  { cls := 13, slots := #[.null, .null, .null], vm := .statics 13 }]
def classes : Array Class := #[k0, k1, k2, k3, k4, k5, k6, k7, k8, k9, k10, k11, k12, k13, k14, k15, k16, k17, k18, k19, k20, k21, k22, k23, k24]
def interned : List (Array UInt16 × Addr) := []
def slotsUsed : Nat := 10
def theMethod : MethodId := ⟨1, 3⟩
def args0 : Array Value := #[.int 5, .int 3, .int 7, .int 9, .int 11]
def aboutOver (below : List Frame) : State where
  vm := { classes := classes, interned := interned.toArray }
  heap := heap
  slotsUsed := slotsUsed
  threads := #[{ frames := .invoking theMethod args0 :: below }]
def below0 : List Frame := [.native { method := ⟨0, 0⟩, args := #[] }]
def about1 : State := aboutOver below0
def p0 : Program := .bare "" "" ""
def e0 : Env := launch0.env 0 0 0
theorem w_frames : about1.frames = Frame.invoking theMethod args0 :: below0 := rfl
set_option maxRecDepth 65536 in
theorem w_args : argsFit about1.vm theMethod args0 = true := by decide +kernel
set_option maxRecDepth 65536 in
theorem w_heap : heapFits about1 = true := by decide +kernel
set_option maxRecDepth 65536 in
theorem w_runnable : about1.curStatus? = some .runnable := by decide +kernel
set_option maxRecDepth 65536 in
theorem w_alone : about1.alone = true := by decide +kernel
set_option maxRecDepth 65536 in
theorem w_named : about1.methodNamed? x = some theMethod := by decide +kernel
set_option maxRecDepth 65536 in
theorem w_hears : about1.hears theMethod below0 = true := by decide +kernel
set_option maxRecDepth 65536 in
theorem w_ripe : about1.ripe theMethod args0 below0 = true := by decide +kernel
theorem w_running : about1.status = .running := rfl
set_option maxRecDepth 65536 in
theorem w_room : about1.hasRoom e0.platform room_1 = true :=
  launch0.hasRoom_least _ room_1 (by decide +kernel) (by decide +kernel) (by decide +kernel) (by decide +kernel) (by decide +kernel) (by decide +kernel)
theorem allAtoms_all (ts : List Jvm.Cond) (a : Array Jvm.Value) (st : Jvm.State) : (allAtoms ts).before a st = ts.all (fun c => c.before a st) := by
  induction ts with
  | nil => rfl
  | cons c t ih =>
    show (Jvm.Cond.and c (allAtoms t)).before a st = _
    rw [Jvm.Cond.before_and, ih, List.all_cons]
def words1 : List Jvm.Cond := Jvm.Cond.code x code maxLocals ret :: tables_1
/-- a 'code' word, met by the world's own term for the bytes: nothing is compared byte by byte -/
theorem code_word {y : MethodName} {bytes : ByteArray} {mx : Nat} {rt : Option FieldType} {a : Array Value} {s : State} {m : MethodId} {meth : Method} {c : Code} (h1 : s.methodNamed? y = some m) (h2 : s.vm.method? m = some meth) (h3 : meth.code = some c) (h4 : c.code = bytes)
    (h5 : (c.maxLocals == mx && c.exceptionTable.isEmpty && decide (c.maxStack ≤ mostOperands) && decide (meth.sig.returnType = rt) && !meth.locks && decide (parseMethodDescriptor y.desc = some meth.sig)) = true) : (Jvm.Cond.code y bytes mx rt).before a s = true := by
  simp only [Bool.and_eq_true, beq_iff_eq, Bool.not_eq_true', decide_eq_true_eq] at h5
  obtain ⟨⟨⟨⟨⟨g1, g2⟩, g3⟩, g4⟩, g5⟩, g6⟩ := h5
  simp [Cond.before, Cond.holds, Cond.value, h1, h2, h3, h4, g1, g2, g3, g4, g5, g6]
def isCode : Jvm.Cond → Bool
  | .code _ _ _ _ => true
  | _ => false
theorem all_split {L : List Jvm.Cond} {P : Jvm.Cond → Bool} (h1 : L.all (fun c => isCode c || P c) = true) (h2 : ∀ c ∈ L.filter isCode, P c = true) : L.all P = true := by
  refine List.all_eq_true.mpr fun c hc => ?_
  have h := List.all_eq_true.mp h1 c hc
  rcases Bool.eq_false_or_eq_true (isCode c) with hi | hi
  · exact h2 c (List.mem_filter.mpr ⟨hc, hi⟩)
  · simpa [hi] using h
set_option maxRecDepth 65536 in
theorem w_c0 : (Jvm.Cond.code x code maxLocals ret).before args0 about1 = true := code_word (m := ⟨1, 3⟩) (meth := k1m3) (c := k1c3) (by decide +kernel) rfl rfl rfl (by decide +kernel)
set_option maxRecDepth 65536 in
theorem w_c1 : (Jvm.Cond.code ({ cls := "com/example/keen_roster/keenroster/core/IdentifierParsePinLaw", name := "pick", desc := "(I)C" } : Jvm.MethodName) method_2_code (2 : Nat) (Option.some Jvm.ClassFile.FieldType.char)).before args0 about1 = true := code_word (m := ⟨1, 1⟩) (meth := k1m1) (c := k1c1) (by decide +kernel) rfl rfl rfl (by decide +kernel)
set_option maxRecDepth 65536 in
theorem w_c2 : (Jvm.Cond.code ({ cls := "java/lang/String", name := "<init>", desc := "([C)V" } : Jvm.MethodName) jdk_42_method_3_code (2 : Nat) (Option.none : Option Jvm.ClassFile.FieldType)).before args0 about1 = true := code_word (m := ⟨7, 1⟩) (meth := k7m1) (c := k7c1) (by decide +kernel) rfl rfl rfl (by decide +kernel)
set_option maxRecDepth 65536 in
theorem w_c3 : (Jvm.Cond.code ({ cls := "java/lang/String", name := "<init>", desc := "([CIILjava/lang/Void;)V" } : Jvm.MethodName) jdk_42_method_149_code (6 : Nat) (Option.none : Option Jvm.ClassFile.FieldType)).before args0 about1 = true := code_word (m := ⟨7, 9⟩) (meth := k7m9) (c := k7c9) (by decide +kernel) rfl rfl rfl (by decide +kernel)
set_option maxRecDepth 65536 in
theorem w_c4 : (Jvm.Cond.code ({ cls := "java/lang/Object", name := "<init>", desc := "()V" } : Jvm.MethodName) object_method_1_code (1 : Nat) (Option.none : Option Jvm.ClassFile.FieldType)).before args0 about1 = true := code_word (m := ⟨0, 0⟩) (meth := k0m0) (c := k0c0) (by decide +kernel) rfl rfl rfl (by decide +kernel)
set_option maxRecDepth 65536 in
theorem w_c5 : (Jvm.Cond.code ({ cls := "java/lang/StringUTF16", name := "compress", desc := "([CII)[B" } : Jvm.MethodName) jdk_52_method_16_code (6 : Nat) (Option.some (Jvm.ClassFile.FieldType.array Jvm.ClassFile.FieldType.byte))).before args0 about1 = true := code_word (m := ⟨8, 2⟩) (meth := k8m2) (c := k8c2) (by decide +kernel) rfl rfl rfl (by decide +kernel)
set_option maxRecDepth 65536 in
theorem w_c6 : (Jvm.Cond.code ({ cls := "java/lang/StringUTF16", name := "compress", desc := "([CI[BII)I" } : Jvm.MethodName) jdk_52_method_21_code (7 : Nat) (Option.some Jvm.ClassFile.FieldType.int)).before args0 about1 = true := code_word (m := ⟨8, 3⟩) (meth := k8m3) (c := k8c3) (by decide +kernel) rfl rfl rfl (by decide +kernel)
set_option maxRecDepth 65536 in
theorem w_c7 : (Jvm.Cond.code ({ cls := "java/lang/StringUTF16", name := "coderFromArrayLen", desc := "([BI)B" } : Jvm.MethodName) jdk_52_method_15_code (2 : Nat) (Option.some Jvm.ClassFile.FieldType.byte)).before args0 about1 = true := code_word (m := ⟨8, 1⟩) (meth := k8m1) (c := k8c1) (by decide +kernel) rfl rfl rfl (by decide +kernel)
set_option maxRecDepth 65536 in
theorem w_c8 : (Jvm.Cond.code ({ cls := "com/example/keen_roster/keenroster/core/Identifier", name := "parse", desc := "(Ljava/lang/String;)Lcom/example/keen_roster/keenroster/core/Identifier;" } : Jvm.MethodName) prog_2_method_2_code (2 : Nat) (Option.some (Jvm.ClassFile.FieldType.object "com/example/keen_roster/keenroster/core/Identifier"))).before args0 about1 = true := code_word (m := ⟨10, 1⟩) (meth := k10m1) (c := k10c1) (by decide +kernel) rfl rfl rfl (by decide +kernel)
set_option maxRecDepth 65536 in
theorem w_c9 : (Jvm.Cond.code ({ cls := "java/lang/String", name := "indexOf", desc := "(I)I" } : Jvm.MethodName) jdk_42_method_79_code (2 : Nat) (Option.some Jvm.ClassFile.FieldType.int)).before args0 about1 = true := code_word (m := ⟨7, 5⟩) (meth := k7m5) (c := k7c5) (by decide +kernel) rfl rfl rfl (by decide +kernel)
set_option maxRecDepth 65536 in
theorem w_c10 : (Jvm.Cond.code ({ cls := "java/lang/String", name := "indexOf", desc := "(II)I" } : Jvm.MethodName) jdk_42_method_80_code (3 : Nat) (Option.some Jvm.ClassFile.FieldType.int)).before args0 about1 = true := code_word (m := ⟨7, 6⟩) (meth := k7m6) (c := k7c6) (by decide +kernel) rfl rfl rfl (by decide +kernel)
set_option maxRecDepth 65536 in
theorem w_c11 : (Jvm.Cond.code ({ cls := "java/lang/String", name := "isLatin1", desc := "()Z" } : Jvm.MethodName) jdk_42_method_154_code (1 : Nat) (Option.some Jvm.ClassFile.FieldType.boolean)).before args0 about1 = true := code_word (m := ⟨7, 12⟩) (meth := k7m12) (c := k7c12) (by decide +kernel) rfl rfl rfl (by decide +kernel)
set_option maxRecDepth 65536 in
theorem w_c12 : (Jvm.Cond.code ({ cls := "java/lang/String", name := "length", desc := "()I" } : Jvm.MethodName) jdk_42_method_54_code (1 : Nat) (Option.some Jvm.ClassFile.FieldType.int)).before args0 about1 = true := code_word (m := ⟨7, 2⟩) (meth := k7m2) (c := k7c2) (by decide +kernel) rfl rfl rfl (by decide +kernel)
set_option maxRecDepth 65536 in
theorem w_c13 : (Jvm.Cond.code ({ cls := "java/lang/String", name := "coder", desc := "()B" } : Jvm.MethodName) jdk_42_method_152_code (1 : Nat) (Option.some Jvm.ClassFile.FieldType.byte)).before args0 about1 = true := code_word (m := ⟨7, 11⟩) (meth := k7m11) (c := k7c11) (by decide +kernel) rfl rfl rfl (by decide +kernel)
set_option maxRecDepth 65536 in
theorem w_c14 : (Jvm.Cond.code ({ cls := "java/lang/StringLatin1", name := "indexOf", desc := "([BIII)I" } : Jvm.MethodName) jdk_43_method_22_code (4 : Nat) (Option.some Jvm.ClassFile.FieldType.int)).before args0 about1 = true := code_word (m := ⟨11, 3⟩) (meth := k11m3) (c := k11c3) (by decide +kernel) rfl rfl rfl (by decide +kernel)
set_option maxRecDepth 65536 in
theorem w_c15 : (Jvm.Cond.code ({ cls := "java/lang/StringLatin1", name := "canEncode", desc := "(I)Z" } : Jvm.MethodName) jdk_43_method_4_code (1 : Nat) (Option.some Jvm.ClassFile.FieldType.boolean)).before args0 about1 = true := code_word (m := ⟨11, 2⟩) (meth := k11m2) (c := k11c2) (by decide +kernel) rfl rfl rfl (by decide +kernel)
set_option maxRecDepth 65536 in
theorem w_c16 : (Jvm.Cond.code ({ cls := "java/lang/Math", name := "max", desc := "(II)I" } : Jvm.MethodName) jdk_29_method_65_code (2 : Nat) (Option.some Jvm.ClassFile.FieldType.int)).before args0 about1 = true := code_word (m := ⟨12, 1⟩) (meth := k12m1) (c := k12c1) (by decide +kernel) rfl rfl rfl (by decide +kernel)
set_option maxRecDepth 65536 in
theorem w_c17 : (Jvm.Cond.code ({ cls := "java/lang/Math", name := "min", desc := "(II)I" } : Jvm.MethodName) jdk_29_method_69_code (2 : Nat) (Option.some Jvm.ClassFile.FieldType.int)).before args0 about1 = true := code_word (m := ⟨12, 2⟩) (meth := k12m2) (c := k12c2) (by decide +kernel) rfl rfl rfl (by decide +kernel)
set_option maxRecDepth 65536 in
theorem w_c18 : (Jvm.Cond.code ({ cls := "java/lang/StringLatin1", name := "indexOfChar", desc := "([BIII)I" } : Jvm.MethodName) jdk_43_method_23_code (6 : Nat) (Option.some Jvm.ClassFile.FieldType.int)).before args0 about1 = true := code_word (m := ⟨11, 4⟩) (meth := k11m4) (c := k11c4) (by decide +kernel) rfl rfl rfl (by decide +kernel)
set_option maxRecDepth 65536 in
theorem w_c19 : (Jvm.Cond.code ({ cls := "java/lang/String", name := "substring", desc := "(II)Ljava/lang/String;" } : Jvm.MethodName) jdk_42_method_92_code (5 : Nat) (Option.some (Jvm.ClassFile.FieldType.object "java/lang/String"))).before args0 about1 = true := code_word (m := ⟨7, 8⟩) (meth := k7m8) (c := k7c8) (by decide +kernel) rfl rfl rfl (by decide +kernel)
set_option maxRecDepth 65536 in
theorem w_c20 : (Jvm.Cond.code ({ cls := "java/lang/String", name := "checkBoundsBeginEnd", desc := "(III)V" } : Jvm.MethodName) jdk_42_method_158_code (3 : Nat) (Option.none : Option Jvm.ClassFile.FieldType)).before args0 about1 = true := code_word (m := ⟨7, 14⟩) (meth := k7m14) (c := k7c14) (by decide +kernel) rfl rfl rfl (by decide +kernel)
set_option maxRecDepth 65536 in
theorem w_c21 : (Jvm.Cond.code ({ cls := "jdk/internal/util/Preconditions", name := "checkFromToIndex", desc := "(IIILjava/util/function/BiFunction;)I" } : Jvm.MethodName) jdk_41_method_12_code (4 : Nat) (Option.some Jvm.ClassFile.FieldType.int)).before args0 about1 = true := code_word (m := ⟨13, 2⟩) (meth := k13m2) (c := k13c2) (by decide +kernel) rfl rfl rfl (by decide +kernel)
set_option maxRecDepth 65536 in
theorem w_c22 : (Jvm.Cond.code ({ cls := "java/lang/StringLatin1", name := "newString", desc := "([BII)Ljava/lang/String;" } : Jvm.MethodName) jdk_43_method_47_code (3 : Nat) (Option.some (Jvm.ClassFile.FieldType.object "java/lang/String"))).before args0 about1 = true := code_word (m := ⟨11, 5⟩) (meth := k11m5) (c := k11c5) (by decide +kernel) rfl rfl rfl (by decide +kernel)
set_option maxRecDepth 65536 in
theorem w_c23 : (Jvm.Cond.code ({ cls := "java/util/Arrays", name := "copyOfRange", desc := "([BII)[B" } : Jvm.MethodName) jdk_65_method_132_code (3 : Nat) (Option.some (Jvm.ClassFile.FieldType.array Jvm.ClassFile.FieldType.byte))).before args0 about1 = true := code_word (m := ⟨14, 2⟩) (meth := k14m2) (c := k14c2) (by decide +kernel) rfl rfl rfl (by decide +kernel)
set_option maxRecDepth 65536 in
theorem w_c24 : (Jvm.Cond.code ({ cls := "java/util/Arrays", name := "copyOfRangeByte", desc := "([BII)[B" } : Jvm.MethodName) jdk_65_method_133_code (5 : Nat) (Option.some (Jvm.ClassFile.FieldType.array Jvm.ClassFile.FieldType.byte))).before args0 about1 = true := code_word (m := ⟨14, 3⟩) (meth := k14m3) (c := k14c3) (by decide +kernel) rfl rfl rfl (by decide +kernel)
set_option maxRecDepth 65536 in
theorem w_c25 : (Jvm.Cond.code ({ cls := "java/util/Arrays", name := "checkLength", desc := "(II)V" } : Jvm.MethodName) jdk_65_method_131_code (2 : Nat) (Option.none : Option Jvm.ClassFile.FieldType)).before args0 about1 = true := code_word (m := ⟨14, 1⟩) (meth := k14m1) (c := k14c1) (by decide +kernel) rfl rfl rfl (by decide +kernel)
set_option maxRecDepth 65536 in
theorem w_c26 : (Jvm.Cond.code ({ cls := "java/lang/String", name := "<init>", desc := "([BB)V" } : Jvm.MethodName) jdk_42_method_151_code (3 : Nat) (Option.none : Option Jvm.ClassFile.FieldType)).before args0 about1 = true := code_word (m := ⟨7, 10⟩) (meth := k7m10) (c := k7c10) (by decide +kernel) rfl rfl rfl (by decide +kernel)
set_option maxRecDepth 65536 in
theorem w_c27 : (Jvm.Cond.code ({ cls := "java/lang/String", name := "substring", desc := "(I)Ljava/lang/String;" } : Jvm.MethodName) jdk_42_method_91_code (2 : Nat) (Option.some (Jvm.ClassFile.FieldType.object "java/lang/String"))).before args0 about1 = true := code_word (m := ⟨7, 7⟩) (meth := k7m7) (c := k7c7) (by decide +kernel) rfl rfl rfl (by decide +kernel)
set_option maxRecDepth 65536 in
theorem w_c28 : (Jvm.Cond.code ({ cls := "com/example/keen_roster/keenroster/core/Identifier", name := "<init>", desc := "(Ljava/lang/String;Ljava/lang/String;)V" } : Jvm.MethodName) prog_2_method_1_code (3 : Nat) (Option.none : Option Jvm.ClassFile.FieldType)).before args0 about1 = true := code_word (m := ⟨10, 0⟩) (meth := k10m0) (c := k10c0) (by decide +kernel) rfl rfl rfl (by decide +kernel)
set_option maxRecDepth 65536 in
theorem w_c29 : (Jvm.Cond.code ({ cls := "java/lang/Record", name := "<init>", desc := "()V" } : Jvm.MethodName) jdk_30_method_1_code (1 : Nat) (Option.none : Option Jvm.ClassFile.FieldType)).before args0 about1 = true := code_word (m := ⟨9, 0⟩) (meth := k9m0) (c := k9c0) (by decide +kernel) rfl rfl rfl (by decide +kernel)
set_option maxRecDepth 65536 in
theorem w_c30 : (Jvm.Cond.code ({ cls := "java/util/Objects", name := "requireNonNull", desc := "(Ljava/lang/Object;Ljava/lang/String;)Ljava/lang/Object;" } : Jvm.MethodName) jdk_31_method_11_code (2 : Nat) (Option.some (Jvm.ClassFile.FieldType.object "java/lang/Object"))).before args0 about1 = true := code_word (m := ⟨16, 1⟩) (meth := k16m1) (c := k16c1) (by decide +kernel) rfl rfl rfl (by decide +kernel)
set_option maxRecDepth 65536 in
theorem w_c31 : (Jvm.Cond.code ({ cls := "java/lang/String", name := "isEmpty", desc := "()Z" } : Jvm.MethodName) jdk_42_method_55_code (1 : Nat) (Option.some Jvm.ClassFile.FieldType.boolean)).before args0 about1 = true := code_word (m := ⟨7, 3⟩) (meth := k7m3) (c := k7c3) (by decide +kernel) rfl rfl rfl (by decide +kernel)
set_option maxRecDepth 65536 in
theorem w_c32 : (Jvm.Cond.code ({ cls := "com/example/keen_roster/keenroster/core/Identifier", name := "system", desc := "()Ljava/lang/String;" } : Jvm.MethodName) prog_2_method_6_code (1 : Nat) (Option.some (Jvm.ClassFile.FieldType.object "java/lang/String"))).before args0 about1 = true := code_word (m := ⟨10, 2⟩) (meth := k10m2) (c := k10c2) (by decide +kernel) rfl rfl rfl (by decide +kernel)
set_option maxRecDepth 65536 in
theorem w_c33 : (Jvm.Cond.code ({ cls := "com/example/keen_roster/keenroster/core/IdentifierParsePinLaw", name := "same", desc := "(Ljava/lang/String;[CII)Z" } : Jvm.MethodName) method_3_code (4 : Nat) (Option.some Jvm.ClassFile.FieldType.boolean)).before args0 about1 = true := code_word (m := ⟨1, 2⟩) (meth := k1m2) (c := k1c2) (by decide +kernel) rfl rfl rfl (by decide +kernel)
set_option maxRecDepth 65536 in
theorem w_c34 : (Jvm.Cond.code ({ cls := "java/lang/String", name := "charAt", desc := "(I)C" } : Jvm.MethodName) jdk_42_method_56_code (2 : Nat) (Option.some Jvm.ClassFile.FieldType.char)).before args0 about1 = true := code_word (m := ⟨7, 4⟩) (meth := k7m4) (c := k7c4) (by decide +kernel) rfl rfl rfl (by decide +kernel)
set_option maxRecDepth 65536 in
theorem w_c35 : (Jvm.Cond.code ({ cls := "java/lang/StringLatin1", name := "charAt", desc := "([BI)C" } : Jvm.MethodName) jdk_43_method_2_code (2 : Nat) (Option.some Jvm.ClassFile.FieldType.char)).before args0 about1 = true := code_word (m := ⟨11, 1⟩) (meth := k11m1) (c := k11c1) (by decide +kernel) rfl rfl rfl (by decide +kernel)
set_option maxRecDepth 65536 in
theorem w_c36 : (Jvm.Cond.code ({ cls := "java/lang/String", name := "checkIndex", desc := "(II)V" } : Jvm.MethodName) jdk_42_method_155_code (2 : Nat) (Option.none : Option Jvm.ClassFile.FieldType)).before args0 about1 = true := code_word (m := ⟨7, 13⟩) (meth := k7m13) (c := k7c13) (by decide +kernel) rfl rfl rfl (by decide +kernel)
set_option maxRecDepth 65536 in
theorem w_c37 : (Jvm.Cond.code ({ cls := "jdk/internal/util/Preconditions", name := "checkIndex", desc := "(IILjava/util/function/BiFunction;)I" } : Jvm.MethodName) jdk_41_method_11_code (3 : Nat) (Option.some Jvm.ClassFile.FieldType.int)).before args0 about1 = true := code_word (m := ⟨13, 1⟩) (meth := k13m1) (c := k13c1) (by decide +kernel) rfl rfl rfl (by decide +kernel)
set_option maxRecDepth 65536 in
theorem w_c38 : (Jvm.Cond.code ({ cls := "com/example/keen_roster/keenroster/core/Identifier", name := "id", desc := "()Ljava/lang/String;" } : Jvm.MethodName) prog_2_method_7_code (1 : Nat) (Option.some (Jvm.ClassFile.FieldType.object "java/lang/String"))).before args0 about1 = true := code_word (m := ⟨10, 3⟩) (meth := k10m3) (c := k10c3) (by decide +kernel) rfl rfl rfl (by decide +kernel)
def codes1 : List Jvm.Cond := [Jvm.Cond.code x code maxLocals ret, Jvm.Cond.code ({ cls := "com/example/keen_roster/keenroster/core/IdentifierParsePinLaw", name := "pick", desc := "(I)C" } : Jvm.MethodName) method_2_code (2 : Nat) (Option.some Jvm.ClassFile.FieldType.char), Jvm.Cond.code ({ cls := "java/lang/String", name := "<init>", desc := "([C)V" } : Jvm.MethodName) jdk_42_method_3_code (2 : Nat) (Option.none : Option Jvm.ClassFile.FieldType), Jvm.Cond.code ({ cls := "java/lang/String", name := "<init>", desc := "([CIILjava/lang/Void;)V" } : Jvm.MethodName) jdk_42_method_149_code (6 : Nat) (Option.none : Option Jvm.ClassFile.FieldType), Jvm.Cond.code ({ cls := "java/lang/Object", name := "<init>", desc := "()V" } : Jvm.MethodName) object_method_1_code (1 : Nat) (Option.none : Option Jvm.ClassFile.FieldType), Jvm.Cond.code ({ cls := "java/lang/StringUTF16", name := "compress", desc := "([CII)[B" } : Jvm.MethodName) jdk_52_method_16_code (6 : Nat) (Option.some (Jvm.ClassFile.FieldType.array Jvm.ClassFile.FieldType.byte)), Jvm.Cond.code ({ cls := "java/lang/StringUTF16", name := "compress", desc := "([CI[BII)I" } : Jvm.MethodName) jdk_52_method_21_code (7 : Nat) (Option.some Jvm.ClassFile.FieldType.int), Jvm.Cond.code ({ cls := "java/lang/StringUTF16", name := "coderFromArrayLen", desc := "([BI)B" } : Jvm.MethodName) jdk_52_method_15_code (2 : Nat) (Option.some Jvm.ClassFile.FieldType.byte), Jvm.Cond.code ({ cls := "com/example/keen_roster/keenroster/core/Identifier", name := "parse", desc := "(Ljava/lang/String;)Lcom/example/keen_roster/keenroster/core/Identifier;" } : Jvm.MethodName) prog_2_method_2_code (2 : Nat) (Option.some (Jvm.ClassFile.FieldType.object "com/example/keen_roster/keenroster/core/Identifier")), Jvm.Cond.code ({ cls := "java/lang/String", name := "indexOf", desc := "(I)I" } : Jvm.MethodName) jdk_42_method_79_code (2 : Nat) (Option.some Jvm.ClassFile.FieldType.int), Jvm.Cond.code ({ cls := "java/lang/String", name := "indexOf", desc := "(II)I" } : Jvm.MethodName) jdk_42_method_80_code (3 : Nat) (Option.some Jvm.ClassFile.FieldType.int), Jvm.Cond.code ({ cls := "java/lang/String", name := "isLatin1", desc := "()Z" } : Jvm.MethodName) jdk_42_method_154_code (1 : Nat) (Option.some Jvm.ClassFile.FieldType.boolean), Jvm.Cond.code ({ cls := "java/lang/String", name := "length", desc := "()I" } : Jvm.MethodName) jdk_42_method_54_code (1 : Nat) (Option.some Jvm.ClassFile.FieldType.int), Jvm.Cond.code ({ cls := "java/lang/String", name := "coder", desc := "()B" } : Jvm.MethodName) jdk_42_method_152_code (1 : Nat) (Option.some Jvm.ClassFile.FieldType.byte), Jvm.Cond.code ({ cls := "java/lang/StringLatin1", name := "indexOf", desc := "([BIII)I" } : Jvm.MethodName) jdk_43_method_22_code (4 : Nat) (Option.some Jvm.ClassFile.FieldType.int), Jvm.Cond.code ({ cls := "java/lang/StringLatin1", name := "canEncode", desc := "(I)Z" } : Jvm.MethodName) jdk_43_method_4_code (1 : Nat) (Option.some Jvm.ClassFile.FieldType.boolean), Jvm.Cond.code ({ cls := "java/lang/Math", name := "max", desc := "(II)I" } : Jvm.MethodName) jdk_29_method_65_code (2 : Nat) (Option.some Jvm.ClassFile.FieldType.int), Jvm.Cond.code ({ cls := "java/lang/Math", name := "min", desc := "(II)I" } : Jvm.MethodName) jdk_29_method_69_code (2 : Nat) (Option.some Jvm.ClassFile.FieldType.int), Jvm.Cond.code ({ cls := "java/lang/StringLatin1", name := "indexOfChar", desc := "([BIII)I" } : Jvm.MethodName) jdk_43_method_23_code (6 : Nat) (Option.some Jvm.ClassFile.FieldType.int), Jvm.Cond.code ({ cls := "java/lang/String", name := "substring", desc := "(II)Ljava/lang/String;" } : Jvm.MethodName) jdk_42_method_92_code (5 : Nat) (Option.some (Jvm.ClassFile.FieldType.object "java/lang/String")), Jvm.Cond.code ({ cls := "java/lang/String", name := "checkBoundsBeginEnd", desc := "(III)V" } : Jvm.MethodName) jdk_42_method_158_code (3 : Nat) (Option.none : Option Jvm.ClassFile.FieldType), Jvm.Cond.code ({ cls := "jdk/internal/util/Preconditions", name := "checkFromToIndex", desc := "(IIILjava/util/function/BiFunction;)I" } : Jvm.MethodName) jdk_41_method_12_code (4 : Nat) (Option.some Jvm.ClassFile.FieldType.int), Jvm.Cond.code ({ cls := "java/lang/StringLatin1", name := "newString", desc := "([BII)Ljava/lang/String;" } : Jvm.MethodName) jdk_43_method_47_code (3 : Nat) (Option.some (Jvm.ClassFile.FieldType.object "java/lang/String")), Jvm.Cond.code ({ cls := "java/util/Arrays", name := "copyOfRange", desc := "([BII)[B" } : Jvm.MethodName) jdk_65_method_132_code (3 : Nat) (Option.some (Jvm.ClassFile.FieldType.array Jvm.ClassFile.FieldType.byte)), Jvm.Cond.code ({ cls := "java/util/Arrays", name := "copyOfRangeByte", desc := "([BII)[B" } : Jvm.MethodName) jdk_65_method_133_code (5 : Nat) (Option.some (Jvm.ClassFile.FieldType.array Jvm.ClassFile.FieldType.byte)), Jvm.Cond.code ({ cls := "java/util/Arrays", name := "checkLength", desc := "(II)V" } : Jvm.MethodName) jdk_65_method_131_code (2 : Nat) (Option.none : Option Jvm.ClassFile.FieldType), Jvm.Cond.code ({ cls := "java/lang/String", name := "<init>", desc := "([BB)V" } : Jvm.MethodName) jdk_42_method_151_code (3 : Nat) (Option.none : Option Jvm.ClassFile.FieldType), Jvm.Cond.code ({ cls := "java/lang/String", name := "substring", desc := "(I)Ljava/lang/String;" } : Jvm.MethodName) jdk_42_method_91_code (2 : Nat) (Option.some (Jvm.ClassFile.FieldType.object "java/lang/String")), Jvm.Cond.code ({ cls := "com/example/keen_roster/keenroster/core/Identifier", name := "<init>", desc := "(Ljava/lang/String;Ljava/lang/String;)V" } : Jvm.MethodName) prog_2_method_1_code (3 : Nat) (Option.none : Option Jvm.ClassFile.FieldType), Jvm.Cond.code ({ cls := "java/lang/Record", name := "<init>", desc := "()V" } : Jvm.MethodName) jdk_30_method_1_code (1 : Nat) (Option.none : Option Jvm.ClassFile.FieldType), Jvm.Cond.code ({ cls := "java/util/Objects", name := "requireNonNull", desc := "(Ljava/lang/Object;Ljava/lang/String;)Ljava/lang/Object;" } : Jvm.MethodName) jdk_31_method_11_code (2 : Nat) (Option.some (Jvm.ClassFile.FieldType.object "java/lang/Object")), Jvm.Cond.code ({ cls := "java/lang/String", name := "isEmpty", desc := "()Z" } : Jvm.MethodName) jdk_42_method_55_code (1 : Nat) (Option.some Jvm.ClassFile.FieldType.boolean), Jvm.Cond.code ({ cls := "com/example/keen_roster/keenroster/core/Identifier", name := "system", desc := "()Ljava/lang/String;" } : Jvm.MethodName) prog_2_method_6_code (1 : Nat) (Option.some (Jvm.ClassFile.FieldType.object "java/lang/String")), Jvm.Cond.code ({ cls := "com/example/keen_roster/keenroster/core/IdentifierParsePinLaw", name := "same", desc := "(Ljava/lang/String;[CII)Z" } : Jvm.MethodName) method_3_code (4 : Nat) (Option.some Jvm.ClassFile.FieldType.boolean), Jvm.Cond.code ({ cls := "java/lang/String", name := "charAt", desc := "(I)C" } : Jvm.MethodName) jdk_42_method_56_code (2 : Nat) (Option.some Jvm.ClassFile.FieldType.char), Jvm.Cond.code ({ cls := "java/lang/StringLatin1", name := "charAt", desc := "([BI)C" } : Jvm.MethodName) jdk_43_method_2_code (2 : Nat) (Option.some Jvm.ClassFile.FieldType.char), Jvm.Cond.code ({ cls := "java/lang/String", name := "checkIndex", desc := "(II)V" } : Jvm.MethodName) jdk_42_method_155_code (2 : Nat) (Option.none : Option Jvm.ClassFile.FieldType), Jvm.Cond.code ({ cls := "jdk/internal/util/Preconditions", name := "checkIndex", desc := "(IILjava/util/function/BiFunction;)I" } : Jvm.MethodName) jdk_41_method_11_code (3 : Nat) (Option.some Jvm.ClassFile.FieldType.int), Jvm.Cond.code ({ cls := "com/example/keen_roster/keenroster/core/Identifier", name := "id", desc := "()Ljava/lang/String;" } : Jvm.MethodName) prog_2_method_7_code (1 : Nat) (Option.some (Jvm.ClassFile.FieldType.object "java/lang/String"))]
set_option maxRecDepth 65536 in
theorem codes_eq : words1.filter isCode = codes1 := rfl
theorem w_codes : ∀ c ∈ words1.filter isCode, c.before args0 about1 = true := by
  rw [codes_eq]
  intro c hc
  simp only [codes1, List.mem_cons, List.not_mem_nil, or_false] at hc
  rcases hc with rfl | rfl | rfl | rfl | rfl | rfl | rfl | rfl | rfl | rfl | rfl | rfl | rfl | rfl | rfl | rfl | rfl | rfl | rfl | rfl | rfl | rfl | rfl | rfl | rfl | rfl | rfl | rfl | rfl | rfl | rfl | rfl | rfl | rfl | rfl | rfl | rfl | rfl | rfl
  · exact w_c0
  · exact w_c1
  · exact w_c2
  · exact w_c3
  · exact w_c4
  · exact w_c5
  · exact w_c6
  · exact w_c7
  · exact w_c8
  · exact w_c9
  · exact w_c10
  · exact w_c11
  · exact w_c12
  · exact w_c13
  · exact w_c14
  · exact w_c15
  · exact w_c16
  · exact w_c17
  · exact w_c18
  · exact w_c19
  · exact w_c20
  · exact w_c21
  · exact w_c22
  · exact w_c23
  · exact w_c24
  · exact w_c25
  · exact w_c26
  · exact w_c27
  · exact w_c28
  · exact w_c29
  · exact w_c30
  · exact w_c31
  · exact w_c32
  · exact w_c33
  · exact w_c34
  · exact w_c35
  · exact w_c36
  · exact w_c37
  · exact w_c38
set_option maxRecDepth 65536 in
theorem w_t1 : (words1.take 24).all (fun c => isCode c || c.before args0 about1) = true := by decide +kernel
set_option maxRecDepth 65536 in
theorem w_t2 : ((words1.drop 24).take 24).all (fun c => isCode c || c.before args0 about1) = true := by decide +kernel
set_option maxRecDepth 65536 in
theorem w_t3 : (((words1.drop 24).drop 24).take 24).all (fun c => isCode c || c.before args0 about1) = true := by decide +kernel
set_option maxRecDepth 65536 in
theorem w_t4 : ((((words1.drop 24).drop 24).drop 24).take 24).all (fun c => isCode c || c.before args0 about1) = true := by decide +kernel
set_option maxRecDepth 65536 in
theorem w_t5 : (((((words1.drop 24).drop 24).drop 24).drop 24).take 24).all (fun c => isCode c || c.before args0 about1) = true := by decide +kernel
set_option maxRecDepth 65536 in
theorem w_t6 : ((((((words1.drop 24).drop 24).drop 24).drop 24).drop 24).take 24).all (fun c => isCode c || c.before args0 about1) = true := by decide +kernel
set_option maxRecDepth 65536 in
theorem w_t7 : (((((((words1.drop 24).drop 24).drop 24).drop 24).drop 24).drop 24).take 24).all (fun c => isCode c || c.before args0 about1) = true := by decide +kernel
set_option maxRecDepth 65536 in
theorem w_t8 : (((((((words1.drop 24).drop 24).drop 24).drop 24).drop 24).drop 24).drop 24).all (fun c => isCode c || c.before args0 about1) = true := by decide +kernel
theorem w_tables : (allAtoms (Jvm.Cond.code x code maxLocals ret :: tables_1)).before args0 about1 = true := by
  rw [allAtoms_all]
  show words1.all (fun c => c.before args0 about1) = true
  refine all_split ?_ w_codes
  rw [← List.take_append_drop 24 words1, List.all_append, w_t1, ← List.take_append_drop 24 (words1.drop 24), List.all_append, w_t2, ← List.take_append_drop 24 ((words1.drop 24).drop 24), List.all_append, w_t3, ← List.take_append_drop 24 (((words1.drop 24).drop 24).drop 24), List.all_append, w_t4, ← List.take_append_drop 24 ((((words1.drop 24).drop 24).drop 24).drop 24), List.all_append, w_t5, ← List.take_append_drop 24 (((((words1.drop 24).drop 24).drop 24).drop 24).drop 24), List.all_append, w_t6, ← List.take_append_drop 24 ((((((words1.drop 24).drop 24).drop 24).drop 24).drop 24).drop 24), List.all_append, w_t7, w_t8]
  rfl
set_option maxRecDepth 65536 in
theorem w_rest : rest_1_c.before args0 about1 = true := by decide +kernel
set_option maxRecDepth 65536 in
theorem w_case : (Jvm.Cond.and given_1 narrow_1).before args0 about1 = true := by decide +kernel
theorem w_applies : (headSpec (Jvm.Cond.code x code maxLocals ret :: tables_1) room_1).applies x e0.platform about1 = true :=
  (Spec.applies_iff w_frames).mpr ⟨w_running, w_runnable, w_alone, w_named, w_hears, w_ripe, w_room, w_tables⟩
theorem atStart : AtStart classFile x code maxLocals ret World_1 tables_1 room_1 Calls_1 rest_1 Pre_1 launch0 p0 e0 about1 theMethod args0 below0 :=
  ⟨lists_1, trivial, launch0.admits_env _ _ _, launch0.least_env, fairChoices_fair.cas, fairChoices_fair.clock, w_frames, w_args, w_heap, w_applies, trivial, w_rest, w_case⟩
end start1
theorem witness_1 : WitnessClaimed_1 := ⟨start1.p0, start1.e0, start1.about1, start1.theMethod, start1.args0, start1.below0, start1.atStart⟩
end Jvm.Pilot.@@N@@
