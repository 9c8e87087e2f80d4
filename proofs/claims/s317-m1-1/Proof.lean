import JvmDerived
import JvmDerived.Pilot.@@N@@Statement
import JvmDerived.Pilot.@@N@@Code
set_option linter.unusedVariables false
set_option linter.unusedSimpArgs false
namespace Jvm.RoadKit
open Sem ClassFile Op Lib Jvm.Stand Jvm.Free Jvm.LawKit
section New
variable {p : Program} {l : Launch} {e : Env} {R : Room} {s : State} {m : MethodId} {args : Array Value} {below : List Frame} {meth : Method} {c : Code} {T : State} {locs : List Loc} {cells slots : Nat}
theorem retI (X : Stand p l e R s m args below meth c T locs cells slots) (hx : p.tables.exec = Jvm.exec) {pc : Nat} {Ls : Array Slot} {z : Int32} {rest : List Value} (hret : meth.sig.returnType = some .int) (hd : decode c.code pc = .ok (.ireturn, 1)) {fs : List Frame}
    (hl : ∀ (f : JFrame) (acts : List Action), f.method = m → f.locked = none → f.entered = [] → (doReturn e (T.setTop f) acts (some (.int z))).1 = T.setFrames fs) : Steps p.tables e below (T.setTop (mkF m pc Ls (.int z :: rest))) (T.setFrames fs) := by
  have hm' : T.vm.method? m = some meth := X.method'
  have hn : narrow .int (.int z) = .int z := rfl
  show Steps p.tables e below (T.setTop { method := m, pc := pc, locals := Ls, stack := _ :: rest, locked := none }) _
  jvm_step X.here [X.here.top, hx, hd, hm', hret, hn]
  first | (intro acts; rw [hl _ acts rfl rfl rfl]) | rw [hl _ _ rfl rfl rfl]
  exact Steps.refl _
end New
end Jvm.RoadKit
namespace Jvm.Pilot.@@N@@
open Jvm Jvm.ClassFile Sem Op Lib Jvm.Free Jvm.Stand Jvm.LawKit Jvm.RoadKit Bundle Jvm.Pilot.@@N@@.Jvm.D
section Own
variable {p : Program} {l : Launch} {e : Env} {R : Room} {s : State} {m : MethodId} {args : Array Value} {below : List Frame} {meth : Method} {c : Code} {T : State} {locs : List Loc} {cells slots : Nat} {Z : State} {a0 : Array Value} {h h' h0 : Heap} {a b : Addr} {C nm dd : String} {v w : Value} {sl n0 : Nat} {ws ws' : List (Addr × Nat)} {ty : FieldType} {k : ClassId} {z j : Int32} {vs : List Value} {dv : Value}
/-- the cells of h stand in h' as they stood, but for the places in ws -/
def KL (h h' : Heap) (ws : List (Addr × Nat)) : Prop := h.size ≤ h'.size ∧ ∀ (x : Addr) (c : Cell), h[x]? = some c → ∃ c' : Cell, h'[x]? = some c' ∧ c'.cls = c.cls ∧ c'.vm = c.vm ∧ c'.slots.size = c.slots.size ∧ (∀ i, (x, i) ∉ ws → c'.slots[i]? = c.slots[i]?) ∧ ((∀ w ∈ ws, w.1 ≠ x) → c' = c)
theorem KL.refl (h : Heap) (ws : List (Addr × Nat)) : KL h h ws := ⟨Nat.le_refl _, fun x c q => ⟨c, q, rfl, rfl, rfl, fun _ _ => rfl, fun _ => rfl⟩⟩
theorem KL.trans (K : KL h0 h ws) (K' : KL h h' ws') (q : ∀ w ∈ ws', w ∈ ws ∨ h0.size ≤ w.1) : KL h0 h' ws := by
  refine ⟨Nat.le_trans K.1 K'.1, fun x c hx => ?_⟩
  obtain ⟨c1, a1, a2, a3, a4, a5, a6⟩ := K.2 x c hx
  obtain ⟨c2, b1, b2, b3, b4, b5, b6⟩ := K'.2 x c1 a1
  have hlt : x < h0.size := (Array.getElem?_eq_some_iff.mp hx).1
  refine ⟨c2, b1, b2.trans a2, b3.trans a3, b4.trans a4, fun i hi => ?_, fun hn => ?_⟩
  · rw [b5 i fun hm => ?_]
    · exact a5 i hi
    · rcases q _ hm with u | u
      · exact hi u
      · exact absurd hlt (Nat.not_lt.mpr u)
  · rw [b6 fun w hw e => ?_]
    · exact a6 hn
    · rcases q w hw with u | u
      · exact hn w u e
      · subst e; exact absurd hlt (Nat.not_lt.mpr u)
theorem KL.ofE (E : Ext h h') : KL h h' [] := ⟨E.1, fun x c q => ⟨c, E.2 x c q, rfl, rfl, rfl, fun _ _ => rfl, fun _ => rfl⟩⟩
theorem KL.ofW (W : Wr h h' a sl v) : KL h h' [(a, sl)] := by
  refine ⟨Nat.le_of_eq W.size.symm, fun x c q => ?_⟩
  obtain ⟨c', e1, e2, e3, e4, e5, e6, -⟩ := wr_at W q
  refine ⟨c', e1, e2, e3, e4, fun i hi => ?_, fun hn => e5 fun e => hn _ (List.mem_singleton.mpr rfl) e.symm⟩
  by_cases ex : x = a
  · subst ex; exact e6 i fun ei => hi (by rw [ei]; exact List.mem_singleton.mpr rfl)
  · rw [e5 ex]
theorem KL.ofEq (q : h' = h) : KL h h' [] := q ▸ KL.refl h []
theorem nw0 {x : Addr × Nat} : x ∉ ([] : List (Addr × Nat)) := fun q => nomatch q
theorem nwS {i i' : Nat} {L : List (Addr × Nat)} (q : a ≠ b ∨ i ≠ i') (r : (a, i) ∉ L) : (a, i) ∉ (b, i') :: L := fun y => by
  rcases List.mem_cons.mp y with u | u
  · obtain ⟨u1, u2⟩ := Prod.mk.inj u; exact q.elim (fun f => f u1) (fun f => f u2)
  · exact r u
theorem na0 {P : Addr × Nat → Prop} : ∀ w ∈ ([] : List (Addr × Nat)), P w := fun _ q => nomatch q
theorem naS {P : Addr × Nat → Prop} {x : Addr × Nat} {L : List (Addr × Nat)} (q : P x) (r : ∀ w ∈ L, P w) : ∀ w ∈ x :: L, P w := fun w y => by
  rcases List.mem_cons.mp y with u | u
  · exact u ▸ q
  · exact r w u
theorem kFld (K : KL h h' ws) (F : Fld Z h a C nm dd v) (q : (a, Jvm.RoadKit.slotOf Z C nm dd) ∉ ws) : Fld Z h' a C nm dd v := by
  obtain ⟨cell, cf, k, i, f, h1, h2, h3, h4, h5, h6, h7⟩ := F
  obtain ⟨c', e1, e2, e3, -, e5, -⟩ := K.2 a cell h1
  refine ⟨c', cf, k, i, f, e1, h2, h3, by rw [e3]; exact h4, by rw [e3]; exact h5, by rw [e2]; exact h6, ?_⟩
  rw [e5 f.slot (by simpa [Jvm.RoadKit.slotOf, h2] using q)]; exact h7
theorem kExa (K : KL h h' ws) (F : Exa Z h a C) : Exa Z h' a C := by
  obtain ⟨cell, k, h1, h2, h3, h4, h5⟩ := F
  obtain ⟨c', e1, e2, e3, e4, -⟩ := K.2 a cell h1
  exact ⟨c', k, e1, by rw [e2]; exact h2, by rw [e2]; exact h3, by rw [e3]; exact h4, by rw [e4]; exact h5⟩
theorem kArv (K : KL h h' ws) (F : Arv Z h a k ty z vs dv) (q : ∀ w ∈ ws, w.1 ≠ a) : Arv Z h' a k ty z vs dv := by
  obtain ⟨c, A, r⟩ := F
  obtain ⟨c', e1, -, -, -, -, e6⟩ := K.2 a c A.1
  exact ⟨c, ⟨(e6 q) ▸ e1, A.2⟩, r⟩
theorem kOld (K : KL h h' ws) (O : Old Z n0 h) (q : ∀ w ∈ ws, n0 ≤ w.1) : Old Z n0 h' := by
  refine ⟨O.1, Nat.le_trans O.2.1 K.1, fun x c hx => ?_⟩
  obtain ⟨c', e1, -, -, -, -, e6⟩ := K.2 x c (O.2.2 x c hx)
  have hlt : x < n0 := O.1 ▸ (Array.getElem?_eq_some_iff.mp hx).1
  rw [← e6 fun w hw e => absurd hlt (Nat.not_lt.mpr (e ▸ q w hw))]; exact e1
theorem lt_ne (q : a < h.size) (r : h.size ≤ b) : a ≠ b := Nat.ne_of_lt (Nat.lt_of_lt_of_le q r)
theorem own_wr {g : JFrame} {rest : List Value} {W : Nat} (q : g.monitorRoom = 0) (r : (rest.map fun v => v.category).sum = W) : 2 * g.monitorRoom + (rest.map fun v => v.category).sum ≤ W := by rw [q, r]; omega
theorem naO {x : Addr × Nat} {L : List (Addr × Nat)} (q : x ∈ ws ∨ sl ≤ x.1) (r : ∀ w ∈ L, w ∈ ws ∨ sl ≤ w.1) : ∀ w ∈ x :: L, w ∈ ws ∨ sl ≤ w.1 := naS (P := fun w => w ∈ ws ∨ sl ≤ w.1) q r
theorem naN {x : Addr × Nat} {L : List (Addr × Nat)} (q : x.1 ≠ a) (r : ∀ w ∈ L, w.1 ≠ a) : ∀ w ∈ x :: L, w.1 ≠ a := naS (P := fun w => w.1 ≠ a) q r
theorem own_mi {x : Addr × Nat} (i : Nat) (q : ws[i]? = some x) : x ∈ ws ∨ sl ≤ x.1 := Or.inl (List.mem_of_getElem? q)
theorem naB {P : Addr → Prop} {L : List (Addr × Nat)} (n : Nat) (e : (List.range n).map (fun i => (b, i)) = L) (q : P b) : ∀ w ∈ L, P w.1 := fun w hw => by
  rw [← e] at hw
  obtain ⟨i, -, rfl⟩ := List.mem_map.mp hw
  exact q
theorem naNB {L : List (Addr × Nat)} (n : Nat) (e : (List.range n).map (fun i => (b, i)) = L) (q : b ≠ a) : ∀ w ∈ L, w.1 ≠ a := naB (P := fun x => x ≠ a) n e q
theorem naOB {L : List (Addr × Nat)} (n : Nat) (e : (List.range n).map (fun i => (b, i)) = L) (q : sl ≤ b) : ∀ w ∈ L, w ∈ ws ∨ sl ≤ w.1 := fun w hw => Or.inr (naB (P := fun x => sl ≤ x) n e q w hw)
theorem nwB {i : Nat} {L : List (Addr × Nat)} (n : Nat) (e : (List.range n).map (fun i => (b, i)) = L) (q : a ≠ b) : (a, i) ∉ L := fun y => naB (P := fun x => x ≠ a) n e q.symm _ y rfl
theorem naM {Q : Addr × Nat → Prop} {L : List (Addr × Nat)} (n : Nat) (e : (L.take n).map Prod.fst = List.replicate n b) (q : ∀ i, Q (b, i)) (r : ∀ w ∈ L.drop n, Q w) : ∀ w ∈ L, Q w := fun w hw => by
  rw [← List.take_append_drop n L] at hw
  rcases List.mem_append.mp hw with u | u
  · have h1 := List.mem_map_of_mem (f := Prod.fst) u
    rw [e] at h1
    have h2 := List.eq_of_mem_replicate h1
    obtain ⟨x, i⟩ := w
    have h3 : x = b := h2
    rw [h3]; exact q i
  · exact r w u
theorem naNM {L : List (Addr × Nat)} (n : Nat) (e : (L.take n).map Prod.fst = List.replicate n b) (q : b ≠ a) (r : ∀ w ∈ L.drop n, w.1 ≠ a) : ∀ w ∈ L, w.1 ≠ a := naM (Q := fun w => w.1 ≠ a) n e (fun _ => q) r
theorem naOM {L : List (Addr × Nat)} (n : Nat) (e : (L.take n).map Prod.fst = List.replicate n b) (q : sl ≤ b) (r : ∀ w ∈ L.drop n, w ∈ ws ∨ sl ≤ w.1) : ∀ w ∈ L, w ∈ ws ∨ sl ≤ w.1 := naM (Q := fun w => w ∈ ws ∨ sl ≤ w.1) n e (fun _ => Or.inr q) r
theorem naGM {L : List (Addr × Nat)} (n : Nat) (e : (L.take n).map Prod.fst = List.replicate n b) (q : sl ≤ b) (r : ∀ w ∈ L.drop n, sl ≤ w.1) : ∀ w ∈ L, sl ≤ w.1 := naM (Q := fun w => sl ≤ w.1) n e (fun _ => q) r
theorem nwM {i : Nat} {L : List (Addr × Nat)} (n : Nat) (e : (L.take n).map Prod.fst = List.replicate n b) (q : a ≠ b) (r : (a, i) ∉ L.drop n) : (a, i) ∉ L := fun y => naM (Q := fun w => w ≠ (a, i)) n e (fun _ z => q (Prod.mk.inj z).1.symm) (fun w hw z => r (z ▸ hw)) _ y rfl
theorem own_retJ (X : Stand p l e R s m args below meth c T locs cells slots) (hx : p.tables.exec = Jvm.exec) {pc : Nat} {Ls : Array Slot} {z : Int64} {rest : List Value} (hret : meth.sig.returnType = some .long) (hd : decode c.code pc = .ok (.lreturn, 1)) {fs : List Frame}
    (hl : ∀ (f : JFrame) (acts : List Action), f.method = m → f.locked = none → f.entered = [] → (doReturn e (T.setTop f) acts (some (.long z))).1 = T.setFrames fs) : Steps p.tables e below (T.setTop (mkF m pc Ls (.long z :: rest))) (T.setFrames fs) := by
  have hm' : T.vm.method? m = some meth := X.method'
  show Steps p.tables e below (T.setTop { method := m, pc := pc, locals := Ls, stack := _ :: rest, locked := none }) _
  jvm_step X.here [X.here.top, hx, hd, hm', hret, narrow]
  first | (intro acts; rw [hl _ acts rfl rfl rfl]) | rw [hl _ _ rfl rfl rfl]
  exact Steps.refl _
theorem own_retD (X : Stand p l e R s m args below meth c T locs cells slots) (hx : p.tables.exec = Jvm.exec) {pc : Nat} {Ls : Array Slot} {z : UInt64} {rest : List Value} (hret : meth.sig.returnType = some .double) (hd : decode c.code pc = .ok (.dreturn, 1)) {fs : List Frame}
    (hl : ∀ (f : JFrame) (acts : List Action), f.method = m → f.locked = none → f.entered = [] → (doReturn e (T.setTop f) acts (some (.double z))).1 = T.setFrames fs) : Steps p.tables e below (T.setTop (mkF m pc Ls (.double z :: rest))) (T.setFrames fs) := by
  have hm' : T.vm.method? m = some meth := X.method'
  show Steps p.tables e below (T.setTop { method := m, pc := pc, locals := Ls, stack := _ :: rest, locked := none }) _
  jvm_step X.here [X.here.top, hx, hd, hm', hret, narrow]
  first | (intro acts; rw [hl _ acts rfl rfl rfl]) | rw [hl _ _ rfl rfl rfl]
  exact Steps.refl _
theorem own_nf {x0 y0 y : MethodName} (w : (Cond.selects C x0 y0).before args s = true) (hyy : y0.cls = y.cls) : NotFace s y := fun r0 h0 => by
  obtain ⟨_, _, m2, -, -, q3, -, kr, hkr, hni⟩ := Cond.selects_spec w
  have hc2 := findClass_of_methodNamed q3
  rw [hyy, findClass_of_methodNamed h0] at hc2
  rw [← Option.some.inj hc2] at hkr
  exact ⟨kr, hkr, hni⟩
theorem own_nsR {O K : String} {n : Nat} (w : (Cond.noSuperclass O).before a0 Z = true) (wk : (Cond.instantiable K n).before a0 Z = true) (hn : O ≠ K) : NS Z O K := by
  obtain ⟨c, k, h1, h2, h3, -, -⟩ := Cond.noSuperclass_spec w
  obtain ⟨t, k', g1, -⟩ := Cond.instantiable_spec wk
  have ne := ids_ne h1 g1 hn
  refine ⟨c, t, h1, g1, fun fuel => ?_⟩
  cases fuel with
  | zero => rfl
  | succ f => simp [Vm.isSubclassAux, ne, h2, h3]
theorem own_nsN {S K : String} {n : Nat} (w : (Cond.superclass C S).before a0 Z = true) (wk : (Cond.instantiable K n).before a0 Z = true) (q : NS Z C K) (hn : C ≠ K) : ∃ c t, Z.vm.findClass C = some c ∧ Z.vm.findClass K = some t ∧ Z.vm.assignable c t = false := by
  obtain ⟨c, t, h0, g0, n3⟩ := q
  obtain ⟨p, k, kp, h1, h2, h3, h4, h5, -, h7⟩ := Cond.superclass_spec h0 w
  obtain ⟨t', k', g1, g2, g5, g7, -⟩ := Cond.instantiable_spec wk
  cases g0.symm.trans g1
  have g8 : k'.isInterface = false := by
    cases hi : k'.isInterface with
    | false => rfl
    | true => simp [hi] at g7
  have ne := ids_ne h0 g0 hn
  refine ⟨c, t, h0, g0, ?_⟩
  show Z.vm.assignableAux (255 + 1) c t = false
  simp [Vm.assignableAux, ne, h2, g2, h5, g5, g8, Vm.isSubclass, n3]
theorem nfS {y : MethodName} (hZ : Z.Warmed39 s.vm) (w : (Cond.selects C y y).before a0 Z = true) : NotFace s y := notFace_of_selects (args := #[]) (mvT hZ w)
theorem own_static (X : Stand p l e R s m args below meth c T locs cells slots) (hx : p.tables.exec = Jvm.exec) (hZ : Z.Warmed39 s.vm) {own : String} {index : Nat} {y : MethodName} {bytes : ByteArray} {maxL : Nat} {ret : Option FieldType} {rm : Room} {Q : Option Value → Heap → List Loc → Prop} {as' : Array Value}
    (hown : s.vm.findClass own = some m.cls) (w1 : (Cond.methodLink own index y).before a0 Z = true) (w2 : (Cond.static y).before a0 Z = true) (w3 : (Cond.initialized y.cls).before a0 Z = true) (w4 : (Cond.code y bytes maxL ret).before a0 Z = true) (hy : y.cls ≠ "java/lang/invoke/MethodHandle" ∧ y.cls ≠ "java/lang/invoke/VarHandle")
    (hM : MetFree l y (head1 [Cond.code y bytes maxL ret] rm) (fun a U => a = as' ∧ Z.Warmed39 U.vm ∧ U.heap = h) (fun _ _ _ _ _ => True) (fun _ U o U' => ∃ v L, o = .returned v ∧ Q v U'.heap L ∧ FrameEnd U o U' L rm.cells rm.slots))
    (eT : T.heap = h) {W : Nat} (hR : rm.frames + 1 ≤ R.frames ∧ W + (maxL + 11) + rm.locals ≤ R.locals ∧ cells + rm.cells ≤ R.cells ∧ slots + rm.slots ≤ R.slots)
    {g : JFrame} (hg : g.method = m) (hsize : g.locals.size = c.maxLocals) {argsL rest : List Value} (hlen : ∀ sig, parseMethodDescriptor y.desc = some sig → argsL.length = sig.parameters.length) (hstack : g.stack = argsL.reverse ++ rest) (has : argsL.toArray = as') (hW : 2 * g.monitorRoom + (rest.map fun v => v.category).sum ≤ W) (hd : decode c.code g.pc = .ok (.invokestatic index, 3)) :
    ∃ (v : Option Value) (T' : State) (L : List Loc), Stand p l e R s m args below meth c T' (locs ++ L) (cells + rm.cells) (slots + rm.slots) ∧ Q v T'.heap L ∧ ∀ target, Steps p.tables e below (T'.setTop { g with pc := g.pc + 3, stack := v.toList ++ rest }) target → Steps p.tables e below (T.setTop g) target := by
  obtain ⟨v, _, ⟨T', L', k', n'⟩, -, X', ⟨L, hQ, l1, l2, l3⟩, st⟩ := Jvm.LawKit.callS X hx (y := y) hown (mvT hZ w1) (mvT hZ w2) (mvT hZ w3) (mvT hZ w4) hy (backOf (W := W) hM hZ w4 w3 hR.1 hR.2.1) (g := g) hg hsize (argsL := argsL) (rest := rest) hlen hstack hW hd (fun _ _ => ⟨has, eT, hR.2.2.1, hR.2.2.2⟩)
  dsimp only [Pt.U, Pt.locs, Pt.cells, Pt.slots] at X' l1 l2 l3 st hQ
  subst l1 l2 l3
  exact ⟨v, T', L, X', hQ, st⟩
theorem own_init (X : Stand p l e R s m args below meth c T locs cells slots) (hx : p.tables.exec = Jvm.exec) (hZ : Z.Warmed39 s.vm) {own : String} {index : Nat} {y : MethodName} {bytes : ByteArray} {maxL : Nat} {rm : Room} {Q : Option Value → Heap → List Loc → Prop} {as' : Array Value} (hy1 : y.name = "<init>")
    (hown : s.vm.findClass own = some m.cls) (w1 : (Cond.methodLink own index y).before a0 Z = true) (w2 : (Cond.instanceMethod y).before a0 Z = true) (w3 : (Cond.initialized y.cls).before a0 Z = true) (w4 : (Cond.code y bytes maxL none).before a0 Z = true) (hy : y.cls ≠ "java/lang/invoke/MethodHandle" ∧ y.cls ≠ "java/lang/invoke/VarHandle")
    (hM : MetFree l y (head1 [Cond.code y bytes maxL none] rm) (fun a U => a = as' ∧ Z.Warmed39 U.vm ∧ U.heap = h) (fun _ _ _ _ _ => True) (fun _ U o U' => ∃ v L, o = .returned v ∧ Q v U'.heap L ∧ FrameEnd U o U' L rm.cells rm.slots))
    (eT : T.heap = h) {W : Nat} (hR : rm.frames + 1 ≤ R.frames ∧ W + (maxL + 11) + rm.locals ≤ R.locals ∧ cells + rm.cells ≤ R.cells ∧ slots + rm.slots ≤ R.slots)
    {g : JFrame} (hg : g.method = m) (hsize : g.locals.size = c.maxLocals) {argsL rest : List Value} (hlen : ∀ sig, parseMethodDescriptor y.desc = some sig → argsL.length = sig.parameters.length) (hstack : g.stack = argsL.reverse ++ .ref a :: rest) (has : (.ref a :: argsL).toArray = as') (hW : 2 * g.monitorRoom + (rest.map fun v => v.category).sum ≤ W) (hd : decode c.code g.pc = .ok (.invokespecial index, 3)) :
    ∃ (v : Option Value) (T' : State) (L : List Loc), Stand p l e R s m args below meth c T' (locs ++ L) (cells + rm.cells) (slots + rm.slots) ∧ Q v T'.heap L ∧ ∀ target, Steps p.tables e below (T'.setTop { g with pc := g.pc + 3, stack := v.toList ++ rest }) target → Steps p.tables e below (T.setTop g) target := by
  obtain ⟨v, _, ⟨T', L', k', n'⟩, -, X', ⟨L, hQ, l1, l2, l3⟩, st⟩ := X.specialBack hx (y := y) hy1 hown (mvT hZ w1) (mvT hZ w2) (mvT hZ w4) hy (backOf (W := W) hM hZ w4 w3 hR.1 hR.2.1) (g := g) hg hsize (Steps.refl _) (a := a) (argsL := argsL) (rest := rest) hlen hstack hW hd (fun _ _ => ⟨has, eT, hR.2.2.1, hR.2.2.2⟩)
  dsimp only [Pt.U, Pt.locs, Pt.cells, Pt.slots] at X' l1 l2 l3 st hQ
  subst l1 l2 l3
  exact ⟨v, T', L, X', hQ, fun _ t => st.trans t⟩
theorem own_virtual (X : Stand p l e R s m args below meth c T locs cells slots) (hx : p.tables.exec = Jvm.exec) (hZ : Z.Warmed39 s.vm) {own : String} {index : Nat} {y z : MethodName} {bytes : ByteArray} {maxL : Nat} {ret : Option FieldType} {rm : Room} {Q : Option Value → Heap → List Loc → Prop} {as' : Array Value}
    (hown : s.vm.findClass own = some m.cls) (w1 : (Cond.methodLink own index y).before a0 Z = true) (w2 : (Cond.declares y).before a0 Z = true) (hnf : NotFace s y) (w5 : (Cond.selects C y z).before a0 Z = true) (w6 : (Cond.instanceMethod z).before a0 Z = true) (w3 : (Cond.initialized z.cls).before a0 Z = true) (w4 : (Cond.code z bytes maxL ret).before a0 Z = true) (hy : y.cls ≠ "java/lang/invoke/MethodHandle" ∧ y.cls ≠ "java/lang/invoke/VarHandle")
    (hM : MetFree l z (head1 [Cond.code z bytes maxL ret] rm) (fun a U => a = as' ∧ Z.Warmed39 U.vm ∧ U.heap = h) (fun _ _ _ _ _ => True) (fun _ U o U' => ∃ v L, o = .returned v ∧ Q v U'.heap L ∧ FrameEnd U o U' L rm.cells rm.slots))
    (eT : T.heap = h) (E : Exa Z h a C) {W : Nat} (hR : rm.frames + 1 ≤ R.frames ∧ W + (maxL + 11) + rm.locals ≤ R.locals ∧ cells + rm.cells ≤ R.cells ∧ slots + rm.slots ≤ R.slots)
    {g : JFrame} (hg : g.method = m) (hsize : g.locals.size = c.maxLocals) {argsL rest : List Value} (hlen : ∀ sig, parseMethodDescriptor y.desc = some sig → argsL.length = sig.parameters.length) (hstack : g.stack = argsL.reverse ++ .ref a :: rest) (has : (.ref a :: argsL).toArray = as') (hW : 2 * g.monitorRoom + (rest.map fun v => v.category).sum ≤ W) (hd : decode c.code g.pc = .ok (.invokevirtual index, 3)) :
    ∃ (v : Option Value) (T' : State) (L : List Loc), Stand p l e R s m args below meth c T' (locs ++ L) (cells + rm.cells) (slots + rm.slots) ∧ Q v T'.heap L ∧ ∀ target, Steps p.tables e below (T'.setTop { g with pc := g.pc + 3, stack := v.toList ++ rest }) target → Steps p.tables e below (T.setTop g) target := by
  obtain ⟨cq, kq, qa, qb, qc⟩ := isOf hZ eT E
  obtain ⟨v, _, ⟨T', L', k', n'⟩, -, X', ⟨L, hQ, l1, l2, l3⟩, st⟩ := X.virtualBack hx (y := y) (z := z) hown (mvT hZ w1) (mvT hZ w2) hnf (mvT hZ w5) (mvT hZ w6) hy (backOf (W := W) hM hZ w4 w3 hR.1 hR.2.1) qa qc (g := g) hg hsize (Steps.refl _) (argsL := argsL) (rest := rest) hlen hstack hW hd (fun _ _ => ⟨has, eT, hR.2.2.1, hR.2.2.2⟩)
  dsimp only [Pt.U, Pt.locs, Pt.cells, Pt.slots] at X' l1 l2 l3 st hQ
  subst l1 l2 l3
  exact ⟨v, T', L, X', hQ, fun _ t => st.trans t⟩
theorem own_private (X : Stand p l e R s m args below meth c T locs cells slots) (hx : p.tables.exec = Jvm.exec) (hZ : Z.Warmed39 s.vm) {own : String} {index : Nat} {y x0 y0 : MethodName} {bytes : ByteArray} {maxL : Nat} {ret : Option FieldType} {rm : Room} {Q : Option Value → Heap → List Loc → Prop} {as' : Array Value}
    (hown : s.vm.findClass own = some m.cls) (w1 : (Cond.methodLink own index y).before a0 Z = true) (w6 : (Cond.instanceMethod y).before a0 Z = true) (w5 : (Cond.selects C x0 y0).before a0 Z = true) (hyy : y0.cls = y.cls) (w7 : (Cond.privateMethod y).before a0 Z = true) (w3 : (Cond.initialized y.cls).before a0 Z = true) (w4 : (Cond.code y bytes maxL ret).before a0 Z = true) (hy : y.cls ≠ "java/lang/invoke/MethodHandle" ∧ y.cls ≠ "java/lang/invoke/VarHandle")
    (hM : MetFree l y (head1 [Cond.code y bytes maxL ret] rm) (fun a U => a = as' ∧ Z.Warmed39 U.vm ∧ U.heap = h) (fun _ _ _ _ _ => True) (fun _ U o U' => ∃ v L, o = .returned v ∧ Q v U'.heap L ∧ FrameEnd U o U' L rm.cells rm.slots))
    (eT : T.heap = h) (E : Exa Z h a nm) {W : Nat} (hR : rm.frames + 1 ≤ R.frames ∧ W + (maxL + 11) + rm.locals ≤ R.locals ∧ cells + rm.cells ≤ R.cells ∧ slots + rm.slots ≤ R.slots)
    {g : JFrame} (hg : g.method = m) (hsize : g.locals.size = c.maxLocals) {argsL rest : List Value} (hlen : ∀ sig, parseMethodDescriptor y.desc = some sig → argsL.length = sig.parameters.length) (hstack : g.stack = argsL.reverse ++ .ref a :: rest) (has : (.ref a :: argsL).toArray = as') (hW : 2 * g.monitorRoom + (rest.map fun v => v.category).sum ≤ W) (hd : decode c.code g.pc = .ok (.invokevirtual index, 3)) :
    ∃ (v : Option Value) (T' : State) (L : List Loc), Stand p l e R s m args below meth c T' (locs ++ L) (cells + rm.cells) (slots + rm.slots) ∧ Q v T'.heap L ∧ ∀ target, Steps p.tables e below (T'.setTop { g with pc := g.pc + 3, stack := v.toList ++ rest }) target → Steps p.tables e below (T.setTop g) target := by
  obtain ⟨cell, _, qa, -, -, qc, -⟩ := E
  obtain ⟨mk, methM, hnamed, hmethM, -, -⟩ := Cond.instanceMethod_spec (mvT hZ w6 : (Cond.instanceMethod y).before args _ = true)
  obtain ⟨_, _, m2, -, -, q3, -, kr, hkr, hni⟩ := Cond.selects_spec (mvT hZ w5 : (Cond.selects C x0 y0).before args _ = true)
  have hc2 := findClass_of_methodNamed q3
  rw [hyy] at hc2
  have hpr := Cond.privateMethod_at (mvT hZ w7 : (Cond.privateMethod y).before args _ = true)
  have hsel := Jvm.Stand.selects_self_of_private (args := args) hc2 hkr hni hpr (mvT hZ w6) hy
  obtain ⟨v, _, ⟨T', L', k', n'⟩, -, X', ⟨L, hQ, l1, l2, l3⟩, st⟩ := X.privateBack hx (y := y) hown (mvT hZ w1) (mvT hZ w6) hsel hpr (mvT hZ w4) hy (backOf (W := W) hM hZ w4 w3 hR.1 hR.2.1) (g := g) hg hsize (Steps.refl _) (a := a) (cell := cell) (by rw [eT]; exact qa) (fun q eq => by rw [eq] at qc; exact absurd qc (by simp [VmData.isStatics])) (argsL := argsL) (rest := rest) hlen hstack hW hd (fun _ _ => ⟨has, eT, hR.2.2.1, hR.2.2.2⟩)
  dsimp only [Pt.U, Pt.locs, Pt.cells, Pt.slots] at X' l1 l2 l3 st hQ
  subst l1 l2 l3
  exact ⟨v, T', L, X', hQ, fun _ t => st.trans t⟩
theorem own_super (X : Stand p l e R s m args below meth c T locs cells slots) (hx : p.tables.exec = Jvm.exec) (hZ : Z.Warmed39 s.vm) {own : String} {index : Nat} {y x0 y0 : MethodName} {bytes : ByteArray} {maxL : Nat} {ret : Option FieldType} {rm : Room} {Q : Option Value → Heap → List Loc → Prop} {as' : Array Value}
    (hown : s.vm.findClass own = some m.cls) (w1 : (Cond.methodLink own index y).before a0 Z = true) (w6 : (Cond.instanceMethod y).before a0 Z = true) (w5 : (Cond.selects C x0 y0).before a0 Z = true) (hyy : y0.cls = y.cls) (w8 : (Cond.superclass own y.cls).before a0 Z = true) (hyn : y.name ≠ "<init>") (w3 : (Cond.initialized y.cls).before a0 Z = true) (w4 : (Cond.code y bytes maxL ret).before a0 Z = true) (hy : y.cls ≠ "java/lang/invoke/MethodHandle" ∧ y.cls ≠ "java/lang/invoke/VarHandle")
    (hM : MetFree l y (head1 [Cond.code y bytes maxL ret] rm) (fun a U => a = as' ∧ Z.Warmed39 U.vm ∧ U.heap = h) (fun _ _ _ _ _ => True) (fun _ U o U' => ∃ v L, o = .returned v ∧ Q v U'.heap L ∧ FrameEnd U o U' L rm.cells rm.slots))
    (eT : T.heap = h) (E : Exa Z h a nm) {W : Nat} (hR : rm.frames + 1 ≤ R.frames ∧ W + (maxL + 11) + rm.locals ≤ R.locals ∧ cells + rm.cells ≤ R.cells ∧ slots + rm.slots ≤ R.slots)
    {g : JFrame} (hg : g.method = m) (hsize : g.locals.size = c.maxLocals) {argsL rest : List Value} (hlen : ∀ sig, parseMethodDescriptor y.desc = some sig → argsL.length = sig.parameters.length) (hstack : g.stack = argsL.reverse ++ .ref a :: rest) (has : (.ref a :: argsL).toArray = as') (hW : 2 * g.monitorRoom + (rest.map fun v => v.category).sum ≤ W) (hd : decode c.code g.pc = .ok (.invokespecial index, 3)) :
    ∃ (v : Option Value) (T' : State) (L : List Loc), Stand p l e R s m args below meth c T' (locs ++ L) (cells + rm.cells) (slots + rm.slots) ∧ Q v T'.heap L ∧ ∀ target, Steps p.tables e below (T'.setTop { g with pc := g.pc + 3, stack := v.toList ++ rest }) target → Steps p.tables e below (T.setTop g) target := by
  obtain ⟨mk, methM, hnamed, hmethM, -, -⟩ := Cond.instanceMethod_spec w6
  obtain ⟨_, _, m2, -, -, q3, -, kr, hkr, hni⟩ := Cond.selects_spec w5
  have hc2 := findClass_of_methodNamed q3
  rw [hyy, findClass_of_methodNamed hnamed] at hc2
  rw [← Option.some.inj hc2] at hkr
  have w2 : (Cond.sameMethod y.cls y.cls y.name y.desc).before a0 Z = true := by
    simp [Cond.before, Cond.holds, Cond.value, findClass_of_methodNamed hnamed, State.methodFound?_of_named hnamed hy, hnamed, hkr, hni]
  obtain ⟨v, _, ⟨T', L', k', n'⟩, -, X', ⟨L, hQ, l1, l2, l3⟩, st⟩ := superBack X hx hZ (y := y) hown w1 w2 w6 w8 hyn (backOf (W := W) hM hZ w4 w3 hR.1 hR.2.1) eT (Ins.self E) (g := g) hg hsize w4 (argsL := argsL) (rest := rest) hlen hstack hW hd (fun _ _ => ⟨has, eT, hR.2.2.1, hR.2.2.2⟩)
  dsimp only [Pt.U, Pt.locs, Pt.cells, Pt.slots] at X' l1 l2 l3 st hQ
  subst l1 l2 l3
  exact ⟨v, T', L, X', hQ, fun _ t => st.trans t⟩
theorem own_face (X : Stand p l e R s m args below meth c T locs cells slots) (hx : p.tables.exec = Jvm.exec) (hZ : Z.Warmed39 s.vm) {own : String} {index count : Nat} {y z : MethodName} {bytes : ByteArray} {maxL : Nat} {ret : Option FieldType} {rm : Room} {Q : Option Value → Heap → List Loc → Prop} {as' : Array Value}
    (hown : s.vm.findClass own = some m.cls) (w1 : (Cond.methodLink own index y).before a0 Z = true) (w2 : (Cond.declares y).before a0 Z = true) (wf : (Cond.interfaceMethod y.cls y.cls y.name y.desc).before args s = true) (w5 : (Cond.selects C y z).before a0 Z = true) (w6 : (Cond.instanceMethod z).before a0 Z = true) (w7 : (Cond.publicMethod z).before a0 Z = true) (w8 : (Cond.unhidden C y.name y.desc).before a0 Z = true) (w9 : (Cond.castable C y.cls).before a0 Z = true) (w3 : (Cond.initialized z.cls).before a0 Z = true) (w4 : (Cond.code z bytes maxL ret).before a0 Z = true) (hy : y.cls ≠ "java/lang/invoke/MethodHandle" ∧ y.cls ≠ "java/lang/invoke/VarHandle")
    (hM : MetFree l z (head1 [Cond.code z bytes maxL ret] rm) (fun a U => a = as' ∧ Z.Warmed39 U.vm ∧ U.heap = h) (fun _ _ _ _ _ => True) (fun _ U o U' => ∃ v L, o = .returned v ∧ Q v U'.heap L ∧ FrameEnd U o U' L rm.cells rm.slots))
    (eT : T.heap = h) (E : Exa Z h a C) {W : Nat} (hR : rm.frames + 1 ≤ R.frames ∧ W + (maxL + 11) + rm.locals ≤ R.locals ∧ cells + rm.cells ≤ R.cells ∧ slots + rm.slots ≤ R.slots)
    {g : JFrame} (hg : g.method = m) (hsize : g.locals.size = c.maxLocals) {argsL rest : List Value} (hlen : ∀ sig, parseMethodDescriptor y.desc = some sig → argsL.length = sig.parameters.length) (hstack : g.stack = argsL.reverse ++ .ref a :: rest) (has : (.ref a :: argsL).toArray = as') (hW : 2 * g.monitorRoom + (rest.map fun v => v.category).sum ≤ W) (hd : decode c.code g.pc = .ok (.invokeinterface index count, 5)) :
    ∃ (v : Option Value) (T' : State) (L : List Loc), Stand p l e R s m args below meth c T' (locs ++ L) (cells + rm.cells) (slots + rm.slots) ∧ Q v T'.heap L ∧ ∀ target, Steps p.tables e below (T'.setTop { g with pc := g.pc + 5, stack := v.toList ++ rest }) target → Steps p.tables e below (T.setTop g) target := by
  obtain ⟨cq, kq, qa, qb, qc⟩ := isOf hZ eT E
  obtain ⟨v, _, ⟨T', L', k', n'⟩, -, X', ⟨L, hQ, l1, l2, l3⟩, st⟩ := X.interfaceBack hx (xi := y) (y := z) hown (mvT hZ w1) (mvT hZ w2) wf (mvT hZ w5) (mvT hZ w6) (mvT hZ w7) (mvT hZ w8) (mvT hZ w9) hy (backOf (W := W) hM hZ w4 w3 hR.1 hR.2.1) qa qb qc (g := g) hg hsize (Steps.refl _) (argsL := argsL) (rest := rest) hlen hstack hW hd (fun _ _ => ⟨has, eT, hR.2.2.1, hR.2.2.2⟩)
  dsimp only [Pt.U, Pt.locs, Pt.cells, Pt.slots] at X' l1 l2 l3 st hQ
  subst l1 l2 l3
  exact ⟨v, T', L, X', hQ, fun _ t => st.trans t⟩
theorem own_mvR {U : State} {own O : String} {index : Nat} (hZ : Z.Warmed39 U.vm) (w : (Cond.fieldRef own index O nm dd).before a0 Z = true) : (Cond.fieldRef own index O nm dd).before args U = true := (Cond.fieldRef_warmed39 (s := Z) (vm' := U.vm) hZ w :)
theorem own_getFR (X : Stand p l e R s m args below meth c T locs cells slots) (hx : p.tables.exec = Jvm.exec) (hZ : Z.Warmed39 s.vm) {own O : String} {index : Nat} (hown : s.vm.findClass own = some m.cls) (w : (Cond.fieldRef own index O nm dd).before a0 Z = true)
    (eT : T.heap = h) (F : Fld Z h a O nm dd v) {g : JFrame} (hg : g.method = m) {rest : List Value} (hs : g.stack = .ref a :: rest) (hd : decode c.code g.pc = .ok (.getfield index, 3)) : ∃ T', Stand p l e R s m args below meth c T' locs cells slots ∧ T'.heap = h ∧ ∀ target, Steps p.tables e below (T'.setTop { g with pc := g.pc + 3, stack := v :: rest }) target → Steps p.tables e below (T.setTop g) target := by
  obtain ⟨cell, cf, k, i, f, h1, h2, h3, h4, -, -, h7⟩ := F
  have hZT : Z.Warmed39 T.vm := wtrans hZ X.warmed
  have hownT : T.vm.findClass own = some m.cls := by rw [X.warmed.alike.findClass]; exact hown
  obtain ⟨cf', k', i', f', g1, hready⟩ := Cond.fieldRef_spec hownT (own_mvR (args := args) hZT w)
  obtain ⟨k2, g2, -⟩ := State.fieldFound?_setVm (s := Z) hZT.alike h2
  cases (show T.fieldFound? O nm dd = _ from g2).symm.trans g1
  refine ⟨T, X, eT, fun target hrest => ?_⟩
  subst hg
  jvm_step X.here [hx, hd, getfield.wp_ready (e := e) (s := T) (f := g) X.here.top hready h3 hs (show T.heap[a]? = some cell by rw [eT]; exact h1) h4 h7]
  exact hrest
theorem own_putFR (X : Stand p l e R s m args below meth c T locs cells slots) (hx : p.tables.exec = Jvm.exec) (hZ : Z.Warmed39 s.vm) {own O : String} {index kk : Nat} (hown : s.vm.findClass own = some m.cls) (w : (Cond.fieldRef own index O nm dd).before a0 Z = true)
    (eT : T.heap = h) {old : Value} (F : Fld Z h a O nm dd old) (E : Exa Z h a C) (L : (Cond.lays C O nm dd).before a0 Z = true) (wi : (Cond.instantiable C kk).before a0 Z = true)
    (hty : parseFieldDescriptor dd = some ty) (hn : narrow ty v = v) (hf : fits ty v = true) {g : JFrame} (hg : g.method = m) {rest : List Value} (hs : g.stack = v :: .ref a :: rest) (hd : decode c.code g.pc = .ok (.putfield index, 3)) :
    ∃ T' h', Stand p l e R s m args below meth c T' (locs ++ [⟨a, Jvm.RoadKit.slotOf Z O nm dd⟩]) cells slots ∧ T'.heap = h' ∧ Wr h h' a (Jvm.RoadKit.slotOf Z O nm dd) v ∧ ∀ target, Steps p.tables e below (T'.setTop { g with pc := g.pc + 3, stack := rest }) target → Steps p.tables e below (T.setTop g) target := by
  obtain ⟨cell, cf, k, i, f, h1, h2, h3, h4, h5, -, h7⟩ := F
  obtain ⟨cell', kc, e1, e2, e3, -⟩ := E
  cases h1.symm.trans e1
  obtain ⟨c1, k1, cf1, kf1, i1, f1, a1, a2, a3, -, -, a6, -⟩ := Laid.spec (Or.inl L)
  cases h2.symm.trans a3
  cases e2.symm.trans a1
  obtain ⟨c2, k2, i1, i2, i3, -⟩ := Cond.instantiable_spec wi
  cases e2.symm.trans i1
  cases a2.symm.trans i2
  have ht := (State.fieldFound?_type h2 hty).2
  have hfit : Z.fitsSlot cell.cls cell.vm f.slot v = true := by
    have q : Z.slotType? cell.cls cell.vm f.slot = some ty := by
      simp only [State.slotType?, a2, Option.bind_eq_bind, Option.bind_some, i3]
      cases hq : cell.vm <;> first | (rw [hq] at h5; exact Bool.noConfusion h5) | (rw [a6, ht])
    simp [State.fitsSlot, q, hf]
  have hZT : Z.Warmed39 T.vm := wtrans hZ X.warmed
  have hfit' : T.fitsSlot cell.cls cell.vm f.slot v = true := by rw [← State.fitsSlot_setVm hZT.alike] at hfit; exact hfit
  have hfin : hasFlag f.accessFlags Acc.final = false := by
    obtain ⟨_, _, _, _, _, _, -, -, b3, -, b5, -⟩ := Cond.lays_spec L
    cases h2.symm.trans b3
    exact b5
  have hownT : T.vm.findClass own = some m.cls := by rw [X.warmed.alike.findClass]; exact hown
  obtain ⟨cf', k', i', f', g1, hready⟩ := Cond.fieldRef_spec hownT (own_mvR (args := args) hZT w)
  obtain ⟨k3, g2, -⟩ := State.fieldFound?_setVm (s := Z) hZT.alike h2
  cases (show T.fieldFound? O nm dd = _ from g2).symm.trans g1
  have hlt := (Array.getElem?_eq_some_iff.mp h7).1
  have es : Jvm.RoadKit.slotOf Z O nm dd = f.slot := by simp [Jvm.RoadKit.slotOf, h2]
  rw [es]
  obtain ⟨X', st⟩ := X.putfieldReady hx hready h3 (Or.inl hfin) (show T.heap[a]? = some cell by rw [eT]; exact h1) h4 hlt (by rw [ht]; exact hn) hfit' hg hs hd
  exact ⟨_, _, X', rfl, ⟨cell, h1, h5, hlt, by rw [← eT]; rfl⟩, st⟩
end Own
/-- a body's contract -/
abbrev MF (l : Launch) (Z : State) (y : MethodName) (bytes : ByteArray) (maxL : Nat) (ret : Option FieldType) (ws : List Jvm.Cond) (rm : Room) (as' : Array Value) (h0 : Heap) (Q : Option Value → Heap → List Loc → Prop) : Prop :=
  MetFree l y (head1 (Jvm.Cond.code y bytes maxL ret :: ws) rm) (fun a U => a = as' ∧ Z.Warmed39 U.vm ∧ U.heap = h0) (fun _ _ _ _ _ => True) (fun _ U o U' => ∃ v L, o = .returned v ∧ Q v U'.heap L ∧ FrameEnd U o U' L rm.cells rm.slots)
theorem own_body {l : Launch} {Z : State} {y : MethodName} {bytes : ByteArray} {maxL : Nat} {ret : Option FieldType} {ws : List Jvm.Cond} {rm : Room} {as' : Array Value} {h0 : Heap} {Q : Option Value → Heap → List Loc → Prop} {k n : Nat} {L0 : Array Slot} (hp : plainFor y = true) (hef : ∀ m, entryFrame m as' maxL = mkF m 0 L0 []) (hk : k ≤ rm.cells) (hn : n ≤ rm.slots)
    (H : ∀ (p : Program) (e : Env) (s : State) (m : MethodId) (below : List Frame) (meth : Method) (c : Code) (s₁ : State), p.tables.exec = Jvm.exec → c.code = bytes → c.maxLocals = maxL → s.vm.findClass y.cls = some m.cls → meth.name = y.name → meth.sig.returnType = ret → Z.Warmed39 s.vm → s.heap = h0 → s₁.heap = h0 → Stand p l e rm s m as' below meth c s₁ [] 0 0 →
      ∃ (T : State) (L : List Loc) (v : Option Value), Stand p l e rm s m as' below meth c T L k n ∧ (ret = none → v = none) ∧ Q v T.heap L ∧ ∀ fs, (∀ (f : JFrame) (acts : List Action), f.method = m → f.locked = none → f.entered = [] → (doReturn e (T.setTop f) acts v).1 = T.setFrames fs) → Steps p.tables e below (s₁.setTop (mkF m 0 L0 [])) (T.setFrames fs)) :
    MetFree l y (head1 (Jvm.Cond.code y bytes maxL ret :: ws) rm) (fun a U => a = as' ∧ Z.Warmed39 U.vm ∧ U.heap = h0) (fun _ _ _ _ _ => True) (fun _ U o U' => ∃ v L, o = .returned v ∧ Q v U'.heap L ∧ FrameEnd U o U' L k n) := by
  refine MetFree.of_bodySF hp hisR ?_
  intro p e s m args below meth c s₁ Bd hml0 hP hK
  obtain ⟨rfl, hZ, hh⟩ := hP
  have e0 : s₁.heap = h0 := by rw [← hh, Bd.state]; rfl
  have hnm := (name_of_methodNamed Bd.named Bd.method).1
  obtain ⟨T, L, v, X, hv, hQ, st⟩ := H p e s m below meth c s₁ Bd.exec Bd.bytes hml0 (findClass_of_methodNamed Bd.named) hnm Bd.returns hZ hh e0 (Stand.of_body Bd)
  obtain ⟨fs, hr, hrun, hended, hW, hsame⟩ := X.leave (v := v) (fun h => hv (Bd.returns.symm.trans h)) Bd.notSynchronized
  refine ⟨_, _, castTop (hef m) (st fs hr), hrun, hended, v, L, rfl, ?_, ⟨_, rfl⟩, hW, hsame⟩
  exact hQ
theorem own_law {l : Launch} {Z : State} {y : MethodName} {bytes : ByteArray} {maxL : Nat} {ret : Option FieldType} {ws : List Jvm.Cond} {rm : Room} {as' : Array Value} {h0 : Heap} {Q : Option Value → List Loc → Prop} {k n k' n' : Nat} {L0 : Array Slot} (hp : plainFor y = true) (hef : ∀ m, entryFrame m as' maxL = mkF m 0 L0 []) (hk : k ≤ k') (hn : n ≤ n')
    (H : ∀ (p : Program) (e : Env) (s : State) (m : MethodId) (below : List Frame) (meth : Method) (c : Code) (s₁ : State), p.tables.exec = Jvm.exec → c.code = bytes → c.maxLocals = maxL → s.vm.findClass y.cls = some m.cls → meth.name = y.name → meth.sig.returnType = ret → Z.Warmed39 s.vm → s.heap = h0 → s₁.heap = h0 → Stand p l e rm s m as' below meth c s₁ [] 0 0 →
      ∃ (T : State) (L : List Loc) (v : Option Value), Stand p l e rm s m as' below meth c T L k n ∧ (ret = none → v = none) ∧ Q v L ∧ ∀ fs, (∀ (f : JFrame) (acts : List Action), f.method = m → f.locked = none → f.entered = [] → (doReturn e (T.setTop f) acts v).1 = T.setFrames fs) → Steps p.tables e below (s₁.setTop (mkF m 0 L0 [])) (T.setFrames fs)) :
    MetFree l y (head1 (Jvm.Cond.code y bytes maxL ret :: ws) rm) (fun a U => a = as' ∧ Z.Warmed39 U.vm ∧ U.heap = h0) (fun _ _ _ _ _ => True) (fun _ U o U' => ∃ v L, o = .returned v ∧ Q v L ∧ FrameEnd U o U' L k' n') := by
  refine MetFree.of_bodySF hp hisR ?_
  intro p e s m args below meth c s₁ Bd hml0 hP hK
  obtain ⟨rfl, hZ, hh⟩ := hP
  have e0 : s₁.heap = h0 := by rw [← hh, Bd.state]; rfl
  have hnm := (name_of_methodNamed Bd.named Bd.method).1
  obtain ⟨T, L, v, X, hv, hQ, st⟩ := H p e s m below meth c s₁ Bd.exec Bd.bytes hml0 (findClass_of_methodNamed Bd.named) hnm Bd.returns hZ hh e0 (Stand.of_body Bd)
  obtain ⟨fs, hr, hrun, hended, hW, hsame⟩ := X.leave (v := v) (fun h => hv (Bd.returns.symm.trans h)) Bd.notSynchronized
  refine ⟨_, _, castTop (hef m) (st fs hr), hrun, hended, v, L, rfl, ?_, ⟨_, rfl⟩, hW, hsame.mono hk hn⟩
  exact hQ
theorem t_iloadN {tb : Tables} [Ours tb] {e : Env} {below : List Frame} {T target : State} {m : MethodId} {c : Code} {pc : Nat} {L : Array Slot} {S : List Value} {v : Int32} {k : Fin 4} (pc' : Nat) (h : At T m c below) (hx : tb.exec = Jvm.exec) (hd : decode c.code pc = .ok (.iload_n k, 1)) (hl : L[k.val]? = some (.val (.int v))) (hp : pc + 1 = pc') (hr : Steps tb e below (T.setTop (mkF m pc' L (.int v :: S))) target) : Steps tb e below (T.setTop (mkF m pc L (S))) target := by
  subst hp; exact XS.iloadN h hx rfl hd hl hr
theorem t_iload {tb : Tables} [Ours tb] {e : Env} {below : List Frame} {T target : State} {m : MethodId} {c : Code} {pc : Nat} {L : Array Slot} {S : List Value} {v : Int32} {k : Nat} (pc' : Nat) (h : At T m c below) (hx : tb.exec = Jvm.exec) (hd : decode c.code pc = .ok (.iload k, 2)) (hl : L[k]? = some (.val (.int v))) (hp : pc + 2 = pc') (hr : Steps tb e below (T.setTop (mkF m pc' L (.int v :: S))) target) : Steps tb e below (T.setTop (mkF m pc L (S))) target := by
  subst hp; exact XS.iload h hx rfl hd hl hr
theorem t_dloadN {tb : Tables} [Ours tb] {e : Env} {below : List Frame} {T target : State} {m : MethodId} {c : Code} {pc : Nat} {L : Array Slot} {S : List Value} {v : UInt64} {k : Fin 4} (pc' : Nat) (h : At T m c below) (hx : tb.exec = Jvm.exec) (hd : decode c.code pc = .ok (.dload_n k, 1)) (hl : L[k.val]? = some (.val (.double v))) (hp : pc + 1 = pc') (hr : Steps tb e below (T.setTop (mkF m pc' L (.double v :: S))) target) : Steps tb e below (T.setTop (mkF m pc L (S))) target := by
  subst hp; exact XS.dloadN h hx rfl hd hl hr
theorem t_dload {tb : Tables} [Ours tb] {e : Env} {below : List Frame} {T target : State} {m : MethodId} {c : Code} {pc : Nat} {L : Array Slot} {S : List Value} {v : UInt64} {k : Nat} (pc' : Nat) (h : At T m c below) (hx : tb.exec = Jvm.exec) (hd : decode c.code pc = .ok (.dload k, 2)) (hl : L[k]? = some (.val (.double v))) (hp : pc + 2 = pc') (hr : Steps tb e below (T.setTop (mkF m pc' L (.double v :: S))) target) : Steps tb e below (T.setTop (mkF m pc L (S))) target := by
  subst hp; exact XS.dload h hx rfl hd hl hr
theorem t_aloadN {tb : Tables} [Ours tb] {e : Env} {below : List Frame} {T target : State} {m : MethodId} {c : Code} {pc : Nat} {L : Array Slot} {S : List Value} {v : Value} {k : Fin 4} (pc' : Nat) (h : At T m c below) (hx : tb.exec = Jvm.exec) (hd : decode c.code pc = .ok (.aload_n k, 1)) (hl : L[k.val]? = some (.val v)) (hv : v.isRef = true) (hp : pc + 1 = pc') (hr : Steps tb e below (T.setTop (mkF m pc' L (v :: S))) target) : Steps tb e below (T.setTop (mkF m pc L (S))) target := by
  subst hp; exact XS.aloadN h hx rfl hd hl hv hr
theorem t_aload {tb : Tables} [Ours tb] {e : Env} {below : List Frame} {T target : State} {m : MethodId} {c : Code} {pc : Nat} {L : Array Slot} {S : List Value} {v : Value} {k : Nat} (pc' : Nat) (h : At T m c below) (hx : tb.exec = Jvm.exec) (hd : decode c.code pc = .ok (.aload k, 2)) (hl : L[k]? = some (.val v)) (hv : v.isRef = true) (hp : pc + 2 = pc') (hr : Steps tb e below (T.setTop (mkF m pc' L (v :: S))) target) : Steps tb e below (T.setTop (mkF m pc L (S))) target := by
  subst hp; exact XS.aload h hx rfl hd hl hv hr
theorem t_istore {tb : Tables} [Ours tb] {e : Env} {below : List Frame} {T target : State} {m : MethodId} {c : Code} {pc : Nat} {L : Array Slot} {S : List Value} {v : Int32} {k : Nat} {L' : Array Slot} (pc' : Nat) (h : At T m c below) (hx : tb.exec = Jvm.exec) (hd : decode c.code pc = .ok (.istore k, 2)) (hl : storeLocals L k (.int v) = some L') (hp : pc + 2 = pc') (hr : Steps tb e below (T.setTop (mkF m pc' L' (S))) target) : Steps tb e below (T.setTop (mkF m pc L (.int v :: S))) target := by
  subst hp; exact XS.istore h hx rfl hd rfl hl hr
theorem t_dstoreN {tb : Tables} [Ours tb] {e : Env} {below : List Frame} {T target : State} {m : MethodId} {c : Code} {pc : Nat} {L : Array Slot} {S : List Value} {v : UInt64} {k : Fin 4} {L' : Array Slot} (pc' : Nat) (h : At T m c below) (hx : tb.exec = Jvm.exec) (hd : decode c.code pc = .ok (.dstore_n k, 1)) (hl : storeLocals L k.val (.double v) = some L') (hp : pc + 1 = pc') (hr : Steps tb e below (T.setTop (mkF m pc' L' (S))) target) : Steps tb e below (T.setTop (mkF m pc L (.double v :: S))) target := by
  subst hp; exact XS.dstoreN h hx rfl hd rfl hl hr
theorem t_dstore {tb : Tables} [Ours tb] {e : Env} {below : List Frame} {T target : State} {m : MethodId} {c : Code} {pc : Nat} {L : Array Slot} {S : List Value} {v : UInt64} {k : Nat} {L' : Array Slot} (pc' : Nat) (h : At T m c below) (hx : tb.exec = Jvm.exec) (hd : decode c.code pc = .ok (.dstore k, 2)) (hl : storeLocals L k (.double v) = some L') (hp : pc + 2 = pc') (hr : Steps tb e below (T.setTop (mkF m pc' L' (S))) target) : Steps tb e below (T.setTop (mkF m pc L (.double v :: S))) target := by
  subst hp; exact XS.dstore h hx rfl hd rfl hl hr
theorem t_astore {tb : Tables} [Ours tb] {e : Env} {below : List Frame} {T target : State} {m : MethodId} {c : Code} {pc : Nat} {L : Array Slot} {S : List Value} {v : Value} {k : Nat} {L' : Array Slot} (pc' : Nat) (h : At T m c below) (hx : tb.exec = Jvm.exec) (hd : decode c.code pc = .ok (.astore k, 2)) (hv : v.isRef = true) (hl : storeLocals L k v = some L') (hp : pc + 2 = pc') (hr : Steps tb e below (T.setTop (mkF m pc' L' (S))) target) : Steps tb e below (T.setTop (mkF m pc L (v :: S))) target := by
  subst hp; exact XS.astore h hx rfl hd rfl hv hl hr
theorem t_iconst {tb : Tables} [Ours tb] {e : Env} {below : List Frame} {T target : State} {m : MethodId} {c : Code} {pc : Nat} {L : Array Slot} {S : List Value} {i : Int} {r : Int32} (pc' : Nat) (h : At T m c below) (hx : tb.exec = Jvm.exec) (hd : decode c.code pc = .ok (.iconst i, 1)) (he : Int32.ofInt i = r) (hp : pc + 1 = pc') (hr : Steps tb e below (T.setTop (mkF m pc' L (.int r :: S))) target) : Steps tb e below (T.setTop (mkF m pc L (S))) target := by
  subst hp he; exact XS.iconst h hx rfl hd hr
theorem t_sipush {tb : Tables} [Ours tb] {e : Env} {below : List Frame} {T target : State} {m : MethodId} {c : Code} {pc : Nat} {L : Array Slot} {S : List Value} {i : Int} {r : Int32} (pc' : Nat) (h : At T m c below) (hx : tb.exec = Jvm.exec) (hd : decode c.code pc = .ok (.sipush i, 3)) (he : (Int16.ofInt i).toInt32 = r) (hp : pc + 3 = pc') (hr : Steps tb e below (T.setTop (mkF m pc' L (.int r :: S))) target) : Steps tb e below (T.setTop (mkF m pc L (S))) target := by
  subst hp he; exact XS.sipush h hx rfl hd hr
theorem t_dconst0 {tb : Tables} [Ours tb] {e : Env} {below : List Frame} {T target : State} {m : MethodId} {c : Code} {pc : Nat} {L : Array Slot} {S : List Value} {r : UInt64} (pc' : Nat) (h : At T m c below) (hx : tb.exec = Jvm.exec) (hd : decode c.code pc = .ok (.dconst 0, 1)) (he : FP.dconst0 = r) (hp : pc + 1 = pc') (hr : Steps tb e below (T.setTop (mkF m pc' L (.double r :: S))) target) : Steps tb e below (T.setTop (mkF m pc L (S))) target := by
  subst hp; exact XS.dconst0 h hx rfl hd he hr
theorem t_iand {tb : Tables} [Ours tb] {e : Env} {below : List Frame} {T target : State} {m : MethodId} {c : Code} {pc : Nat} {L : Array Slot} {S : List Value} {x y r : Int32} (pc' : Nat) (h : At T m c below) (hx : tb.exec = Jvm.exec) (hd : decode c.code pc = .ok (.iand, 1)) (he : x &&& y = r) (hp : pc + 1 = pc') (hr : Steps tb e below (T.setTop (mkF m pc' L (.int r :: S))) target) : Steps tb e below (T.setTop (mkF m pc L (.int y :: .int x :: S))) target := by
  subst hp he; exact XS.iand h hx rfl hd rfl hr
theorem t_irem {tb : Tables} [Ours tb] {e : Env} {below : List Frame} {T target : State} {m : MethodId} {c : Code} {pc : Nat} {L : Array Slot} {S : List Value} {x y r : Int32} (pc' : Nat) (h : At T m c below) (hx : tb.exec = Jvm.exec) (hd : decode c.code pc = .ok (.irem, 1)) (hy : y ≠ 0) (he : x - (x / y) * y = r) (hp : pc + 1 = pc') (hr : Steps tb e below (T.setTop (mkF m pc' L (.int r :: S))) target) : Steps tb e below (T.setTop (mkF m pc L (.int y :: .int x :: S))) target := by
  subst hp he; exact XS.irem h hx rfl hd rfl hy hr
theorem t_iushr {tb : Tables} [Ours tb] {e : Env} {below : List Frame} {T target : State} {m : MethodId} {c : Code} {pc : Nat} {L : Array Slot} {S : List Value} {x r : Int32} {y : Int32} (pc' : Nat) (h : At T m c below) (hx : tb.exec = Jvm.exec) (hd : decode c.code pc = .ok (.iushr, 1)) (he : (x.toUInt32 >>> (y &&& 31).toUInt32).toInt32 = r) (hp : pc + 1 = pc') (hr : Steps tb e below (T.setTop (mkF m pc' L (.int r :: S))) target) : Steps tb e below (T.setTop (mkF m pc L (.int y :: .int x :: S))) target := by
  subst hp he; exact XS.iushr h hx rfl hd rfl hr
theorem t_i2d {tb : Tables} [Ours tb] {e : Env} {below : List Frame} {T target : State} {m : MethodId} {c : Code} {pc : Nat} {L : Array Slot} {S : List Value} {x : Int32} {r : UInt64} (pc' : Nat) (h : At T m c below) (hx : tb.exec = Jvm.exec) (hd : decode c.code pc = .ok (.i2d, 1)) (he : FP.i2d x = r) (hp : pc + 1 = pc') (hr : Steps tb e below (T.setTop (mkF m pc' L (.double r :: S))) target) : Steps tb e below (T.setTop (mkF m pc L (.int x :: S))) target := by
  subst hp; exact XS.i2dS h hx rfl hd rfl he hr
theorem t_dadd {tb : Tables} [Ours tb] {e : Env} {below : List Frame} {T target : State} {m : MethodId} {c : Code} {pc : Nat} {L : Array Slot} {S : List Value} {x y r : UInt64} (pc' : Nat) (h : At T m c below) (hx : tb.exec = Jvm.exec) (hd : decode c.code pc = .ok (.dadd, 1)) (hn : Jvm.Free.Fl.NoNaN64 (FP.dadd x y)) (he : FP.dadd x y = r) (hp : pc + 1 = pc') (hr : Steps tb e below (T.setTop (mkF m pc' L (.double r :: S))) target) : Steps tb e below (T.setTop (mkF m pc L (.double y :: .double x :: S))) target := by
  subst hp; exact XS.daddS h hx rfl hd rfl hn he hr
theorem t_dsub {tb : Tables} [Ours tb] {e : Env} {below : List Frame} {T target : State} {m : MethodId} {c : Code} {pc : Nat} {L : Array Slot} {S : List Value} {x y r : UInt64} (pc' : Nat) (h : At T m c below) (hx : tb.exec = Jvm.exec) (hd : decode c.code pc = .ok (.dsub, 1)) (hn : Jvm.Free.Fl.NoNaN64 (FP.dsub x y)) (he : FP.dsub x y = r) (hp : pc + 1 = pc') (hr : Steps tb e below (T.setTop (mkF m pc' L (.double r :: S))) target) : Steps tb e below (T.setTop (mkF m pc L (.double y :: .double x :: S))) target := by
  subst hp; exact XS.dsubS h hx rfl hd rfl hn he hr
theorem t_dmul {tb : Tables} [Ours tb] {e : Env} {below : List Frame} {T target : State} {m : MethodId} {c : Code} {pc : Nat} {L : Array Slot} {S : List Value} {x y r : UInt64} (pc' : Nat) (h : At T m c below) (hx : tb.exec = Jvm.exec) (hd : decode c.code pc = .ok (.dmul, 1)) (hn : Jvm.Free.Fl.NoNaN64 (FP.dmul x y)) (he : FP.dmul x y = r) (hp : pc + 1 = pc') (hr : Steps tb e below (T.setTop (mkF m pc' L (.double r :: S))) target) : Steps tb e below (T.setTop (mkF m pc L (.double y :: .double x :: S))) target := by
  subst hp; exact XS.dmulS h hx rfl hd rfl hn he hr
theorem t_ddiv {tb : Tables} [Ours tb] {e : Env} {below : List Frame} {T target : State} {m : MethodId} {c : Code} {pc : Nat} {L : Array Slot} {S : List Value} {x y r : UInt64} (pc' : Nat) (h : At T m c below) (hx : tb.exec = Jvm.exec) (hd : decode c.code pc = .ok (.ddiv, 1)) (hn : Jvm.Free.Fl.NoNaN64 (FP.ddiv x y)) (he : FP.ddiv x y = r) (hp : pc + 1 = pc') (hr : Steps tb e below (T.setTop (mkF m pc' L (.double r :: S))) target) : Steps tb e below (T.setTop (mkF m pc L (.double y :: .double x :: S))) target := by
  subst hp; exact XS.ddivS h hx rfl hd rfl hn he hr
theorem t_dcmp {tb : Tables} [Ours tb] {e : Env} {below : List Frame} {T target : State} {m : MethodId} {c : Code} {pc : Nat} {L : Array Slot} {S : List Value} {o : CmpOp} {x y : UInt64} {r : Int32} (pc' : Nat) (h : At T m c below) (hx : tb.exec = Jvm.exec) (hd : decode c.code pc = .ok (.dcmp o, 1)) (he : cmpValue (FP.dcmp x y) o = r) (hp : pc + 1 = pc') (hr : Steps tb e below (T.setTop (mkF m pc' L (.int r :: S))) target) : Steps tb e below (T.setTop (mkF m pc L (.double y :: .double x :: S))) target := by
  subst hp; exact XS.dcmpS h hx rfl hd rfl he hr
theorem t_dup {tb : Tables} [Ours tb] {e : Env} {below : List Frame} {T target : State} {m : MethodId} {c : Code} {pc : Nat} {L : Array Slot} {S : List Value} {x : Value} (pc' : Nat) (h : At T m c below) (hx : tb.exec = Jvm.exec) (hd : decode c.code pc = .ok (.dup, 1)) (hc : x.category = 1) (hp : pc + 1 = pc') (hr : Steps tb e below (T.setTop (mkF m pc' L (x :: x :: S))) target) : Steps tb e below (T.setTop (mkF m pc L (x :: S))) target := by
  subst hp; exact XS.dup h hx rfl hd rfl hc hr
theorem t_goto {tb : Tables} [Ours tb] {e : Env} {below : List Frame} {T target : State} {m : MethodId} {c : Code} {pc : Nat} {L : Array Slot} {S : List Value} {o : Int} (pc' : Nat) (h : At T m c below) (hx : tb.exec = Jvm.exec) (hd : decode c.code pc = .ok (.goto o, 3)) (ho : 0 ≤ (pc : Int) + o) (hp : ((pc : Int) + o).toNat = pc') (hr : Steps tb e below (T.setTop (mkF m pc' L (S))) target) : Steps tb e below (T.setTop (mkF m pc L (S))) target := by
  exact XS.goto h hx rfl rfl hd ho hp hr
theorem t_ifYes {tb : Tables} [Ours tb] {e : Env} {below : List Frame} {T target : State} {m : MethodId} {c : Code} {pc : Nat} {L : Array Slot} {S : List Value} {cd : ClassFile.Cond} {x : Int32} {o : Int} (pc' : Nat) (h : At T m c below) (hx : tb.exec = Jvm.exec) (hd : decode c.code pc = .ok (.ifCond cd o, 3)) (hc : ifCond.holds cd x = true) (ho : 0 ≤ (pc : Int) + o) (hp : ((pc : Int) + o).toNat = pc') (hr : Steps tb e below (T.setTop (mkF m pc' L (S))) target) : Steps tb e below (T.setTop (mkF m pc L (.int x :: S))) target := by
  exact XS.ifYes h hx rfl rfl hd rfl hc ho hp hr
theorem t_ifNo {tb : Tables} [Ours tb] {e : Env} {below : List Frame} {T target : State} {m : MethodId} {c : Code} {pc : Nat} {L : Array Slot} {S : List Value} {cd : ClassFile.Cond} {x : Int32} {o : Int} (pc' : Nat) (h : At T m c below) (hx : tb.exec = Jvm.exec) (hd : decode c.code pc = .ok (.ifCond cd o, 3)) (hc : ifCond.holds cd x = false) (hp : pc + 3 = pc') (hr : Steps tb e below (T.setTop (mkF m pc' L (S))) target) : Steps tb e below (T.setTop (mkF m pc L (.int x :: S))) target := by
  subst hp; exact XS.ifNo h hx rfl hd rfl hc hr
theorem t_icmpYes {tb : Tables} [Ours tb] {e : Env} {below : List Frame} {T target : State} {m : MethodId} {c : Code} {pc : Nat} {L : Array Slot} {S : List Value} {cd : ClassFile.Cond} {x y : Int32} {o : Int} (pc' : Nat) (h : At T m c below) (hx : tb.exec = Jvm.exec) (hd : decode c.code pc = .ok (.if_icmp cd o, 3)) (hc : if_icmp.holds cd x y = true) (ho : 0 ≤ (pc : Int) + o) (hp : ((pc : Int) + o).toNat = pc') (hr : Steps tb e below (T.setTop (mkF m pc' L (S))) target) : Steps tb e below (T.setTop (mkF m pc L (.int y :: .int x :: S))) target := by
  exact XS.icmpYes h hx rfl rfl hd rfl hc ho hp hr
theorem t_icmpNo {tb : Tables} [Ours tb] {e : Env} {below : List Frame} {T target : State} {m : MethodId} {c : Code} {pc : Nat} {L : Array Slot} {S : List Value} {cd : ClassFile.Cond} {x y : Int32} {o : Int} (pc' : Nat) (h : At T m c below) (hx : tb.exec = Jvm.exec) (hd : decode c.code pc = .ok (.if_icmp cd o, 3)) (hc : if_icmp.holds cd x y = false) (hp : pc + 3 = pc') (hr : Steps tb e below (T.setTop (mkF m pc' L (S))) target) : Steps tb e below (T.setTop (mkF m pc L (.int y :: .int x :: S))) target := by
  subst hp; exact XS.icmpNo h hx rfl hd rfl hc hr
abbrev HW (Z : State) (a0 : Array Value) : Prop := ∀ d ∈ tables_1, d.before a0 Z = true
theorem ow {Z : State} {a0 : Array Value} {d : Jvm.Cond} (i : Nat) (hw : HW Z a0) (q : tables_1[i]? = some d) : d.before a0 Z = true := hw d (List.mem_of_getElem? q)
abbrev z0 : Value := .int 0
abbrev SCS (Z : State) (z : Int32) : Prop := Sta Z Z.heap "java/lang/String" "COMPACT_STRINGS" "Z" (.int z)
variable {Z : State} {a0 : Array Value}
abbrev vr (a : Addr) : Slot := .val (.ref a)
abbrev vi (z : Int32) : Slot := .val (.int z)
theorem own_mgk {K K' : Nat} {x y : UInt64} (h : y = x) (m : Jvm.Free.Fl.Mag64 K' x) (e : K' = K) : Jvm.Free.Fl.Mag64 K y := by subst e; exact h ▸ m
theorem own_dconst0 : FP.dconst0 = FP.l2d 0 := l2d_zero.symm
theorem own_cg2 {f : UInt64 → UInt64 → UInt64} {A B a b y : UInt64} (ha : A = a) (hb : B = b) (h : f a b = y) : f A B = y := by subst ha hb; exact h
theorem own_nnof {e c : UInt64} (h : e = c) (q : Jvm.Free.Fl.NoNaN64 c) : Jvm.Free.Fl.NoNaN64 e := h ▸ q
theorem own_add00 : FP.dadd (FP.l2d (0 : Int64)) (FP.l2d (0 : Int64)) = FP.l2d (0 : Int64) := by decide +kernel
theorem own_nv {x : UInt64} (h : Jvm.Free.Fl.NoNaN64 x) : FP.Core.val64 x ≠ .nan := (FP.Core.notNaN_iff x).mp (Jvm.Free.Fl.noNaN64_no.mp h)
theorem own_z0 : FP.l2d (0 : Int64) = FP.Core.dconst0 := by decide +kernel
theorem own_0add {x : UInt64} (h : Jvm.Free.Fl.NoNaN64 x) : (x = FP.Core.dzeroNeg ∧ FP.dadd (FP.l2d (0 : Int64)) x = FP.l2d (0 : Int64)) ∨ (x ≠ FP.Core.dzeroNeg ∧ FP.dadd (FP.l2d (0 : Int64)) x = x) := by
  by_cases hz : x = FP.Core.dzeroNeg
  · subst hz; exact Or.inl ⟨rfl, by decide +kernel⟩
  · refine Or.inr ⟨hz, ?_⟩
    have := FP.Core.dadd_zero (own_nv h) hz
    rw [own_z0]
    exact (FP.Core.dadd_comm _ _).trans this
theorem own_zr {y : UInt64} (h : Jvm.Free.Fl.NoNaN64 y) : FP.dadd (FP.dadd (FP.l2d (0 : Int64)) y) (FP.l2d (0 : Int64)) = FP.dadd (FP.l2d (0 : Int64)) y := by
  rcases own_0add h with ⟨-, e⟩ | ⟨hz, e⟩
  · rw [e]; decide +kernel
  · rw [e, own_z0]; exact FP.Core.dadd_zero (own_nv h) hz
theorem own_cmp00 {x : UInt64} (h : Jvm.Free.Fl.NoNaN64 x) (o : CmpOp) : cmpValue (FP.dcmp (FP.dadd (FP.l2d (0 : Int64)) (FP.dadd (FP.l2d (0 : Int64)) x)) x) o = 0 := by
  rcases own_0add h with ⟨hz, e⟩ | ⟨hz, e⟩
  · subst hz; rw [e]; cases o <;> decide +kernel
  · rw [e, e]; exact dcmpV_self h o
theorem own_cmp0y {c y : UInt64} (hc : Jvm.Free.Fl.NoNaN64 c) (hy : Jvm.Free.Fl.NoNaN64 y) (hs : Jvm.Free.Fl.NoNaN64 (FP.dadd c y)) (o : CmpOp) : cmpValue (FP.dcmp (FP.dadd c (FP.dadd (FP.l2d (0 : Int64)) y)) (FP.dadd c y)) o = 0 := by
  rcases own_0add hy with ⟨hz, e⟩ | ⟨hz, e⟩
  · subst hz
    have e2 : FP.dadd c FP.Core.dzeroNeg = c := FP.Core.dadd_zeroNeg (own_nv hc)
    rw [e, e2]
    by_cases hq : c = FP.Core.dzeroNeg
    · subst hq; cases o <;> decide +kernel
    · have e3 : FP.dadd c (FP.l2d (0 : Int64)) = c := by rw [own_z0]; exact FP.Core.dadd_zero (own_nv hc) hq
      rw [e3]; exact dcmpV_self hc o
  · rw [e]; exact dcmpV_self hs o
theorem own_l2dz (x : Int32) : FP.dadd (FP.l2d x.toInt64) (FP.l2d (0 : Int64)) = FP.l2d x.toInt64 := by
  have r := rng32 x
  have h : B53 x.toInt64 := by constructor <;> rw [c_i2l] <;> omega
  rw [dadd_w h (by constructor <;> decide), Int64.add_zero]
theorem own_rem3 (x : Int32) : ((x &&& 2147483647) - ((x &&& 2147483647) / 3) * 3) = 0 ∨ ((x &&& 2147483647) - ((x &&& 2147483647) / 3) * 3) = 1 ∨ ((x &&& 2147483647) - ((x &&& 2147483647) / 3) * 3) = 2 := by
  generalize hy : x &&& 2147483647 = y
  have h0 : 0 ≤ y.toInt := by rw [← hy]; exact (c_and x 2147483647 (by decide)).1
  have hd := (c_idiv y 3 3 (by decide) (by decide)).1 h0
  have h1 := c_isub y (y / 3 * 3)
  have h2 := c_imul (y / 3) 3
  have r := rng32 y
  have r2 := rng32 (y / 3 * 3)
  have r3 := rng32 (y - y / 3 * 3)
  have e4 : (3 : Int32).toInt = 3 := rfl
  rw [e4] at h2
  have h3 : (y - y / 3 * 3).toInt = 0 ∨ (y - y / 3 * 3).toInt = 1 ∨ (y - y / 3 * 3).toInt = 2 := by omega
  rcases h3 with q | q | q
  · exact Or.inl (Int32.toInt_inj.mp q)
  · exact Or.inr (Or.inl (Int32.toInt_inj.mp q))
  · exact Or.inr (Or.inr (Int32.toInt_inj.mp q))
abbrev b0_ := prog_14_method_1_code
theorem d0 : decode b0_ 0 = .ok (.aload_n 0, 1) := by decide +kernel
theorem d1 : decode b0_ 1 = .ok (.invokespecial 1, 3) := by decide +kernel
def w11 (hw : HW Z a0) := ow 11 hw rfl
def w12 (hw : HW Z a0) := ow 12 hw rfl
def w13 (hw : HW Z a0) := ow 13 hw rfl
theorem d2 : decode b0_ 4 = .ok (.aload_n 0, 1) := by decide +kernel
theorem d3 : decode b0_ 5 = .ok (.dload_n 1, 1) := by decide +kernel
theorem d4 : decode b0_ 6 = .ok (.putfield 7, 3) := by decide +kernel
def w14 (hw : HW Z a0) := ow 14 hw rfl
abbrev Fd0 (Z : State) (h : Heap) (a : Addr) (v : Value) : Prop := Fld Z h a "com/example/rivulet/rivulet/instrument/Accrual" "balance" "D" v
abbrev sl0 (Z : State) : Nat := Jvm.RoadKit.slotOf Z "com/example/rivulet/rivulet/instrument/Accrual" "balance" "D"
abbrev Ex0 (Z : State) (h : Heap) (a : Addr) : Prop := Exa Z h a "com/example/rivulet/rivulet/instrument/Accrual"
def w15 (hw : HW Z a0) := ow 15 hw rfl
def w6 (hw : HW Z a0) := ow 6 hw rfl
theorem d5 : decode b0_ 9 = .ok (.aload_n 0, 1) := by decide +kernel
theorem d6 : decode b0_ 10 = .ok (.dload_n 3, 1) := by decide +kernel
theorem d7 : decode b0_ 11 = .ok (.putfield 13, 3) := by decide +kernel
def w16 (hw : HW Z a0) := ow 16 hw rfl
abbrev Fd1 (Z : State) (h : Heap) (a : Addr) (v : Value) : Prop := Fld Z h a "com/example/rivulet/rivulet/instrument/Accrual" "rate" "D" v
abbrev sl1 (Z : State) : Nat := Jvm.RoadKit.slotOf Z "com/example/rivulet/rivulet/instrument/Accrual" "rate" "D"
def w17 (hw : HW Z a0) := ow 17 hw rfl
theorem sn_0 {Z : State} {a0 : Array Value} (hw : HW Z a0) : Jvm.RoadKit.slotOf Z "com/example/rivulet/rivulet/instrument/Accrual" "rate" "D" ≠ Jvm.RoadKit.slotOf Z "com/example/rivulet/rivulet/instrument/Accrual" "balance" "D" := slot_ne (C := "com/example/rivulet/rivulet/instrument/Accrual") (a0 := a0) (Or.inr (w17 hw)) (Or.inr (w15 hw)) (by decide) (t := .double) (t' := .double) (by decide) (by decide)
theorem d8 : decode b0_ 14 = .ok (.aload_n 0, 1) := by decide +kernel
theorem d9 : decode b0_ 15 = .ok (.dload 5, 2) := by decide +kernel
theorem d10 : decode b0_ 17 = .ok (.putfield 16, 3) := by decide +kernel
def w18 (hw : HW Z a0) := ow 18 hw rfl
abbrev Fd2 (Z : State) (h : Heap) (a : Addr) (v : Value) : Prop := Fld Z h a "com/example/rivulet/rivulet/instrument/Accrual" "margin" "D" v
abbrev sl2 (Z : State) : Nat := Jvm.RoadKit.slotOf Z "com/example/rivulet/rivulet/instrument/Accrual" "margin" "D"
def w19 (hw : HW Z a0) := ow 19 hw rfl
theorem sn_1 {Z : State} {a0 : Array Value} (hw : HW Z a0) : Jvm.RoadKit.slotOf Z "com/example/rivulet/rivulet/instrument/Accrual" "margin" "D" ≠ Jvm.RoadKit.slotOf Z "com/example/rivulet/rivulet/instrument/Accrual" "balance" "D" := slot_ne (C := "com/example/rivulet/rivulet/instrument/Accrual") (a0 := a0) (Or.inr (w19 hw)) (Or.inr (w15 hw)) (by decide) (t := .double) (t' := .double) (by decide) (by decide)
theorem sn_2 {Z : State} {a0 : Array Value} (hw : HW Z a0) : Jvm.RoadKit.slotOf Z "com/example/rivulet/rivulet/instrument/Accrual" "margin" "D" ≠ Jvm.RoadKit.slotOf Z "com/example/rivulet/rivulet/instrument/Accrual" "rate" "D" := slot_ne (C := "com/example/rivulet/rivulet/instrument/Accrual") (a0 := a0) (Or.inr (w19 hw)) (Or.inr (w17 hw)) (by decide) (t := .double) (t' := .double) (by decide) (by decide)
theorem d11 : decode b0_ 20 = .ok (.aload_n 0, 1) := by decide +kernel
theorem d12 : decode b0_ 21 = .ok (.aload 7, 2) := by decide +kernel
theorem d13 : decode b0_ 23 = .ok (.putfield 19, 3) := by decide +kernel
def w20 (hw : HW Z a0) := ow 20 hw rfl
abbrev Fd3 (Z : State) (h : Heap) (a : Addr) (v : Value) : Prop := Fld Z h a "com/example/rivulet/rivulet/instrument/Accrual" "method" "Lcom/example/rivulet/rivulet/instrument/CompoundMethod;" v
abbrev sl3 (Z : State) : Nat := Jvm.RoadKit.slotOf Z "com/example/rivulet/rivulet/instrument/Accrual" "method" "Lcom/example/rivulet/rivulet/instrument/CompoundMethod;"
def w21 (hw : HW Z a0) := ow 21 hw rfl
theorem sn_3 {Z : State} {a0 : Array Value} (hw : HW Z a0) : Jvm.RoadKit.slotOf Z "com/example/rivulet/rivulet/instrument/Accrual" "method" "Lcom/example/rivulet/rivulet/instrument/CompoundMethod;" ≠ Jvm.RoadKit.slotOf Z "com/example/rivulet/rivulet/instrument/Accrual" "balance" "D" := slot_ne (C := "com/example/rivulet/rivulet/instrument/Accrual") (a0 := a0) (Or.inr (w21 hw)) (Or.inr (w15 hw)) (by decide) (t := (.object "com/example/rivulet/rivulet/instrument/CompoundMethod")) (t' := .double) (by decide) (by decide)
theorem sn_4 {Z : State} {a0 : Array Value} (hw : HW Z a0) : Jvm.RoadKit.slotOf Z "com/example/rivulet/rivulet/instrument/Accrual" "method" "Lcom/example/rivulet/rivulet/instrument/CompoundMethod;" ≠ Jvm.RoadKit.slotOf Z "com/example/rivulet/rivulet/instrument/Accrual" "rate" "D" := slot_ne (C := "com/example/rivulet/rivulet/instrument/Accrual") (a0 := a0) (Or.inr (w21 hw)) (Or.inr (w17 hw)) (by decide) (t := (.object "com/example/rivulet/rivulet/instrument/CompoundMethod")) (t' := .double) (by decide) (by decide)
theorem sn_5 {Z : State} {a0 : Array Value} (hw : HW Z a0) : Jvm.RoadKit.slotOf Z "com/example/rivulet/rivulet/instrument/Accrual" "method" "Lcom/example/rivulet/rivulet/instrument/CompoundMethod;" ≠ Jvm.RoadKit.slotOf Z "com/example/rivulet/rivulet/instrument/Accrual" "margin" "D" := slot_ne (C := "com/example/rivulet/rivulet/instrument/Accrual") (a0 := a0) (Or.inr (w21 hw)) (Or.inr (w19 hw)) (by decide) (t := (.object "com/example/rivulet/rivulet/instrument/CompoundMethod")) (t' := .double) (by decide) (by decide)
theorem d14 : decode b0_ 26 = .ok (.return_, 1) := by decide +kernel
theorem sn_6 {Z : State} {a0 : Array Value} (hw : HW Z a0) : Jvm.RoadKit.slotOf Z "com/example/rivulet/rivulet/instrument/Accrual" "balance" "D" ≠ Jvm.RoadKit.slotOf Z "com/example/rivulet/rivulet/instrument/Accrual" "rate" "D" := slot_ne (C := "com/example/rivulet/rivulet/instrument/Accrual") (a0 := a0) (Or.inr (w15 hw)) (Or.inr (w17 hw)) (by decide) (t := .double) (t' := .double) (by decide) (by decide)
theorem sn_7 {Z : State} {a0 : Array Value} (hw : HW Z a0) : Jvm.RoadKit.slotOf Z "com/example/rivulet/rivulet/instrument/Accrual" "balance" "D" ≠ Jvm.RoadKit.slotOf Z "com/example/rivulet/rivulet/instrument/Accrual" "margin" "D" := slot_ne (C := "com/example/rivulet/rivulet/instrument/Accrual") (a0 := a0) (Or.inr (w15 hw)) (Or.inr (w19 hw)) (by decide) (t := .double) (t' := .double) (by decide) (by decide)
theorem sn_8 {Z : State} {a0 : Array Value} (hw : HW Z a0) : Jvm.RoadKit.slotOf Z "com/example/rivulet/rivulet/instrument/Accrual" "balance" "D" ≠ Jvm.RoadKit.slotOf Z "com/example/rivulet/rivulet/instrument/Accrual" "method" "Lcom/example/rivulet/rivulet/instrument/CompoundMethod;" := slot_ne (C := "com/example/rivulet/rivulet/instrument/Accrual") (a0 := a0) (Or.inr (w15 hw)) (Or.inr (w21 hw)) (by decide) (t := .double) (t' := (.object "com/example/rivulet/rivulet/instrument/CompoundMethod")) (by decide) (by decide)
theorem sn_9 {Z : State} {a0 : Array Value} (hw : HW Z a0) : Jvm.RoadKit.slotOf Z "com/example/rivulet/rivulet/instrument/Accrual" "rate" "D" ≠ Jvm.RoadKit.slotOf Z "com/example/rivulet/rivulet/instrument/Accrual" "margin" "D" := slot_ne (C := "com/example/rivulet/rivulet/instrument/Accrual") (a0 := a0) (Or.inr (w17 hw)) (Or.inr (w19 hw)) (by decide) (t := .double) (t' := .double) (by decide) (by decide)
theorem sn_10 {Z : State} {a0 : Array Value} (hw : HW Z a0) : Jvm.RoadKit.slotOf Z "com/example/rivulet/rivulet/instrument/Accrual" "rate" "D" ≠ Jvm.RoadKit.slotOf Z "com/example/rivulet/rivulet/instrument/Accrual" "method" "Lcom/example/rivulet/rivulet/instrument/CompoundMethod;" := slot_ne (C := "com/example/rivulet/rivulet/instrument/Accrual") (a0 := a0) (Or.inr (w17 hw)) (Or.inr (w21 hw)) (by decide) (t := .double) (t' := (.object "com/example/rivulet/rivulet/instrument/CompoundMethod")) (by decide) (by decide)
theorem sn_11 {Z : State} {a0 : Array Value} (hw : HW Z a0) : Jvm.RoadKit.slotOf Z "com/example/rivulet/rivulet/instrument/Accrual" "margin" "D" ≠ Jvm.RoadKit.slotOf Z "com/example/rivulet/rivulet/instrument/Accrual" "method" "Lcom/example/rivulet/rivulet/instrument/CompoundMethod;" := slot_ne (C := "com/example/rivulet/rivulet/instrument/Accrual") (a0 := a0) (Or.inr (w19 hw)) (Or.inr (w21 hw)) (by decide) (t := .double) (t' := (.object "com/example/rivulet/rivulet/instrument/CompoundMethod")) (by decide) (by decide)
theorem pn_Accrual684 : plainName "com/example/rivulet/rivulet/instrument/Accrual" = true := by first | (simp [plainName, overriddenIn]; done) | decide +kernel
abbrev y0__init_ : MethodName := ⟨"com/example/rivulet/rivulet/instrument/Accrual", "<init>", "(DDDLcom/example/rivulet/rivulet/instrument/CompoundMethod;)V"⟩
def WS_r_init (Z : State) (o0 : Addr) : List (Addr × Nat) := [(o0, (sl0 Z)), (o0, (sl1 Z)), (o0, (sl2 Z)), (o0, (sl3 Z))]
def Q_r_init (Z : State) (o0 : Addr) (x1 x2 x3 : UInt64) (o4 : Addr) (u_o0_balance u_o0_rate u_o0_margin u_o0_method : Value) (h0 : Heap) (n0 : Nat) (v : Option Value) (h : Heap) (L : List Loc) : Prop := v = none ∧ Fr n0 L ∧ KL h0 h (WS_r_init Z o0) ∧ Fd0 Z h o0 (.double x1) ∧ Fd1 Z h o0 (.double x2) ∧ Fd2 Z h o0 (.double x3) ∧ Fd3 Z h o0 (.ref o4)
theorem ef_r_init (o0 : Addr) (x1 x2 x3 : UInt64) (o4 : Addr) (m : MethodId) : entryFrame m #[(.ref o0), (.double x1), (.double x2), (.double x3), (.ref o4)] 8 = mkF m 0 #[.val (.ref o0), .val (.double x1), .second, .val (.double x2), .second, .val (.double x3), .second, .val (.ref o4)] [] := by first | (simp [entryFrame, mkF, argsToLocals, Value.category]; done) | rfl
set_option maxRecDepth 65536 in
set_option maxHeartbeats 40000000 in
theorem r_init (l : Launch) (Z : State) (a0 : Array Value) (hw : HW Z a0) (ws : List Jvm.Cond) (o0 : Addr) (x1 x2 x3 : UInt64) (o4 : Addr) (u_o0_balance u_o0_rate u_o0_margin u_o0_method : Value) (h0 : Heap) (n0 : Nat) (Z0 : n0 ≤ h0.size) (F_o0_balance : Fd0 Z h0 o0 u_o0_balance) (E_o0 : Ex0 Z h0 o0) (g_o0 : n0 ≤ o0) (F_o0_rate : Fd1 Z h0 o0 u_o0_rate) (F_o0_margin : Fd2 Z h0 o0 u_o0_margin) (F_o0_method : Fd3 Z h0 o0 u_o0_method) :
    MF l Z y0__init_ b0_ 8 none ws ⟨1, 0, 0, 12⟩ #[(.ref o0), (.double x1), (.double x2), (.double x3), (.ref o4)] h0 (Q_r_init Z o0 x1 x2 x3 o4 u_o0_balance u_o0_rate u_o0_margin u_o0_method h0 n0) := by
  refine own_body (plainFor_of_name pn_Accrual684) (ef_r_init o0 x1 x2 x3 o4) (by decide) (by decide) ?_
  intro p e s m below meth c s₁ hx hby hml hown hnm hret hZ hh e0 X0
  have N0 := Fr.nil n0
  obtain ⟨T1, X1, e1, st1⟩ := initO X0 hx hZ hown (w11 hw) (w12 hw) (w13 hw) e0 (g := (mkF m 1 #[vr o0, .val (.double x1), .second, .val (.double x2), .second, .val (.double x3), .second, vr o4] [(.ref o0)])) rfl hml.symm rfl (hb hby d1) (by decide) (W := 0) (own_wr rfl rfl) (by decide)
  obtain ⟨T2, h2, X2, e2, W2, st2⟩ := putF X1 hx hZ hown (host := "") (Or.inl (w14 hw)) Via.refl e1 F_o0_balance E_o0 (Or.inr ⟨(w15 hw), rfl, hnm⟩) (w6 hw) (ty := .double) (by decide) rfl rfl (g := (mkF m 6 #[vr o0, .val (.double x1), .second, .val (.double x2), .second, .val (.double x3), .second, vr o4] [(.double x1), (.ref o0)])) rfl rfl (hb hby d4)
  have K2 := KL.ofW W2
  have Fw2 : Fd0 Z h2 o0 (.double x1) := Fld.same W2 F_o0_balance
  have N2 := Fr.snoc X2 N0 g_o0
  have f3 := (kFld K2 F_o0_rate (nwS (Or.inr (sn_0 hw)) nw0))
  have f4 := (kExa K2 E_o0)
  obtain ⟨T5, h5, X5, e5, W5, st5⟩ := putF X2 hx hZ hown (host := "") (Or.inl (w16 hw)) Via.refl e2 f3 f4 (Or.inr ⟨(w17 hw), rfl, hnm⟩) (w6 hw) (ty := .double) (by decide) rfl rfl (g := (mkF m 11 #[vr o0, .val (.double x1), .second, .val (.double x2), .second, .val (.double x3), .second, vr o4] [(.double x2), (.ref o0)])) rfl rfl (hb hby d7)
  have K5 := KL.ofW W5
  have Fw5 : Fd1 Z h5 o0 (.double x2) := Fld.same W5 f3
  have N5 := Fr.snoc X5 N2 g_o0
  have f6 := (kFld K5 (kFld K2 F_o0_margin (nwS (Or.inr (sn_1 hw)) nw0)) (nwS (Or.inr (sn_2 hw)) nw0))
  have f7 := (kExa K5 f4)
  obtain ⟨T8, h8, X8, e8, W8, st8⟩ := putF X5 hx hZ hown (host := "") (Or.inl (w18 hw)) Via.refl e5 f6 f7 (Or.inr ⟨(w19 hw), rfl, hnm⟩) (w6 hw) (ty := .double) (by decide) rfl rfl (g := (mkF m 17 #[vr o0, .val (.double x1), .second, .val (.double x2), .second, .val (.double x3), .second, vr o4] [(.double x3), (.ref o0)])) rfl rfl (hb hby d10)
  have K8 := KL.ofW W8
  have Fw8 : Fd2 Z h8 o0 (.double x3) := Fld.same W8 f6
  have N8 := Fr.snoc X8 N5 g_o0
  have f9 := (kFld K8 (kFld K5 (kFld K2 F_o0_method (nwS (Or.inr (sn_3 hw)) nw0)) (nwS (Or.inr (sn_4 hw)) nw0)) (nwS (Or.inr (sn_5 hw)) nw0))
  have f10 := (kExa K8 f7)
  obtain ⟨T11, h11, X11, e11, W11, st11⟩ := putF X8 hx hZ hown (host := "") (Or.inl (w20 hw)) Via.refl e8 f9 f10 (Or.inr ⟨(w21 hw), rfl, hnm⟩) (w6 hw) (ty := (.object "com/example/rivulet/rivulet/instrument/CompoundMethod")) (by decide) rfl rfl (g := (mkF m 23 #[vr o0, .val (.double x1), .second, .val (.double x2), .second, .val (.double x3), .second, vr o4] [(.ref o4), (.ref o0)])) rfl rfl (hb hby d13)
  have K11 := KL.ofW W11
  have Fw11 : Fd3 Z h11 o0 (.ref o4) := Fld.same W11 f9
  have N11 := Fr.snoc X11 N8 g_o0
  have C0 := (KL.refl h0 (WS_r_init Z o0)).trans K2 (naO (own_mi 0 rfl) na0)
  have C1 := C0.trans K5 (naO (own_mi 1 rfl) na0)
  have C2 := C1.trans K8 (naO (own_mi 2 rfl) na0)
  have C3 := C2.trans K11 (naO (own_mi 3 rfl) na0)
  have f12 := (kFld K11 (kFld K8 (kFld K5 Fw2 (nwS (Or.inr (sn_6 hw)) nw0)) (nwS (Or.inr (sn_7 hw)) nw0)) (nwS (Or.inr (sn_8 hw)) nw0))
  have f13 := (kFld K11 (kFld K8 Fw5 (nwS (Or.inr (sn_9 hw)) nw0)) (nwS (Or.inr (sn_10 hw)) nw0))
  have f14 := (kFld K11 Fw8 (nwS (Or.inr (sn_11 hw)) nw0))
  refine ⟨T11, _, none, X11, (fun h => by cases h <;> rfl), ?_, fun fs hr => ?_⟩
  · show Q_r_init Z o0 x1 x2 x3 o4 u_o0_balance u_o0_rate u_o0_margin u_o0_method h0 n0 _ T11.heap _
    rw [e11]
    exact ⟨rfl, N11, C3, f12, f13, f14, Fw11⟩
  · refine t_aloadN 1 X0.here hx (hb hby d0) rfl rfl rfl ?_
    refine st1 _ ?_
    refine t_aloadN 5 X1.here hx (hb hby d2) rfl rfl rfl ?_
    refine t_dloadN 6 X1.here hx (hb hby d3) rfl rfl ?_
    refine st2 _ ?_
    refine t_aloadN 10 X2.here hx (hb hby d5) rfl rfl rfl ?_
    refine t_dloadN 11 X2.here hx (hb hby d6) rfl rfl ?_
    refine st5 _ ?_
    refine t_aloadN 15 X5.here hx (hb hby d8) rfl rfl rfl ?_
    refine t_dload 17 X5.here hx (hb hby d9) rfl rfl ?_
    refine st8 _ ?_
    refine t_aloadN 21 X8.here hx (hb hby d11) rfl rfl rfl ?_
    refine t_aload 23 X8.here hx (hb hby d12) rfl rfl rfl ?_
    refine st11 _ ?_
    exact X11.returnOut hx hret (hb hby d14) hr
abbrev b1_ := prog_14_method_5_code
theorem d15 : decode b1_ 0 = .ok (.aload_n 0, 1) := by decide +kernel
theorem d16 : decode b1_ 1 = .ok (.dup, 1) := by decide +kernel
theorem d17 : decode b1_ 2 = .ok (.getfield 23, 3) := by decide +kernel
def w27 (hw : HW Z a0) := ow 27 hw rfl
abbrev Fd4 (Z : State) (h : Heap) (a : Addr) (v : Value) : Prop := Fld Z h a "com/example/rivulet/rivulet/instrument/Accrual" "compounded" "D" v
abbrev sl4 (Z : State) : Nat := Jvm.RoadKit.slotOf Z "com/example/rivulet/rivulet/instrument/Accrual" "compounded" "D"
theorem d18 : decode b1_ 5 = .ok (.aload_n 0, 1) := by decide +kernel
theorem d19 : decode b1_ 6 = .ok (.getfield 39, 3) := by decide +kernel
def w29 (hw : HW Z a0) := ow 29 hw rfl
abbrev Fd5 (Z : State) (h : Heap) (a : Addr) (v : Value) : Prop := Fld Z h a "com/example/rivulet/rivulet/instrument/Accrual" "pending" "D" v
abbrev sl5 (Z : State) : Nat := Jvm.RoadKit.slotOf Z "com/example/rivulet/rivulet/instrument/Accrual" "pending" "D"
theorem d20 : decode b1_ 9 = .ok (.dadd, 1) := by decide +kernel
theorem d21 : decode b1_ 10 = .ok (.putfield 23, 3) := by decide +kernel
def w28 (hw : HW Z a0) := ow 28 hw rfl
theorem d22 : decode b1_ 13 = .ok (.aload_n 0, 1) := by decide +kernel
theorem d23 : decode b1_ 14 = .ok (.dconst 0, 1) := by decide +kernel
theorem d24 : decode b1_ 15 = .ok (.putfield 39, 3) := by decide +kernel
def w30 (hw : HW Z a0) := ow 30 hw rfl
theorem sn_12 {Z : State} {a0 : Array Value} (hw : HW Z a0) : Jvm.RoadKit.slotOf Z "com/example/rivulet/rivulet/instrument/Accrual" "pending" "D" ≠ Jvm.RoadKit.slotOf Z "com/example/rivulet/rivulet/instrument/Accrual" "compounded" "D" := slot_ne (C := "com/example/rivulet/rivulet/instrument/Accrual") (a0 := a0) (Or.inl (w30 hw)) (Or.inl (w28 hw)) (by decide) (t := .double) (t' := .double) (by decide) (by decide)
theorem d25 : decode b1_ 18 = .ok (.return_, 1) := by decide +kernel
theorem sn_13 {Z : State} {a0 : Array Value} (hw : HW Z a0) : Jvm.RoadKit.slotOf Z "com/example/rivulet/rivulet/instrument/Accrual" "compounded" "D" ≠ Jvm.RoadKit.slotOf Z "com/example/rivulet/rivulet/instrument/Accrual" "pending" "D" := slot_ne (C := "com/example/rivulet/rivulet/instrument/Accrual") (a0 := a0) (Or.inl (w28 hw)) (Or.inl (w30 hw)) (by decide) (t := .double) (t' := .double) (by decide) (by decide)
abbrev y1_compound : MethodName := ⟨"com/example/rivulet/rivulet/instrument/Accrual", "compound", "()V"⟩
def WS_r_compound (Z : State) (o0 : Addr) : List (Addr × Nat) := [(o0, (sl4 Z)), (o0, (sl5 Z))]
def Q_r_compound (Z : State) (o0 : Addr) (x_o0_compounded x_o0_pending : UInt64) (h0 : Heap) (n0 : Nat) (v : Option Value) (h : Heap) (L : List Loc) : Prop := v = none ∧ Fr n0 L ∧ KL h0 h (WS_r_compound Z o0) ∧ Fd4 Z h o0 (.double (FP.dadd x_o0_compounded x_o0_pending)) ∧ Fd5 Z h o0 (.double (FP.l2d (0 : Int64)))
theorem ef_r_compound (o0 : Addr) (m : MethodId) : entryFrame m #[(.ref o0)] 1 = mkF m 0 #[.val (.ref o0)] [] := by first | (simp [entryFrame, mkF, argsToLocals, Value.category]; done) | rfl
set_option maxRecDepth 65536 in
set_option maxHeartbeats 40000000 in
theorem r_compound (l : Launch) (Z : State) (a0 : Array Value) (hw : HW Z a0) (ws : List Jvm.Cond) (o0 : Addr) (x_o0_compounded x_o0_pending : UInt64) (h0 : Heap) (n0 : Nat) (Z0 : n0 ≤ h0.size) (F_o0_compounded : Fd4 Z h0 o0 (.double x_o0_compounded)) (F_o0_pending : Fd5 Z h0 o0 (.double x_o0_pending)) (hp0 : Jvm.Free.Fl.NoNaN64 (FP.dadd x_o0_compounded x_o0_pending)) (E_o0 : Ex0 Z h0 o0) (g_o0 : n0 ≤ o0) :
    MF l Z y1_compound b1_ 1 none ws ⟨0, 0, 0, 0⟩ #[(.ref o0)] h0 (Q_r_compound Z o0 x_o0_compounded x_o0_pending h0 n0) := by
  refine own_body (plainFor_of_name pn_Accrual684) (ef_r_compound o0) (by decide) (by decide) ?_
  intro p e s m below meth c s₁ hx hby hml hown hnm hret hZ hh e0 X0
  have N0 := Fr.nil n0
  obtain ⟨T1, X1, e1, st1⟩ := getF X0 hx hZ hown (host := "") (Or.inl (w27 hw)) Via.refl e0 F_o0_compounded (g := (mkF m 2 #[vr o0] [(.ref o0), (.ref o0)])) rfl rfl (hb hby d17)
  obtain ⟨T2, X2, e2, st2⟩ := getF X1 hx hZ hown (host := "") (Or.inl (w29 hw)) Via.refl e1 F_o0_pending (g := (mkF m 6 #[vr o0] [(.ref o0), (.double x_o0_compounded), (.ref o0)])) rfl rfl (hb hby d19)
  obtain ⟨T3, h3, X3, e3, W3, st3⟩ := putF X2 hx hZ hown (host := "") (Or.inl (w27 hw)) Via.refl e2 F_o0_compounded E_o0 (Or.inl (w28 hw)) (w6 hw) (ty := .double) (by decide) rfl rfl (g := (mkF m 10 #[vr o0] [(.double (FP.dadd x_o0_compounded x_o0_pending)), (.ref o0)])) rfl rfl (hb hby d21)
  have K3 := KL.ofW W3
  have Fw3 : Fd4 Z h3 o0 (.double (FP.dadd x_o0_compounded x_o0_pending)) := Fld.same W3 F_o0_compounded
  have N3 := Fr.snoc X3 N0 g_o0
  have f4 := (kFld K3 F_o0_pending (nwS (Or.inr (sn_12 hw)) nw0))
  have f5 := (kExa K3 E_o0)
  obtain ⟨T6, h6, X6, e6, W6, st6⟩ := putF X3 hx hZ hown (host := "") (Or.inl (w29 hw)) Via.refl e3 f4 f5 (Or.inl (w30 hw)) (w6 hw) (ty := .double) (by decide) rfl rfl (g := (mkF m 15 #[vr o0] [(.double (FP.l2d (0 : Int64))), (.ref o0)])) rfl rfl (hb hby d24)
  have K6 := KL.ofW W6
  have Fw6 : Fd5 Z h6 o0 (.double (FP.l2d (0 : Int64))) := Fld.same W6 f4
  have N6 := Fr.snoc X6 N3 g_o0
  have C0 := (KL.refl h0 (WS_r_compound Z o0)).trans K3 (naO (own_mi 0 rfl) na0)
  have C1 := C0.trans K6 (naO (own_mi 1 rfl) na0)
  have f7 := (kFld K6 Fw3 (nwS (Or.inr (sn_13 hw)) nw0))
  refine ⟨T6, _, none, X6, (fun h => by cases h <;> rfl), ?_, fun fs hr => ?_⟩
  · show Q_r_compound Z o0 x_o0_compounded x_o0_pending h0 n0 _ T6.heap _
    rw [e6]
    exact ⟨rfl, N6, C1, f7, Fw6⟩
  · refine t_aloadN 1 X0.here hx (hb hby d15) rfl rfl rfl ?_
    refine t_dup 2 X0.here hx (hb hby d16) rfl rfl ?_
    refine st1 _ ?_
    refine t_aloadN 6 X1.here hx (hb hby d18) rfl rfl rfl ?_
    refine st2 _ ?_
    refine t_dadd 10 (r := (FP.dadd x_o0_compounded x_o0_pending)) X2.here hx (hb hby d20) hp0 rfl rfl ?_
    refine st3 _ ?_
    refine t_aloadN 14 X3.here hx (hb hby d22) rfl rfl rfl ?_
    refine t_dconst0 15 (r := (FP.l2d (0 : Int64))) X3.here hx (hb hby d23) own_dconst0 rfl ?_
    refine st6 _ ?_
    exact X6.returnOut hx hret (hb hby d25) hr
abbrev b2_ := prog_14_method_3_code
theorem d26 : decode b2_ 0 = .ok (.aload_n 0, 1) := by decide +kernel
theorem d27 : decode b2_ 1 = .ok (.getfield 23, 3) := by decide +kernel
theorem d28 : decode b2_ 4 = .ok (.dreturn, 1) := by decide +kernel
abbrev y2_compounded : MethodName := ⟨"com/example/rivulet/rivulet/instrument/Accrual", "compounded", "()D"⟩
def Q_r_compounded (Z : State) (o0 : Addr) (x_o0_compounded : UInt64) (h0 : Heap) (n0 : Nat) (v : Option Value) (h : Heap) (L : List Loc) : Prop := v = some (.double x_o0_compounded) ∧ Fr n0 L ∧ h = h0
theorem ef_r_compounded (o0 : Addr) (m : MethodId) : entryFrame m #[(.ref o0)] 1 = mkF m 0 #[.val (.ref o0)] [] := by first | (simp [entryFrame, mkF, argsToLocals, Value.category]; done) | rfl
set_option maxRecDepth 65536 in
set_option maxHeartbeats 40000000 in
theorem r_compounded (l : Launch) (Z : State) (a0 : Array Value) (hw : HW Z a0) (ws : List Jvm.Cond) (o0 : Addr) (x_o0_compounded : UInt64) (h0 : Heap) (n0 : Nat) (Z0 : n0 ≤ h0.size) (F_o0_compounded : Fd4 Z h0 o0 (.double x_o0_compounded)) :
    MF l Z y2_compounded b2_ 1 (some .double) ws ⟨0, 0, 0, 0⟩ #[(.ref o0)] h0 (Q_r_compounded Z o0 x_o0_compounded h0 n0) := by
  refine own_body (plainFor_of_name pn_Accrual684) (ef_r_compounded o0) (by decide) (by decide) ?_
  intro p e s m below meth c s₁ hx hby hml hown hnm hret hZ hh e0 X0
  have N0 := Fr.nil n0
  obtain ⟨T1, X1, e1, st1⟩ := getF X0 hx hZ hown (host := "") (Or.inl (w27 hw)) Via.refl e0 F_o0_compounded (g := (mkF m 1 #[vr o0] [(.ref o0)])) rfl rfl (hb hby d27)
  refine ⟨T1, _, some (.double x_o0_compounded), X1, (fun h => by cases h <;> rfl), ?_, fun fs hr => ?_⟩
  · show Q_r_compounded Z o0 x_o0_compounded h0 n0 _ T1.heap _
    rw [e1]
    exact ⟨rfl, N0, rfl⟩
  · refine t_aloadN 1 X0.here hx (hb hby d26) rfl rfl rfl ?_
    refine st1 _ ?_
    exact own_retD X1 hx hret (hb hby d28) hr
abbrev b3_ := prog_14_method_2_code
theorem d29 : decode b3_ 0 = .ok (.aload_n 0, 1) := by decide +kernel
theorem d30 : decode b3_ 1 = .ok (.getfield 7, 3) := by decide +kernel
theorem d31 : decode b3_ 4 = .ok (.aload_n 0, 1) := by decide +kernel
theorem d32 : decode b3_ 5 = .ok (.getfield 23, 3) := by decide +kernel
theorem d33 : decode b3_ 8 = .ok (.dadd, 1) := by decide +kernel
theorem d34 : decode b3_ 9 = .ok (.dreturn, 1) := by decide +kernel
abbrev y3_base : MethodName := ⟨"com/example/rivulet/rivulet/instrument/Accrual", "base", "()D"⟩
def Q_r_base (Z : State) (o0 : Addr) (x_o0_balance x_o0_compounded : UInt64) (h0 : Heap) (n0 : Nat) (v : Option Value) (h : Heap) (L : List Loc) : Prop := v = some (.double (FP.dadd x_o0_balance x_o0_compounded)) ∧ Fr n0 L ∧ h = h0
theorem ef_r_base (o0 : Addr) (m : MethodId) : entryFrame m #[(.ref o0)] 1 = mkF m 0 #[.val (.ref o0)] [] := by first | (simp [entryFrame, mkF, argsToLocals, Value.category]; done) | rfl
set_option maxRecDepth 65536 in
set_option maxHeartbeats 40000000 in
theorem r_base (l : Launch) (Z : State) (a0 : Array Value) (hw : HW Z a0) (ws : List Jvm.Cond) (o0 : Addr) (x_o0_balance x_o0_compounded : UInt64) (h0 : Heap) (n0 : Nat) (Z0 : n0 ≤ h0.size) (F_o0_balance : Fd0 Z h0 o0 (.double x_o0_balance)) (F_o0_compounded : Fd4 Z h0 o0 (.double x_o0_compounded)) (hp0 : Jvm.Free.Fl.NoNaN64 (FP.dadd x_o0_balance x_o0_compounded)) :
    MF l Z y3_base b3_ 1 (some .double) ws ⟨0, 0, 0, 0⟩ #[(.ref o0)] h0 (Q_r_base Z o0 x_o0_balance x_o0_compounded h0 n0) := by
  refine own_body (plainFor_of_name pn_Accrual684) (ef_r_base o0) (by decide) (by decide) ?_
  intro p e s m below meth c s₁ hx hby hml hown hnm hret hZ hh e0 X0
  have N0 := Fr.nil n0
  obtain ⟨T1, X1, e1, st1⟩ := getF X0 hx hZ hown (host := "") (Or.inl (w14 hw)) Via.refl e0 F_o0_balance (g := (mkF m 1 #[vr o0] [(.ref o0)])) rfl rfl (hb hby d30)
  obtain ⟨T2, X2, e2, st2⟩ := getF X1 hx hZ hown (host := "") (Or.inl (w27 hw)) Via.refl e1 F_o0_compounded (g := (mkF m 5 #[vr o0] [(.ref o0), (.double x_o0_balance)])) rfl rfl (hb hby d32)
  refine ⟨T2, _, some (.double (FP.dadd x_o0_balance x_o0_compounded)), X2, (fun h => by cases h <;> rfl), ?_, fun fs hr => ?_⟩
  · show Q_r_base Z o0 x_o0_balance x_o0_compounded h0 n0 _ T2.heap _
    rw [e2]
    exact ⟨rfl, N0, rfl⟩
  · refine t_aloadN 1 X0.here hx (hb hby d29) rfl rfl rfl ?_
    refine st1 _ ?_
    refine t_aloadN 5 X1.here hx (hb hby d31) rfl rfl rfl ?_
    refine st2 _ ?_
    refine t_dadd 9 (r := (FP.dadd x_o0_balance x_o0_compounded)) X2.here hx (hb hby d33) hp0 rfl rfl ?_
    exact own_retD X2 hx hret (hb hby d34) hr
abbrev b4_ := prog_14_method_7_code
theorem d35 : decode b4_ 0 = .ok (.dload_n 0, 1) := by decide +kernel
theorem d36 : decode b4_ 1 = .ok (.dload_n 2, 1) := by decide +kernel
theorem d37 : decode b4_ 2 = .ok (.dmul, 1) := by decide +kernel
theorem d38 : decode b4_ 3 = .ok (.ldc2_w 64, 3) := by decide +kernel
def w49 (hw : HW Z a0) := ow 49 hw rfl
theorem d39 : decode b4_ 6 = .ok (.ddiv, 1) := by decide +kernel
theorem d40 : decode b4_ 7 = .ok (.dload 4, 2) := by decide +kernel
theorem d41 : decode b4_ 9 = .ok (.dmul, 1) := by decide +kernel
theorem d42 : decode b4_ 10 = .ok (.dreturn, 1) := by decide +kernel
abbrev y4_simpleInterest : MethodName := ⟨"com/example/rivulet/rivulet/instrument/Accrual", "simpleInterest", "(DDD)D"⟩
def Q_r_simple (Z : State) (x0 x1 x2 : UInt64) (h0 : Heap) (n0 : Nat) (v : Option Value) (h : Heap) (L : List Loc) : Prop := v = some (.double (FP.dmul (FP.ddiv (FP.dmul x0 x1) (4636737291354636288 : UInt64)) x2)) ∧ Fr n0 L ∧ h = h0
theorem ef_r_simple (x0 x1 x2 : UInt64) (m : MethodId) : entryFrame m #[(.double x0), (.double x1), (.double x2)] 6 = mkF m 0 #[.val (.double x0), .second, .val (.double x1), .second, .val (.double x2), .second] [] := by first | (simp [entryFrame, mkF, argsToLocals, Value.category]; done) | rfl
set_option maxRecDepth 65536 in
set_option maxHeartbeats 40000000 in
theorem r_simple (l : Launch) (Z : State) (a0 : Array Value) (hw : HW Z a0) (ws : List Jvm.Cond) (x0 x1 x2 : UInt64) (h0 : Heap) (n0 : Nat) (Z0 : n0 ≤ h0.size) (hp0 : Jvm.Free.Fl.NoNaN64 (FP.dmul x0 x1)) (hp1 : Jvm.Free.Fl.NoNaN64 (FP.ddiv (FP.dmul x0 x1) (4636737291354636288 : UInt64))) (hp2 : Jvm.Free.Fl.NoNaN64 (FP.dmul (FP.ddiv (FP.dmul x0 x1) (4636737291354636288 : UInt64)) x2)) :
    MF l Z y4_simpleInterest b4_ 6 (some .double) ws ⟨0, 0, 0, 0⟩ #[(.double x0), (.double x1), (.double x2)] h0 (Q_r_simple Z x0 x1 x2 h0 n0) := by
  refine own_body (plainFor_of_name pn_Accrual684) (ef_r_simple x0 x1 x2) (by decide) (by decide) ?_
  intro p e s m below meth c s₁ hx hby hml hown hnm hret hZ hh e0 X0
  have N0 := Fr.nil n0
  refine ⟨s₁, _, some (.double (FP.dmul (FP.ddiv (FP.dmul x0 x1) (4636737291354636288 : UInt64)) x2)), X0, (fun h => by cases h <;> rfl), ?_, fun fs hr => ?_⟩
  · show Q_r_simple Z x0 x1 x2 h0 n0 _ s₁.heap _
    rw [e0]
    exact ⟨rfl, N0, rfl⟩
  · refine t_dloadN 1 X0.here hx (hb hby d35) rfl rfl ?_
    refine t_dloadN 2 X0.here hx (hb hby d36) rfl rfl ?_
    refine t_dmul 3 (r := (FP.dmul x0 x1)) X0.here hx (hb hby d37) hp0 rfl rfl ?_
    refine X0.ldc2DoubleC hx hown (mvT hZ (w49 hw)) (g := (mkF m 3 #[.val (.double x0), .second, .val (.double x1), .second, .val (.double x2), .second] [(.double (FP.dmul x0 x1))])) rfl (hb hby d38) _ ?_
    refine t_ddiv 7 (r := (FP.ddiv (FP.dmul x0 x1) (4636737291354636288 : UInt64))) X0.here hx (hb hby d39) hp1 rfl rfl ?_
    refine t_dload 9 X0.here hx (hb hby d40) rfl rfl ?_
    refine t_dmul 10 (r := (FP.dmul (FP.ddiv (FP.dmul x0 x1) (4636737291354636288 : UInt64)) x2)) X0.here hx (hb hby d41) hp2 rfl rfl ?_
    exact own_retD X0 hx hret (hb hby d42) hr
abbrev b5_ := method_3_code
theorem d43 : decode b5_ 0 = .ok (.dload_n 2, 1) := by decide +kernel
theorem d44 : decode b5_ 1 = .ok (.dload 4, 2) := by decide +kernel
theorem d45 : decode b5_ 3 = .ok (.dsub, 1) := by decide +kernel
theorem d46 : decode b5_ 4 = .ok (.dstore 8, 2) := by decide +kernel
theorem d47 : decode b5_ 6 = .ok (.dload_n 0, 1) := by decide +kernel
theorem d48 : decode b5_ 7 = .ok (.dload 8, 2) := by decide +kernel
theorem d49 : decode b5_ 9 = .ok (.dmul, 1) := by decide +kernel
theorem d50 : decode b5_ 10 = .ok (.ldc2_w 47, 3) := by decide +kernel
def w59 (hw : HW Z a0) := ow 59 hw rfl
theorem d51 : decode b5_ 13 = .ok (.ddiv, 1) := by decide +kernel
theorem d52 : decode b5_ 14 = .ok (.dload 6, 2) := by decide +kernel
theorem d53 : decode b5_ 16 = .ok (.dmul, 1) := by decide +kernel
theorem d54 : decode b5_ 17 = .ok (.dreturn, 1) := by decide +kernel
theorem pn_AccrualCompoundPinLaw114 : plainName "com/example/rivulet/rivulet/instrument/AccrualCompoundPinLaw" = true := by first | (simp [plainName, overriddenIn]; done) | decide +kernel
abbrev y5_indexPart : MethodName := ⟨"com/example/rivulet/rivulet/instrument/AccrualCompoundPinLaw", "indexPart", "(DDDD)D"⟩
def Q_r_index (Z : State) (x0 x1 x2 x3 : UInt64) (h0 : Heap) (n0 : Nat) (v : Option Value) (h : Heap) (L : List Loc) : Prop := v = some (.double (FP.dmul (FP.ddiv (FP.dmul x0 (FP.dsub x1 x2)) (4636737291354636288 : UInt64)) x3)) ∧ Fr n0 L ∧ h = h0
theorem ef_r_index (x0 x1 x2 x3 : UInt64) (m : MethodId) : entryFrame m #[(.double x0), (.double x1), (.double x2), (.double x3)] 10 = mkF m 0 #[.val (.double x0), .second, .val (.double x1), .second, .val (.double x2), .second, .val (.double x3), .second, .unset, .unset] [] := by first | (simp [entryFrame, mkF, argsToLocals, Value.category]; done) | rfl
set_option maxRecDepth 65536 in
set_option maxHeartbeats 40000000 in
theorem r_index (l : Launch) (Z : State) (a0 : Array Value) (hw : HW Z a0) (ws : List Jvm.Cond) (x0 x1 x2 x3 : UInt64) (h0 : Heap) (n0 : Nat) (Z0 : n0 ≤ h0.size) (hp0 : Jvm.Free.Fl.NoNaN64 (FP.dsub x1 x2)) (hp1 : Jvm.Free.Fl.NoNaN64 (FP.dmul x0 (FP.dsub x1 x2))) (hp2 : Jvm.Free.Fl.NoNaN64 (FP.ddiv (FP.dmul x0 (FP.dsub x1 x2)) (4636737291354636288 : UInt64))) (hp3 : Jvm.Free.Fl.NoNaN64 (FP.dmul (FP.ddiv (FP.dmul x0 (FP.dsub x1 x2)) (4636737291354636288 : UInt64)) x3)) :
    MF l Z y5_indexPart b5_ 10 (some .double) ws ⟨0, 0, 0, 0⟩ #[(.double x0), (.double x1), (.double x2), (.double x3)] h0 (Q_r_index Z x0 x1 x2 x3 h0 n0) := by
  refine own_body (plainFor_of_name pn_AccrualCompoundPinLaw114) (ef_r_index x0 x1 x2 x3) (by decide) (by decide) ?_
  intro p e s m below meth c s₁ hx hby hml hown hnm hret hZ hh e0 X0
  have N0 := Fr.nil n0
  refine ⟨s₁, _, some (.double (FP.dmul (FP.ddiv (FP.dmul x0 (FP.dsub x1 x2)) (4636737291354636288 : UInt64)) x3)), X0, (fun h => by cases h <;> rfl), ?_, fun fs hr => ?_⟩
  · show Q_r_index Z x0 x1 x2 x3 h0 n0 _ s₁.heap _
    rw [e0]
    exact ⟨rfl, N0, rfl⟩
  · refine t_dloadN 1 X0.here hx (hb hby d43) rfl rfl ?_
    refine t_dload 3 X0.here hx (hb hby d44) rfl rfl ?_
    refine t_dsub 4 (r := (FP.dsub x1 x2)) X0.here hx (hb hby d45) hp0 rfl rfl ?_
    refine t_dstore (pc' := 6) (L' := #[.val (.double x0), .second, .val (.double x1), .second, .val (.double x2), .second, .val (.double x3), .second, .val (.double (FP.dsub x1 x2)), .second]) X0.here hx (hb hby d46) rfl rfl ?_
    refine t_dloadN 7 X0.here hx (hb hby d47) rfl rfl ?_
    refine t_dload 9 X0.here hx (hb hby d48) rfl rfl ?_
    refine t_dmul 10 (r := (FP.dmul x0 (FP.dsub x1 x2))) X0.here hx (hb hby d49) hp1 rfl rfl ?_
    refine X0.ldc2DoubleC hx hown (mvT hZ (w59 hw)) (g := (mkF m 10 #[.val (.double x0), .second, .val (.double x1), .second, .val (.double x2), .second, .val (.double x3), .second, .val (.double (FP.dsub x1 x2)), .second] [(.double (FP.dmul x0 (FP.dsub x1 x2)))])) rfl (hb hby d50) _ ?_
    refine t_ddiv 14 (r := (FP.ddiv (FP.dmul x0 (FP.dsub x1 x2)) (4636737291354636288 : UInt64))) X0.here hx (hb hby d51) hp2 rfl rfl ?_
    refine t_dload 16 X0.here hx (hb hby d52) rfl rfl ?_
    refine t_dmul 17 (r := (FP.dmul (FP.ddiv (FP.dmul x0 (FP.dsub x1 x2)) (4636737291354636288 : UInt64)) x3)) X0.here hx (hb hby d53) hp3 rfl rfl ?_
    exact own_retD X0 hx hret (hb hby d54) hr
abbrev b6_ := prog_14_method_4_code
theorem d55 : decode b6_ 0 = .ok (.aload_n 0, 1) := by decide +kernel
theorem d56 : decode b6_ 1 = .ok (.invokevirtual 26, 3) := by decide +kernel
def w41 (hw : HW Z a0) := ow 41 hw rfl
def w44 (hw : HW Z a0) := ow 44 hw rfl
def w45 (hw : HW Z a0) := ow 45 hw rfl
def w7 (hw : HW Z a0) := ow 7 hw rfl
theorem pd_0 : parseMethodDescriptor "()D" = some ⟨[], some .double⟩ := by decide +kernel
def w42 (hw : HW Z a0) := ow 42 hw rfl
def w43 (hw : HW Z a0) := ow 43 hw rfl
theorem d57 : decode b6_ 4 = .ok (.aload_n 0, 1) := by decide +kernel
theorem d58 : decode b6_ 5 = .ok (.getfield 13, 3) := by decide +kernel
theorem d59 : decode b6_ 8 = .ok (.aload_n 0, 1) := by decide +kernel
theorem d60 : decode b6_ 9 = .ok (.getfield 16, 3) := by decide +kernel
theorem d61 : decode b6_ 12 = .ok (.dsub, 1) := by decide +kernel
theorem d62 : decode b6_ 13 = .ok (.dload_n 1, 1) := by decide +kernel
theorem d63 : decode b6_ 14 = .ok (.invokestatic 30, 3) := by decide +kernel
def w46 (hw : HW Z a0) := ow 46 hw rfl
def w48 (hw : HW Z a0) := ow 48 hw rfl
theorem pd_1 : parseMethodDescriptor "(DDD)D" = some ⟨[.double, .double, .double], some .double⟩ := by decide +kernel
def w47 (hw : HW Z a0) := ow 47 hw rfl
theorem d64 : decode b6_ 17 = .ok (.dstore_n 3, 1) := by decide +kernel
theorem d65 : decode b6_ 18 = .ok (.aload_n 0, 1) := by decide +kernel
theorem d66 : decode b6_ 19 = .ok (.getfield 19, 3) := by decide +kernel
theorem d67 : decode b6_ 22 = .ok (.getstatic 34, 3) := by decide +kernel
def w50 (hw : HW Z a0) := ow 50 hw rfl
theorem d68 : decode b6_ 25 = .ok (.if_acmp .ne 10, 3) := by decide +kernel
theorem d69 : decode b6_ 28 = .ok (.aload_n 0, 1) := by decide +kernel
theorem d70 : decode b6_ 29 = .ok (.invokevirtual 26, 3) := by decide +kernel
theorem d71 : decode b6_ 32 = .ok (.goto 7, 3) := by decide +kernel
theorem d72 : decode b6_ 39 = .ok (.aload_n 0, 1) := by decide +kernel
theorem d73 : decode b6_ 40 = .ok (.getfield 16, 3) := by decide +kernel
theorem d74 : decode b6_ 43 = .ok (.dload_n 1, 1) := by decide +kernel
theorem d75 : decode b6_ 44 = .ok (.invokestatic 30, 3) := by decide +kernel
theorem d76 : decode b6_ 47 = .ok (.dstore 5, 2) := by decide +kernel
theorem d77 : decode b6_ 49 = .ok (.aload_n 0, 1) := by decide +kernel
theorem d78 : decode b6_ 50 = .ok (.dup, 1) := by decide +kernel
theorem d79 : decode b6_ 51 = .ok (.getfield 39, 3) := by decide +kernel
theorem d80 : decode b6_ 54 = .ok (.aload_n 0, 1) := by decide +kernel
theorem d81 : decode b6_ 55 = .ok (.getfield 19, 3) := by decide +kernel
theorem d82 : decode b6_ 58 = .ok (.getstatic 42, 3) := by decide +kernel
def w51 (hw : HW Z a0) := ow 51 hw rfl
theorem d83 : decode b6_ 61 = .ok (.if_acmp .ne 7, 3) := by decide +kernel
theorem d84 : decode b6_ 68 = .ok (.dload_n 3, 1) := by decide +kernel
theorem d85 : decode b6_ 69 = .ok (.dload 5, 2) := by decide +kernel
theorem d86 : decode b6_ 71 = .ok (.dadd, 1) := by decide +kernel
theorem d87 : decode b6_ 72 = .ok (.dadd, 1) := by decide +kernel
theorem d88 : decode b6_ 73 = .ok (.putfield 39, 3) := by decide +kernel
theorem d89 : decode b6_ 76 = .ok (.dload_n 3, 1) := by decide +kernel
theorem d90 : decode b6_ 77 = .ok (.dload 5, 2) := by decide +kernel
theorem d91 : decode b6_ 79 = .ok (.dadd, 1) := by decide +kernel
theorem d92 : decode b6_ 80 = .ok (.dreturn, 1) := by decide +kernel
abbrev y6_accrue : MethodName := ⟨"com/example/rivulet/rivulet/instrument/Accrual", "accrue", "(D)D"⟩
def WS_r_accrue_ALL (Z : State) (o0 : Addr) : List (Addr × Nat) := [(o0, (sl5 Z))]
def Q_r_accrue_ALL (Z : State) (o0 : Addr) (x1 x_o0_balance x_o0_compounded x_o0_rate x_o0_margin : UInt64) (st_ALL : Addr) (x_o0_pending : UInt64) (st_SPREAD_EXCLUSIVE : Addr) (h0 : Heap) (n0 : Nat) (v : Option Value) (h : Heap) (L : List Loc) : Prop := v = some (.double (FP.dadd (FP.dmul (FP.ddiv (FP.dmul (FP.dadd x_o0_balance x_o0_compounded) (FP.dsub x_o0_rate x_o0_margin)) (4636737291354636288 : UInt64)) x1) (FP.dmul (FP.ddiv (FP.dmul (FP.dadd x_o0_balance x_o0_compounded) x_o0_margin) (4636737291354636288 : UInt64)) x1))) ∧ Fr n0 L ∧ KL h0 h (WS_r_accrue_ALL Z o0) ∧ Fd5 Z h o0 (.double (FP.dadd x_o0_pending (FP.dadd (FP.dmul (FP.ddiv (FP.dmul (FP.dadd x_o0_balance x_o0_compounded) (FP.dsub x_o0_rate x_o0_margin)) (4636737291354636288 : UInt64)) x1) (FP.dmul (FP.ddiv (FP.dmul (FP.dadd x_o0_balance x_o0_compounded) x_o0_margin) (4636737291354636288 : UInt64)) x1))))
theorem ef_r_accrue_ALL (o0 : Addr) (x1 : UInt64) (m : MethodId) : entryFrame m #[(.ref o0), (.double x1)] 7 = mkF m 0 #[.val (.ref o0), .val (.double x1), .second, .unset, .unset, .unset, .unset] [] := by first | (simp [entryFrame, mkF, argsToLocals, Value.category]; done) | rfl
set_option maxRecDepth 65536 in
set_option maxHeartbeats 40000000 in
theorem r_accrue_ALL (l : Launch) (Z : State) (a0 : Array Value) (hw : HW Z a0) (ws : List Jvm.Cond) (o0 : Addr) (x1 x_o0_balance x_o0_compounded x_o0_rate x_o0_margin : UInt64) (st_ALL : Addr) (x_o0_pending : UInt64) (st_SPREAD_EXCLUSIVE : Addr) (h0 : Heap) (n0 : Nat) (Z0 : n0 ≤ h0.size) (E_o0 : Ex0 Z h0 o0) (F_o0_balance : Fd0 Z h0 o0 (.double x_o0_balance)) (F_o0_compounded : Fd4 Z h0 o0 (.double x_o0_compounded)) (hp0 : Jvm.Free.Fl.NoNaN64 (FP.dadd x_o0_balance x_o0_compounded)) (F_o0_rate : Fd1 Z h0 o0 (.double x_o0_rate)) (F_o0_margin : Fd2 Z h0 o0 (.double x_o0_margin)) (hp1 : Jvm.Free.Fl.NoNaN64 (FP.dsub x_o0_rate x_o0_margin)) (hp2 : Jvm.Free.Fl.NoNaN64 (FP.dmul (FP.dadd x_o0_balance x_o0_compounded) (FP.dsub x_o0_rate x_o0_margin))) (hp3 : Jvm.Free.Fl.NoNaN64 (FP.ddiv (FP.dmul (FP.dadd x_o0_balance x_o0_compounded) (FP.dsub x_o0_rate x_o0_margin)) (4636737291354636288 : UInt64))) (hp4 : Jvm.Free.Fl.NoNaN64 (FP.dmul (FP.ddiv (FP.dmul (FP.dadd x_o0_balance x_o0_compounded) (FP.dsub x_o0_rate x_o0_margin)) (4636737291354636288 : UInt64)) x1)) (F_o0_method : Fd3 Z h0 o0 (.ref st_ALL)) (S_ALL : Sta Z Z.heap "com/example/rivulet/rivulet/instrument/CompoundMethod" "ALL" "Lcom/example/rivulet/rivulet/instrument/CompoundMethod;" (.ref st_ALL)) (O0 : Old Z n0 h0) (hp5 : Jvm.Free.Fl.NoNaN64 (FP.dmul (FP.dadd x_o0_balance x_o0_compounded) x_o0_margin)) (hp6 : Jvm.Free.Fl.NoNaN64 (FP.ddiv (FP.dmul (FP.dadd x_o0_balance x_o0_compounded) x_o0_margin) (4636737291354636288 : UInt64))) (hp7 : Jvm.Free.Fl.NoNaN64 (FP.dmul (FP.ddiv (FP.dmul (FP.dadd x_o0_balance x_o0_compounded) x_o0_margin) (4636737291354636288 : UInt64)) x1)) (F_o0_pending : Fd5 Z h0 o0 (.double x_o0_pending)) (S_SPREAD_EXCLUSIVE : Sta Z Z.heap "com/example/rivulet/rivulet/instrument/CompoundMethod" "SPREAD_EXCLUSIVE" "Lcom/example/rivulet/rivulet/instrument/CompoundMethod;" (.ref st_SPREAD_EXCLUSIVE)) (ne_st_ALL_st_SPREAD_EXCLUSIVE : st_ALL ≠ st_SPREAD_EXCLUSIVE) (hp8 : Jvm.Free.Fl.NoNaN64 (FP.dadd (FP.dmul (FP.ddiv (FP.dmul (FP.dadd x_o0_balance x_o0_compounded) (FP.dsub x_o0_rate x_o0_margin)) (4636737291354636288 : UInt64)) x1) (FP.dmul (FP.ddiv (FP.dmul (FP.dadd x_o0_balance x_o0_compounded) x_o0_margin) (4636737291354636288 : UInt64)) x1))) (hp9 : Jvm.Free.Fl.NoNaN64 (FP.dadd x_o0_pending (FP.dadd (FP.dmul (FP.ddiv (FP.dmul (FP.dadd x_o0_balance x_o0_compounded) (FP.dsub x_o0_rate x_o0_margin)) (4636737291354636288 : UInt64)) x1) (FP.dmul (FP.ddiv (FP.dmul (FP.dadd x_o0_balance x_o0_compounded) x_o0_margin) (4636737291354636288 : UInt64)) x1)))) (g_o0 : n0 ≤ o0) :
    MF l Z y6_accrue b6_ 7 (some .double) ws ⟨1, 0, 0, 17⟩ #[(.ref o0), (.double x1)] h0 (Q_r_accrue_ALL Z o0 x1 x_o0_balance x_o0_compounded x_o0_rate x_o0_margin st_ALL x_o0_pending st_SPREAD_EXCLUSIVE h0 n0) := by
  refine own_body (plainFor_of_name pn_Accrual684) (ef_r_accrue_ALL o0 x1) (by decide) (by decide) ?_
  intro p e s m below meth c s₁ hx hby hml hown hnm hret hZ hh e0 X0
  have N0 := Fr.nil n0
  obtain ⟨_, T1, L1, X1, hQ1, st1⟩ := own_virtual X0 hx hZ hown (w41 hw) (w42 hw) (nfS hZ (w44 hw)) (w44 hw) (w43 hw) (w7 hw) (w45 hw) (by decide) (r_base l Z a0 hw [] o0 x_o0_balance x_o0_compounded h0 n0 Z0 F_o0_balance F_o0_compounded hp0) e0 E_o0 (W := 0) (by decide) (g := (mkF m 1 #[vr o0, .val (.double x1), .second, .unset, .unset, .unset, .unset] [(.ref o0)])) rfl hml.symm (argsL := []) (rest := []) (lenOf pd_0 rfl) rfl rfl (own_wr rfl rfl) (hb hby d56)
  obtain ⟨rfl, N1q, e1⟩ := hQ1
  have N1 := Fr.app N0 N1q
  obtain ⟨T2, X2, e2, st2⟩ := getF X1 hx hZ hown (host := "") (Or.inl (w16 hw)) Via.refl e1 F_o0_rate (g := (mkF m 5 #[vr o0, .val (.double x1), .second, .unset, .unset, .unset, .unset] [(.ref o0), (.double (FP.dadd x_o0_balance x_o0_compounded))])) rfl rfl (hb hby d58)
  obtain ⟨T3, X3, e3, st3⟩ := getF X2 hx hZ hown (host := "") (Or.inl (w18 hw)) Via.refl e2 F_o0_margin (g := (mkF m 9 #[vr o0, .val (.double x1), .second, .unset, .unset, .unset, .unset] [(.ref o0), (.double x_o0_rate), (.double (FP.dadd x_o0_balance x_o0_compounded))])) rfl rfl (hb hby d60)
  obtain ⟨_, T4, L4, X4, hQ4, st4⟩ := own_static X3 hx hZ hown (w46 hw) (w47 hw) (w7 hw) (w48 hw) (by decide) (r_simple l Z a0 hw [] (FP.dadd x_o0_balance x_o0_compounded) (FP.dsub x_o0_rate x_o0_margin) x1 h0 n0 Z0 hp2 hp3 hp4) e3 (W := 0) (by decide) (g := (mkF m 14 #[vr o0, .val (.double x1), .second, .unset, .unset, .unset, .unset] [(.double x1), (.double (FP.dsub x_o0_rate x_o0_margin)), (.double (FP.dadd x_o0_balance x_o0_compounded))])) rfl hml.symm (argsL := [(.double (FP.dadd x_o0_balance x_o0_compounded)), (.double (FP.dsub x_o0_rate x_o0_margin)), (.double x1)]) (rest := []) (lenOf pd_1 rfl) rfl rfl (own_wr rfl rfl) (hb hby d63)
  obtain ⟨rfl, N4q, e4⟩ := hQ4
  have N4 := Fr.app N1 N4q
  obtain ⟨T5, X5, e5, st5⟩ := getF X4 hx hZ hown (host := "") (Or.inl (w20 hw)) Via.refl e4 F_o0_method (g := (mkF m 19 #[vr o0, .val (.double x1), .second, .val (.double (FP.dmul (FP.ddiv (FP.dmul (FP.dadd x_o0_balance x_o0_compounded) (FP.dsub x_o0_rate x_o0_margin)) (4636737291354636288 : UInt64)) x1)), .second, .unset, .unset] [(.ref o0)])) rfl rfl (hb hby d66)
  obtain ⟨T6, X6, e6, st6⟩ := getS2 X5 hx hZ hown (host := "") (Or.inl (w50 hw)) Via.refl e5 (Sta.ext O0.2 S_ALL) (g := (mkF m 22 #[vr o0, .val (.double x1), .second, .val (.double (FP.dmul (FP.ddiv (FP.dmul (FP.dadd x_o0_balance x_o0_compounded) (FP.dsub x_o0_rate x_o0_margin)) (4636737291354636288 : UInt64)) x1)), .second, .unset, .unset] [(.ref st_ALL)])) rfl (hb hby d67)
  obtain ⟨_, T7, L7, X7, hQ7, st7⟩ := own_virtual X6 hx hZ hown (w41 hw) (w42 hw) (nfS hZ (w44 hw)) (w44 hw) (w43 hw) (w7 hw) (w45 hw) (by decide) (r_base l Z a0 hw [] o0 x_o0_balance x_o0_compounded h0 n0 Z0 F_o0_balance F_o0_compounded hp0) e6 E_o0 (W := 0) (by decide) (g := (mkF m 29 #[vr o0, .val (.double x1), .second, .val (.double (FP.dmul (FP.ddiv (FP.dmul (FP.dadd x_o0_balance x_o0_compounded) (FP.dsub x_o0_rate x_o0_margin)) (4636737291354636288 : UInt64)) x1)), .second, .unset, .unset] [(.ref o0)])) rfl hml.symm (argsL := []) (rest := []) (lenOf pd_0 rfl) rfl rfl (own_wr rfl rfl) (hb hby d70)
  obtain ⟨rfl, N7q, e7⟩ := hQ7
  have N7 := Fr.app N4 N7q
  obtain ⟨T8, X8, e8, st8⟩ := getF X7 hx hZ hown (host := "") (Or.inl (w18 hw)) Via.refl e7 F_o0_margin (g := (mkF m 40 #[vr o0, .val (.double x1), .second, .val (.double (FP.dmul (FP.ddiv (FP.dmul (FP.dadd x_o0_balance x_o0_compounded) (FP.dsub x_o0_rate x_o0_margin)) (4636737291354636288 : UInt64)) x1)), .second, .unset, .unset] [(.ref o0), (.double (FP.dadd x_o0_balance x_o0_compounded))])) rfl rfl (hb hby d73)
  obtain ⟨_, T9, L9, X9, hQ9, st9⟩ := own_static X8 hx hZ hown (w46 hw) (w47 hw) (w7 hw) (w48 hw) (by decide) (r_simple l Z a0 hw [] (FP.dadd x_o0_balance x_o0_compounded) x_o0_margin x1 h0 n0 Z0 hp5 hp6 hp7) e8 (W := 0) (by decide) (g := (mkF m 44 #[vr o0, .val (.double x1), .second, .val (.double (FP.dmul (FP.ddiv (FP.dmul (FP.dadd x_o0_balance x_o0_compounded) (FP.dsub x_o0_rate x_o0_margin)) (4636737291354636288 : UInt64)) x1)), .second, .unset, .unset] [(.double x1), (.double x_o0_margin), (.double (FP.dadd x_o0_balance x_o0_compounded))])) rfl hml.symm (argsL := [(.double (FP.dadd x_o0_balance x_o0_compounded)), (.double x_o0_margin), (.double x1)]) (rest := []) (lenOf pd_1 rfl) rfl rfl (own_wr rfl rfl) (hb hby d75)
  obtain ⟨rfl, N9q, e9⟩ := hQ9
  have N9 := Fr.app N7 N9q
  obtain ⟨T10, X10, e10, st10⟩ := getF X9 hx hZ hown (host := "") (Or.inl (w29 hw)) Via.refl e9 F_o0_pending (g := (mkF m 51 #[vr o0, .val (.double x1), .second, .val (.double (FP.dmul (FP.ddiv (FP.dmul (FP.dadd x_o0_balance x_o0_compounded) (FP.dsub x_o0_rate x_o0_margin)) (4636737291354636288 : UInt64)) x1)), .second, .val (.double (FP.dmul (FP.ddiv (FP.dmul (FP.dadd x_o0_balance x_o0_compounded) x_o0_margin) (4636737291354636288 : UInt64)) x1)), .second] [(.ref o0), (.ref o0)])) rfl rfl (hb hby d79)
  obtain ⟨T11, X11, e11, st11⟩ := getF X10 hx hZ hown (host := "") (Or.inl (w20 hw)) Via.refl e10 F_o0_method (g := (mkF m 55 #[vr o0, .val (.double x1), .second, .val (.double (FP.dmul (FP.ddiv (FP.dmul (FP.dadd x_o0_balance x_o0_compounded) (FP.dsub x_o0_rate x_o0_margin)) (4636737291354636288 : UInt64)) x1)), .second, .val (.double (FP.dmul (FP.ddiv (FP.dmul (FP.dadd x_o0_balance x_o0_compounded) x_o0_margin) (4636737291354636288 : UInt64)) x1)), .second] [(.ref o0), (.double x_o0_pending), (.ref o0)])) rfl rfl (hb hby d81)
  obtain ⟨T12, X12, e12, st12⟩ := getS2 X11 hx hZ hown (host := "") (Or.inl (w51 hw)) Via.refl e11 (Sta.ext O0.2 S_SPREAD_EXCLUSIVE) (g := (mkF m 58 #[vr o0, .val (.double x1), .second, .val (.double (FP.dmul (FP.ddiv (FP.dmul (FP.dadd x_o0_balance x_o0_compounded) (FP.dsub x_o0_rate x_o0_margin)) (4636737291354636288 : UInt64)) x1)), .second, .val (.double (FP.dmul (FP.ddiv (FP.dmul (FP.dadd x_o0_balance x_o0_compounded) x_o0_margin) (4636737291354636288 : UInt64)) x1)), .second] [(.ref st_ALL), (.double x_o0_pending), (.ref o0)])) rfl (hb hby d82)
  obtain ⟨T13, h13, X13, e13, W13, st13⟩ := putF X12 hx hZ hown (host := "") (Or.inl (w29 hw)) Via.refl e12 F_o0_pending E_o0 (Or.inl (w30 hw)) (w6 hw) (ty := .double) (by decide) rfl rfl (g := (mkF m 73 #[vr o0, .val (.double x1), .second, .val (.double (FP.dmul (FP.ddiv (FP.dmul (FP.dadd x_o0_balance x_o0_compounded) (FP.dsub x_o0_rate x_o0_margin)) (4636737291354636288 : UInt64)) x1)), .second, .val (.double (FP.dmul (FP.ddiv (FP.dmul (FP.dadd x_o0_balance x_o0_compounded) x_o0_margin) (4636737291354636288 : UInt64)) x1)), .second] [(.double (FP.dadd x_o0_pending (FP.dadd (FP.dmul (FP.ddiv (FP.dmul (FP.dadd x_o0_balance x_o0_compounded) (FP.dsub x_o0_rate x_o0_margin)) (4636737291354636288 : UInt64)) x1) (FP.dmul (FP.ddiv (FP.dmul (FP.dadd x_o0_balance x_o0_compounded) x_o0_margin) (4636737291354636288 : UInt64)) x1)))), (.ref o0)])) rfl rfl (hb hby d88)
  have K13 := KL.ofW W13
  have Fw13 : Fd5 Z h13 o0 (.double (FP.dadd x_o0_pending (FP.dadd (FP.dmul (FP.ddiv (FP.dmul (FP.dadd x_o0_balance x_o0_compounded) (FP.dsub x_o0_rate x_o0_margin)) (4636737291354636288 : UInt64)) x1) (FP.dmul (FP.ddiv (FP.dmul (FP.dadd x_o0_balance x_o0_compounded) x_o0_margin) (4636737291354636288 : UInt64)) x1)))) := Fld.same W13 F_o0_pending
  have N13 := Fr.snoc X13 N9 g_o0
  have C0 := (KL.refl h0 (WS_r_accrue_ALL Z o0)).trans K13 (naO (own_mi 0 rfl) na0)
  refine ⟨T13, _, some (.double (FP.dadd (FP.dmul (FP.ddiv (FP.dmul (FP.dadd x_o0_balance x_o0_compounded) (FP.dsub x_o0_rate x_o0_margin)) (4636737291354636288 : UInt64)) x1) (FP.dmul (FP.ddiv (FP.dmul (FP.dadd x_o0_balance x_o0_compounded) x_o0_margin) (4636737291354636288 : UInt64)) x1))), X13, (fun h => by cases h <;> rfl), ?_, fun fs hr => ?_⟩
  · show Q_r_accrue_ALL Z o0 x1 x_o0_balance x_o0_compounded x_o0_rate x_o0_margin st_ALL x_o0_pending st_SPREAD_EXCLUSIVE h0 n0 _ T13.heap _
    rw [e13]
    exact ⟨rfl, N13, C0, Fw13⟩
  · refine t_aloadN 1 X0.here hx (hb hby d55) rfl rfl rfl ?_
    refine st1 _ ?_
    refine t_aloadN 5 X1.here hx (hb hby d57) rfl rfl rfl ?_
    refine st2 _ ?_
    refine t_aloadN 9 X2.here hx (hb hby d59) rfl rfl rfl ?_
    refine st3 _ ?_
    refine t_dsub 13 (r := (FP.dsub x_o0_rate x_o0_margin)) X3.here hx (hb hby d61) hp1 rfl rfl ?_
    refine t_dloadN 14 X3.here hx (hb hby d62) rfl rfl ?_
    refine st4 _ ?_
    refine t_dstoreN (pc' := 18) (L' := #[vr o0, .val (.double x1), .second, .val (.double (FP.dmul (FP.ddiv (FP.dmul (FP.dadd x_o0_balance x_o0_compounded) (FP.dsub x_o0_rate x_o0_margin)) (4636737291354636288 : UInt64)) x1)), .second, .unset, .unset]) X4.here hx (hb hby d64) rfl rfl ?_
    refine t_aloadN 19 X4.here hx (hb hby d65) rfl rfl rfl ?_
    refine st5 _ ?_
    refine st6 _ ?_
    refine Jvm.RoadKit.acmp (g := (mkF m 25 #[vr o0, .val (.double x1), .second, .val (.double (FP.dmul (FP.ddiv (FP.dmul (FP.dadd x_o0_balance x_o0_compounded) (FP.dsub x_o0_rate x_o0_margin)) (4636737291354636288 : UInt64)) x1)), .second, .unset, .unset] [(.ref st_ALL), (.ref st_ALL)])) X6 hx rfl rfl rfl (pc0 := 25) (pc' := 28) (same := true) rfl (hb hby d68) rfl (decide_eq_true rfl) (by decide) (by decide) ?_
    refine t_aloadN 29 X6.here hx (hb hby d69) rfl rfl rfl ?_
    refine st7 _ ?_
    refine t_goto (pc := 32) 39 X7.here hx (hb hby d71) (by decide) (by decide) ?_
    refine t_aloadN 40 X7.here hx (hb hby d72) rfl rfl rfl ?_
    refine st8 _ ?_
    refine t_dloadN 44 X8.here hx (hb hby d74) rfl rfl ?_
    refine st9 _ ?_
    refine t_dstore (pc' := 49) (L' := #[vr o0, .val (.double x1), .second, .val (.double (FP.dmul (FP.ddiv (FP.dmul (FP.dadd x_o0_balance x_o0_compounded) (FP.dsub x_o0_rate x_o0_margin)) (4636737291354636288 : UInt64)) x1)), .second, .val (.double (FP.dmul (FP.ddiv (FP.dmul (FP.dadd x_o0_balance x_o0_compounded) x_o0_margin) (4636737291354636288 : UInt64)) x1)), .second]) X9.here hx (hb hby d76) rfl rfl ?_
    refine t_aloadN 50 X9.here hx (hb hby d77) rfl rfl rfl ?_
    refine t_dup 51 X9.here hx (hb hby d78) rfl rfl ?_
    refine st10 _ ?_
    refine t_aloadN 55 X10.here hx (hb hby d80) rfl rfl rfl ?_
    refine st11 _ ?_
    refine st12 _ ?_
    refine Jvm.RoadKit.acmp (g := (mkF m 61 #[vr o0, .val (.double x1), .second, .val (.double (FP.dmul (FP.ddiv (FP.dmul (FP.dadd x_o0_balance x_o0_compounded) (FP.dsub x_o0_rate x_o0_margin)) (4636737291354636288 : UInt64)) x1)), .second, .val (.double (FP.dmul (FP.ddiv (FP.dmul (FP.dadd x_o0_balance x_o0_compounded) x_o0_margin) (4636737291354636288 : UInt64)) x1)), .second] [(.ref st_SPREAD_EXCLUSIVE), (.ref st_ALL), (.double x_o0_pending), (.ref o0)])) X12 hx rfl rfl rfl (pc0 := 61) (pc' := 68) (same := false) rfl (hb hby d83) rfl (decide_eq_false fun q => absurd (Value.ref.inj q) ne_st_ALL_st_SPREAD_EXCLUSIVE) (by decide) (by decide) ?_
    refine t_dloadN 69 X12.here hx (hb hby d84) rfl rfl ?_
    refine t_dload 71 X12.here hx (hb hby d85) rfl rfl ?_
    refine t_dadd 72 (r := (FP.dadd (FP.dmul (FP.ddiv (FP.dmul (FP.dadd x_o0_balance x_o0_compounded) (FP.dsub x_o0_rate x_o0_margin)) (4636737291354636288 : UInt64)) x1) (FP.dmul (FP.ddiv (FP.dmul (FP.dadd x_o0_balance x_o0_compounded) x_o0_margin) (4636737291354636288 : UInt64)) x1))) X12.here hx (hb hby d86) hp8 rfl rfl ?_
    refine t_dadd 73 (r := (FP.dadd x_o0_pending (FP.dadd (FP.dmul (FP.ddiv (FP.dmul (FP.dadd x_o0_balance x_o0_compounded) (FP.dsub x_o0_rate x_o0_margin)) (4636737291354636288 : UInt64)) x1) (FP.dmul (FP.ddiv (FP.dmul (FP.dadd x_o0_balance x_o0_compounded) x_o0_margin) (4636737291354636288 : UInt64)) x1)))) X12.here hx (hb hby d87) hp9 rfl rfl ?_
    refine st13 _ ?_
    refine t_dloadN 77 X13.here hx (hb hby d89) rfl rfl ?_
    refine t_dload 79 X13.here hx (hb hby d90) rfl rfl ?_
    refine t_dadd 80 (r := (FP.dadd (FP.dmul (FP.ddiv (FP.dmul (FP.dadd x_o0_balance x_o0_compounded) (FP.dsub x_o0_rate x_o0_margin)) (4636737291354636288 : UInt64)) x1) (FP.dmul (FP.ddiv (FP.dmul (FP.dadd x_o0_balance x_o0_compounded) x_o0_margin) (4636737291354636288 : UInt64)) x1))) X13.here hx (hb hby d91) hp8 rfl rfl ?_
    exact own_retD X13 hx hret (hb hby d92) hr
theorem d93 : decode b6_ 35 = .ok (.aload_n 0, 1) := by decide +kernel
theorem d94 : decode b6_ 36 = .ok (.getfield 7, 3) := by decide +kernel
theorem d95 : decode b6_ 64 = .ok (.dload_n 3, 1) := by decide +kernel
theorem d96 : decode b6_ 65 = .ok (.goto 7, 3) := by decide +kernel
def WS_r_accrue_SPREAD_EXCLUSIVE (Z : State) (o0 : Addr) : List (Addr × Nat) := [(o0, (sl5 Z))]
def Q_r_accrue_SPREAD_EXCLUSIVE (Z : State) (o0 : Addr) (x1 x_o0_balance x_o0_compounded x_o0_rate x_o0_margin : UInt64) (st_SPREAD_EXCLUSIVE st_ALL : Addr) (x_o0_pending : UInt64) (h0 : Heap) (n0 : Nat) (v : Option Value) (h : Heap) (L : List Loc) : Prop := v = some (.double (FP.dadd (FP.dmul (FP.ddiv (FP.dmul (FP.dadd x_o0_balance x_o0_compounded) (FP.dsub x_o0_rate x_o0_margin)) (4636737291354636288 : UInt64)) x1) (FP.dmul (FP.ddiv (FP.dmul x_o0_balance x_o0_margin) (4636737291354636288 : UInt64)) x1))) ∧ Fr n0 L ∧ KL h0 h (WS_r_accrue_SPREAD_EXCLUSIVE Z o0) ∧ Fd5 Z h o0 (.double (FP.dadd x_o0_pending (FP.dmul (FP.ddiv (FP.dmul (FP.dadd x_o0_balance x_o0_compounded) (FP.dsub x_o0_rate x_o0_margin)) (4636737291354636288 : UInt64)) x1)))
theorem ef_r_accrue_SPREAD_EXCLUSIVE (o0 : Addr) (x1 : UInt64) (m : MethodId) : entryFrame m #[(.ref o0), (.double x1)] 7 = mkF m 0 #[.val (.ref o0), .val (.double x1), .second, .unset, .unset, .unset, .unset] [] := by first | (simp [entryFrame, mkF, argsToLocals, Value.category]; done) | rfl
set_option maxRecDepth 65536 in
set_option maxHeartbeats 40000000 in
theorem r_accrue_SPREAD_EXCLUSIVE (l : Launch) (Z : State) (a0 : Array Value) (hw : HW Z a0) (ws : List Jvm.Cond) (o0 : Addr) (x1 x_o0_balance x_o0_compounded x_o0_rate x_o0_margin : UInt64) (st_SPREAD_EXCLUSIVE st_ALL : Addr) (x_o0_pending : UInt64) (h0 : Heap) (n0 : Nat) (Z0 : n0 ≤ h0.size) (E_o0 : Ex0 Z h0 o0) (F_o0_balance : Fd0 Z h0 o0 (.double x_o0_balance)) (F_o0_compounded : Fd4 Z h0 o0 (.double x_o0_compounded)) (hp0 : Jvm.Free.Fl.NoNaN64 (FP.dadd x_o0_balance x_o0_compounded)) (F_o0_rate : Fd1 Z h0 o0 (.double x_o0_rate)) (F_o0_margin : Fd2 Z h0 o0 (.double x_o0_margin)) (hp1 : Jvm.Free.Fl.NoNaN64 (FP.dsub x_o0_rate x_o0_margin)) (hp2 : Jvm.Free.Fl.NoNaN64 (FP.dmul (FP.dadd x_o0_balance x_o0_compounded) (FP.dsub x_o0_rate x_o0_margin))) (hp3 : Jvm.Free.Fl.NoNaN64 (FP.ddiv (FP.dmul (FP.dadd x_o0_balance x_o0_compounded) (FP.dsub x_o0_rate x_o0_margin)) (4636737291354636288 : UInt64))) (hp4 : Jvm.Free.Fl.NoNaN64 (FP.dmul (FP.ddiv (FP.dmul (FP.dadd x_o0_balance x_o0_compounded) (FP.dsub x_o0_rate x_o0_margin)) (4636737291354636288 : UInt64)) x1)) (F_o0_method : Fd3 Z h0 o0 (.ref st_SPREAD_EXCLUSIVE)) (S_ALL : Sta Z Z.heap "com/example/rivulet/rivulet/instrument/CompoundMethod" "ALL" "Lcom/example/rivulet/rivulet/instrument/CompoundMethod;" (.ref st_ALL)) (O0 : Old Z n0 h0) (ne_st_ALL_st_SPREAD_EXCLUSIVE : st_ALL ≠ st_SPREAD_EXCLUSIVE) (hp5 : Jvm.Free.Fl.NoNaN64 (FP.dmul x_o0_balance x_o0_margin)) (hp6 : Jvm.Free.Fl.NoNaN64 (FP.ddiv (FP.dmul x_o0_balance x_o0_margin) (4636737291354636288 : UInt64))) (hp7 : Jvm.Free.Fl.NoNaN64 (FP.dmul (FP.ddiv (FP.dmul x_o0_balance x_o0_margin) (4636737291354636288 : UInt64)) x1)) (F_o0_pending : Fd5 Z h0 o0 (.double x_o0_pending)) (S_SPREAD_EXCLUSIVE : Sta Z Z.heap "com/example/rivulet/rivulet/instrument/CompoundMethod" "SPREAD_EXCLUSIVE" "Lcom/example/rivulet/rivulet/instrument/CompoundMethod;" (.ref st_SPREAD_EXCLUSIVE)) (hp8 : Jvm.Free.Fl.NoNaN64 (FP.dadd x_o0_pending (FP.dmul (FP.ddiv (FP.dmul (FP.dadd x_o0_balance x_o0_compounded) (FP.dsub x_o0_rate x_o0_margin)) (4636737291354636288 : UInt64)) x1))) (g_o0 : n0 ≤ o0) (hp9 : Jvm.Free.Fl.NoNaN64 (FP.dadd (FP.dmul (FP.ddiv (FP.dmul (FP.dadd x_o0_balance x_o0_compounded) (FP.dsub x_o0_rate x_o0_margin)) (4636737291354636288 : UInt64)) x1) (FP.dmul (FP.ddiv (FP.dmul x_o0_balance x_o0_margin) (4636737291354636288 : UInt64)) x1))) :
    MF l Z y6_accrue b6_ 7 (some .double) ws ⟨1, 0, 0, 17⟩ #[(.ref o0), (.double x1)] h0 (Q_r_accrue_SPREAD_EXCLUSIVE Z o0 x1 x_o0_balance x_o0_compounded x_o0_rate x_o0_margin st_SPREAD_EXCLUSIVE st_ALL x_o0_pending h0 n0) := by
  refine own_body (plainFor_of_name pn_Accrual684) (ef_r_accrue_SPREAD_EXCLUSIVE o0 x1) (by decide) (by decide) ?_
  intro p e s m below meth c s₁ hx hby hml hown hnm hret hZ hh e0 X0
  have N0 := Fr.nil n0
  obtain ⟨_, T1, L1, X1, hQ1, st1⟩ := own_virtual X0 hx hZ hown (w41 hw) (w42 hw) (nfS hZ (w44 hw)) (w44 hw) (w43 hw) (w7 hw) (w45 hw) (by decide) (r_base l Z a0 hw [] o0 x_o0_balance x_o0_compounded h0 n0 Z0 F_o0_balance F_o0_compounded hp0) e0 E_o0 (W := 0) (by decide) (g := (mkF m 1 #[vr o0, .val (.double x1), .second, .unset, .unset, .unset, .unset] [(.ref o0)])) rfl hml.symm (argsL := []) (rest := []) (lenOf pd_0 rfl) rfl rfl (own_wr rfl rfl) (hb hby d56)
  obtain ⟨rfl, N1q, e1⟩ := hQ1
  have N1 := Fr.app N0 N1q
  obtain ⟨T2, X2, e2, st2⟩ := getF X1 hx hZ hown (host := "") (Or.inl (w16 hw)) Via.refl e1 F_o0_rate (g := (mkF m 5 #[vr o0, .val (.double x1), .second, .unset, .unset, .unset, .unset] [(.ref o0), (.double (FP.dadd x_o0_balance x_o0_compounded))])) rfl rfl (hb hby d58)
  obtain ⟨T3, X3, e3, st3⟩ := getF X2 hx hZ hown (host := "") (Or.inl (w18 hw)) Via.refl e2 F_o0_margin (g := (mkF m 9 #[vr o0, .val (.double x1), .second, .unset, .unset, .unset, .unset] [(.ref o0), (.double x_o0_rate), (.double (FP.dadd x_o0_balance x_o0_compounded))])) rfl rfl (hb hby d60)
  obtain ⟨_, T4, L4, X4, hQ4, st4⟩ := own_static X3 hx hZ hown (w46 hw) (w47 hw) (w7 hw) (w48 hw) (by decide) (r_simple l Z a0 hw [] (FP.dadd x_o0_balance x_o0_compounded) (FP.dsub x_o0_rate x_o0_margin) x1 h0 n0 Z0 hp2 hp3 hp4) e3 (W := 0) (by decide) (g := (mkF m 14 #[vr o0, .val (.double x1), .second, .unset, .unset, .unset, .unset] [(.double x1), (.double (FP.dsub x_o0_rate x_o0_margin)), (.double (FP.dadd x_o0_balance x_o0_compounded))])) rfl hml.symm (argsL := [(.double (FP.dadd x_o0_balance x_o0_compounded)), (.double (FP.dsub x_o0_rate x_o0_margin)), (.double x1)]) (rest := []) (lenOf pd_1 rfl) rfl rfl (own_wr rfl rfl) (hb hby d63)
  obtain ⟨rfl, N4q, e4⟩ := hQ4
  have N4 := Fr.app N1 N4q
  obtain ⟨T5, X5, e5, st5⟩ := getF X4 hx hZ hown (host := "") (Or.inl (w20 hw)) Via.refl e4 F_o0_method (g := (mkF m 19 #[vr o0, .val (.double x1), .second, .val (.double (FP.dmul (FP.ddiv (FP.dmul (FP.dadd x_o0_balance x_o0_compounded) (FP.dsub x_o0_rate x_o0_margin)) (4636737291354636288 : UInt64)) x1)), .second, .unset, .unset] [(.ref o0)])) rfl rfl (hb hby d66)
  obtain ⟨T6, X6, e6, st6⟩ := getS2 X5 hx hZ hown (host := "") (Or.inl (w50 hw)) Via.refl e5 (Sta.ext O0.2 S_ALL) (g := (mkF m 22 #[vr o0, .val (.double x1), .second, .val (.double (FP.dmul (FP.ddiv (FP.dmul (FP.dadd x_o0_balance x_o0_compounded) (FP.dsub x_o0_rate x_o0_margin)) (4636737291354636288 : UInt64)) x1)), .second, .unset, .unset] [(.ref st_SPREAD_EXCLUSIVE)])) rfl (hb hby d67)
  obtain ⟨T7, X7, e7, st7⟩ := getF X6 hx hZ hown (host := "") (Or.inl (w14 hw)) Via.refl e6 F_o0_balance (g := (mkF m 36 #[vr o0, .val (.double x1), .second, .val (.double (FP.dmul (FP.ddiv (FP.dmul (FP.dadd x_o0_balance x_o0_compounded) (FP.dsub x_o0_rate x_o0_margin)) (4636737291354636288 : UInt64)) x1)), .second, .unset, .unset] [(.ref o0)])) rfl rfl (hb hby d94)
  obtain ⟨T8, X8, e8, st8⟩ := getF X7 hx hZ hown (host := "") (Or.inl (w18 hw)) Via.refl e7 F_o0_margin (g := (mkF m 40 #[vr o0, .val (.double x1), .second, .val (.double (FP.dmul (FP.ddiv (FP.dmul (FP.dadd x_o0_balance x_o0_compounded) (FP.dsub x_o0_rate x_o0_margin)) (4636737291354636288 : UInt64)) x1)), .second, .unset, .unset] [(.ref o0), (.double x_o0_balance)])) rfl rfl (hb hby d73)
  obtain ⟨_, T9, L9, X9, hQ9, st9⟩ := own_static X8 hx hZ hown (w46 hw) (w47 hw) (w7 hw) (w48 hw) (by decide) (r_simple l Z a0 hw [] x_o0_balance x_o0_margin x1 h0 n0 Z0 hp5 hp6 hp7) e8 (W := 0) (by decide) (g := (mkF m 44 #[vr o0, .val (.double x1), .second, .val (.double (FP.dmul (FP.ddiv (FP.dmul (FP.dadd x_o0_balance x_o0_compounded) (FP.dsub x_o0_rate x_o0_margin)) (4636737291354636288 : UInt64)) x1)), .second, .unset, .unset] [(.double x1), (.double x_o0_margin), (.double x_o0_balance)])) rfl hml.symm (argsL := [(.double x_o0_balance), (.double x_o0_margin), (.double x1)]) (rest := []) (lenOf pd_1 rfl) rfl rfl (own_wr rfl rfl) (hb hby d75)
  obtain ⟨rfl, N9q, e9⟩ := hQ9
  have N9 := Fr.app N4 N9q
  obtain ⟨T10, X10, e10, st10⟩ := getF X9 hx hZ hown (host := "") (Or.inl (w29 hw)) Via.refl e9 F_o0_pending (g := (mkF m 51 #[vr o0, .val (.double x1), .second, .val (.double (FP.dmul (FP.ddiv (FP.dmul (FP.dadd x_o0_balance x_o0_compounded) (FP.dsub x_o0_rate x_o0_margin)) (4636737291354636288 : UInt64)) x1)), .second, .val (.double (FP.dmul (FP.ddiv (FP.dmul x_o0_balance x_o0_margin) (4636737291354636288 : UInt64)) x1)), .second] [(.ref o0), (.ref o0)])) rfl rfl (hb hby d79)
  obtain ⟨T11, X11, e11, st11⟩ := getF X10 hx hZ hown (host := "") (Or.inl (w20 hw)) Via.refl e10 F_o0_method (g := (mkF m 55 #[vr o0, .val (.double x1), .second, .val (.double (FP.dmul (FP.ddiv (FP.dmul (FP.dadd x_o0_balance x_o0_compounded) (FP.dsub x_o0_rate x_o0_margin)) (4636737291354636288 : UInt64)) x1)), .second, .val (.double (FP.dmul (FP.ddiv (FP.dmul x_o0_balance x_o0_margin) (4636737291354636288 : UInt64)) x1)), .second] [(.ref o0), (.double x_o0_pending), (.ref o0)])) rfl rfl (hb hby d81)
  obtain ⟨T12, X12, e12, st12⟩ := getS2 X11 hx hZ hown (host := "") (Or.inl (w51 hw)) Via.refl e11 (Sta.ext O0.2 S_SPREAD_EXCLUSIVE) (g := (mkF m 58 #[vr o0, .val (.double x1), .second, .val (.double (FP.dmul (FP.ddiv (FP.dmul (FP.dadd x_o0_balance x_o0_compounded) (FP.dsub x_o0_rate x_o0_margin)) (4636737291354636288 : UInt64)) x1)), .second, .val (.double (FP.dmul (FP.ddiv (FP.dmul x_o0_balance x_o0_margin) (4636737291354636288 : UInt64)) x1)), .second] [(.ref st_SPREAD_EXCLUSIVE), (.double x_o0_pending), (.ref o0)])) rfl (hb hby d82)
  obtain ⟨T13, h13, X13, e13, W13, st13⟩ := putF X12 hx hZ hown (host := "") (Or.inl (w29 hw)) Via.refl e12 F_o0_pending E_o0 (Or.inl (w30 hw)) (w6 hw) (ty := .double) (by decide) rfl rfl (g := (mkF m 73 #[vr o0, .val (.double x1), .second, .val (.double (FP.dmul (FP.ddiv (FP.dmul (FP.dadd x_o0_balance x_o0_compounded) (FP.dsub x_o0_rate x_o0_margin)) (4636737291354636288 : UInt64)) x1)), .second, .val (.double (FP.dmul (FP.ddiv (FP.dmul x_o0_balance x_o0_margin) (4636737291354636288 : UInt64)) x1)), .second] [(.double (FP.dadd x_o0_pending (FP.dmul (FP.ddiv (FP.dmul (FP.dadd x_o0_balance x_o0_compounded) (FP.dsub x_o0_rate x_o0_margin)) (4636737291354636288 : UInt64)) x1))), (.ref o0)])) rfl rfl (hb hby d88)
  have K13 := KL.ofW W13
  have Fw13 : Fd5 Z h13 o0 (.double (FP.dadd x_o0_pending (FP.dmul (FP.ddiv (FP.dmul (FP.dadd x_o0_balance x_o0_compounded) (FP.dsub x_o0_rate x_o0_margin)) (4636737291354636288 : UInt64)) x1))) := Fld.same W13 F_o0_pending
  have N13 := Fr.snoc X13 N9 g_o0
  have C0 := (KL.refl h0 (WS_r_accrue_SPREAD_EXCLUSIVE Z o0)).trans K13 (naO (own_mi 0 rfl) na0)
  refine ⟨T13, _, some (.double (FP.dadd (FP.dmul (FP.ddiv (FP.dmul (FP.dadd x_o0_balance x_o0_compounded) (FP.dsub x_o0_rate x_o0_margin)) (4636737291354636288 : UInt64)) x1) (FP.dmul (FP.ddiv (FP.dmul x_o0_balance x_o0_margin) (4636737291354636288 : UInt64)) x1))), X13, (fun h => by cases h <;> rfl), ?_, fun fs hr => ?_⟩
  · show Q_r_accrue_SPREAD_EXCLUSIVE Z o0 x1 x_o0_balance x_o0_compounded x_o0_rate x_o0_margin st_SPREAD_EXCLUSIVE st_ALL x_o0_pending h0 n0 _ T13.heap _
    rw [e13]
    exact ⟨rfl, N13, C0, Fw13⟩
  · refine t_aloadN 1 X0.here hx (hb hby d55) rfl rfl rfl ?_
    refine st1 _ ?_
    refine t_aloadN 5 X1.here hx (hb hby d57) rfl rfl rfl ?_
    refine st2 _ ?_
    refine t_aloadN 9 X2.here hx (hb hby d59) rfl rfl rfl ?_
    refine st3 _ ?_
    refine t_dsub 13 (r := (FP.dsub x_o0_rate x_o0_margin)) X3.here hx (hb hby d61) hp1 rfl rfl ?_
    refine t_dloadN 14 X3.here hx (hb hby d62) rfl rfl ?_
    refine st4 _ ?_
    refine t_dstoreN (pc' := 18) (L' := #[vr o0, .val (.double x1), .second, .val (.double (FP.dmul (FP.ddiv (FP.dmul (FP.dadd x_o0_balance x_o0_compounded) (FP.dsub x_o0_rate x_o0_margin)) (4636737291354636288 : UInt64)) x1)), .second, .unset, .unset]) X4.here hx (hb hby d64) rfl rfl ?_
    refine t_aloadN 19 X4.here hx (hb hby d65) rfl rfl rfl ?_
    refine st5 _ ?_
    refine st6 _ ?_
    refine Jvm.RoadKit.acmp (g := (mkF m 25 #[vr o0, .val (.double x1), .second, .val (.double (FP.dmul (FP.ddiv (FP.dmul (FP.dadd x_o0_balance x_o0_compounded) (FP.dsub x_o0_rate x_o0_margin)) (4636737291354636288 : UInt64)) x1)), .second, .unset, .unset] [(.ref st_ALL), (.ref st_SPREAD_EXCLUSIVE)])) X6 hx rfl rfl rfl (pc0 := 25) (pc' := 35) (same := false) rfl (hb hby d68) rfl (decide_eq_false fun q => absurd (Value.ref.inj q) (Ne.symm ne_st_ALL_st_SPREAD_EXCLUSIVE)) (by decide) (by decide) ?_
    refine t_aloadN 36 X6.here hx (hb hby d93) rfl rfl rfl ?_
    refine st7 _ ?_
    refine t_aloadN 40 X7.here hx (hb hby d72) rfl rfl rfl ?_
    refine st8 _ ?_
    refine t_dloadN 44 X8.here hx (hb hby d74) rfl rfl ?_
    refine st9 _ ?_
    refine t_dstore (pc' := 49) (L' := #[vr o0, .val (.double x1), .second, .val (.double (FP.dmul (FP.ddiv (FP.dmul (FP.dadd x_o0_balance x_o0_compounded) (FP.dsub x_o0_rate x_o0_margin)) (4636737291354636288 : UInt64)) x1)), .second, .val (.double (FP.dmul (FP.ddiv (FP.dmul x_o0_balance x_o0_margin) (4636737291354636288 : UInt64)) x1)), .second]) X9.here hx (hb hby d76) rfl rfl ?_
    refine t_aloadN 50 X9.here hx (hb hby d77) rfl rfl rfl ?_
    refine t_dup 51 X9.here hx (hb hby d78) rfl rfl ?_
    refine st10 _ ?_
    refine t_aloadN 55 X10.here hx (hb hby d80) rfl rfl rfl ?_
    refine st11 _ ?_
    refine st12 _ ?_
    refine Jvm.RoadKit.acmp (g := (mkF m 61 #[vr o0, .val (.double x1), .second, .val (.double (FP.dmul (FP.ddiv (FP.dmul (FP.dadd x_o0_balance x_o0_compounded) (FP.dsub x_o0_rate x_o0_margin)) (4636737291354636288 : UInt64)) x1)), .second, .val (.double (FP.dmul (FP.ddiv (FP.dmul x_o0_balance x_o0_margin) (4636737291354636288 : UInt64)) x1)), .second] [(.ref st_SPREAD_EXCLUSIVE), (.ref st_SPREAD_EXCLUSIVE), (.double x_o0_pending), (.ref o0)])) X12 hx rfl rfl rfl (pc0 := 61) (pc' := 64) (same := true) rfl (hb hby d83) rfl (decide_eq_true rfl) (by decide) (by decide) ?_
    refine t_dloadN 65 X12.here hx (hb hby d95) rfl rfl ?_
    refine t_goto (pc := 65) 72 X12.here hx (hb hby d96) (by decide) (by decide) ?_
    refine t_dadd 73 (r := (FP.dadd x_o0_pending (FP.dmul (FP.ddiv (FP.dmul (FP.dadd x_o0_balance x_o0_compounded) (FP.dsub x_o0_rate x_o0_margin)) (4636737291354636288 : UInt64)) x1))) X12.here hx (hb hby d87) hp8 rfl rfl ?_
    refine st13 _ ?_
    refine t_dloadN 77 X13.here hx (hb hby d89) rfl rfl ?_
    refine t_dload 79 X13.here hx (hb hby d90) rfl rfl ?_
    refine t_dadd 80 (r := (FP.dadd (FP.dmul (FP.ddiv (FP.dmul (FP.dadd x_o0_balance x_o0_compounded) (FP.dsub x_o0_rate x_o0_margin)) (4636737291354636288 : UInt64)) x1) (FP.dmul (FP.ddiv (FP.dmul x_o0_balance x_o0_margin) (4636737291354636288 : UInt64)) x1))) X13.here hx (hb hby d91) hp9 rfl rfl ?_
    exact own_retD X13 hx hret (hb hby d92) hr
def WS_r_accrue_FLAT (Z : State) (o0 : Addr) : List (Addr × Nat) := [(o0, (sl5 Z))]
def Q_r_accrue_FLAT (Z : State) (o0 : Addr) (x1 x_o0_balance x_o0_compounded x_o0_rate x_o0_margin : UInt64) (st_FLAT st_ALL : Addr) (x_o0_pending : UInt64) (st_SPREAD_EXCLUSIVE : Addr) (h0 : Heap) (n0 : Nat) (v : Option Value) (h : Heap) (L : List Loc) : Prop := v = some (.double (FP.dadd (FP.dmul (FP.ddiv (FP.dmul (FP.dadd x_o0_balance x_o0_compounded) (FP.dsub x_o0_rate x_o0_margin)) (4636737291354636288 : UInt64)) x1) (FP.dmul (FP.ddiv (FP.dmul x_o0_balance x_o0_margin) (4636737291354636288 : UInt64)) x1))) ∧ Fr n0 L ∧ KL h0 h (WS_r_accrue_FLAT Z o0) ∧ Fd5 Z h o0 (.double (FP.dadd x_o0_pending (FP.dadd (FP.dmul (FP.ddiv (FP.dmul (FP.dadd x_o0_balance x_o0_compounded) (FP.dsub x_o0_rate x_o0_margin)) (4636737291354636288 : UInt64)) x1) (FP.dmul (FP.ddiv (FP.dmul x_o0_balance x_o0_margin) (4636737291354636288 : UInt64)) x1))))
theorem ef_r_accrue_FLAT (o0 : Addr) (x1 : UInt64) (m : MethodId) : entryFrame m #[(.ref o0), (.double x1)] 7 = mkF m 0 #[.val (.ref o0), .val (.double x1), .second, .unset, .unset, .unset, .unset] [] := by first | (simp [entryFrame, mkF, argsToLocals, Value.category]; done) | rfl
set_option maxRecDepth 65536 in
set_option maxHeartbeats 40000000 in
theorem r_accrue_FLAT (l : Launch) (Z : State) (a0 : Array Value) (hw : HW Z a0) (ws : List Jvm.Cond) (o0 : Addr) (x1 x_o0_balance x_o0_compounded x_o0_rate x_o0_margin : UInt64) (st_FLAT st_ALL : Addr) (x_o0_pending : UInt64) (st_SPREAD_EXCLUSIVE : Addr) (h0 : Heap) (n0 : Nat) (Z0 : n0 ≤ h0.size) (E_o0 : Ex0 Z h0 o0) (F_o0_balance : Fd0 Z h0 o0 (.double x_o0_balance)) (F_o0_compounded : Fd4 Z h0 o0 (.double x_o0_compounded)) (hp0 : Jvm.Free.Fl.NoNaN64 (FP.dadd x_o0_balance x_o0_compounded)) (F_o0_rate : Fd1 Z h0 o0 (.double x_o0_rate)) (F_o0_margin : Fd2 Z h0 o0 (.double x_o0_margin)) (hp1 : Jvm.Free.Fl.NoNaN64 (FP.dsub x_o0_rate x_o0_margin)) (hp2 : Jvm.Free.Fl.NoNaN64 (FP.dmul (FP.dadd x_o0_balance x_o0_compounded) (FP.dsub x_o0_rate x_o0_margin))) (hp3 : Jvm.Free.Fl.NoNaN64 (FP.ddiv (FP.dmul (FP.dadd x_o0_balance x_o0_compounded) (FP.dsub x_o0_rate x_o0_margin)) (4636737291354636288 : UInt64))) (hp4 : Jvm.Free.Fl.NoNaN64 (FP.dmul (FP.ddiv (FP.dmul (FP.dadd x_o0_balance x_o0_compounded) (FP.dsub x_o0_rate x_o0_margin)) (4636737291354636288 : UInt64)) x1)) (F_o0_method : Fd3 Z h0 o0 (.ref st_FLAT)) (S_ALL : Sta Z Z.heap "com/example/rivulet/rivulet/instrument/CompoundMethod" "ALL" "Lcom/example/rivulet/rivulet/instrument/CompoundMethod;" (.ref st_ALL)) (O0 : Old Z n0 h0) (ne_st_ALL_st_FLAT : st_ALL ≠ st_FLAT) (hp5 : Jvm.Free.Fl.NoNaN64 (FP.dmul x_o0_balance x_o0_margin)) (hp6 : Jvm.Free.Fl.NoNaN64 (FP.ddiv (FP.dmul x_o0_balance x_o0_margin) (4636737291354636288 : UInt64))) (hp7 : Jvm.Free.Fl.NoNaN64 (FP.dmul (FP.ddiv (FP.dmul x_o0_balance x_o0_margin) (4636737291354636288 : UInt64)) x1)) (F_o0_pending : Fd5 Z h0 o0 (.double x_o0_pending)) (S_SPREAD_EXCLUSIVE : Sta Z Z.heap "com/example/rivulet/rivulet/instrument/CompoundMethod" "SPREAD_EXCLUSIVE" "Lcom/example/rivulet/rivulet/instrument/CompoundMethod;" (.ref st_SPREAD_EXCLUSIVE)) (ne_st_FLAT_st_SPREAD_EXCLUSIVE : st_FLAT ≠ st_SPREAD_EXCLUSIVE) (hp8 : Jvm.Free.Fl.NoNaN64 (FP.dadd (FP.dmul (FP.ddiv (FP.dmul (FP.dadd x_o0_balance x_o0_compounded) (FP.dsub x_o0_rate x_o0_margin)) (4636737291354636288 : UInt64)) x1) (FP.dmul (FP.ddiv (FP.dmul x_o0_balance x_o0_margin) (4636737291354636288 : UInt64)) x1))) (hp9 : Jvm.Free.Fl.NoNaN64 (FP.dadd x_o0_pending (FP.dadd (FP.dmul (FP.ddiv (FP.dmul (FP.dadd x_o0_balance x_o0_compounded) (FP.dsub x_o0_rate x_o0_margin)) (4636737291354636288 : UInt64)) x1) (FP.dmul (FP.ddiv (FP.dmul x_o0_balance x_o0_margin) (4636737291354636288 : UInt64)) x1)))) (g_o0 : n0 ≤ o0) :
    MF l Z y6_accrue b6_ 7 (some .double) ws ⟨1, 0, 0, 17⟩ #[(.ref o0), (.double x1)] h0 (Q_r_accrue_FLAT Z o0 x1 x_o0_balance x_o0_compounded x_o0_rate x_o0_margin st_FLAT st_ALL x_o0_pending st_SPREAD_EXCLUSIVE h0 n0) := by
  refine own_body (plainFor_of_name pn_Accrual684) (ef_r_accrue_FLAT o0 x1) (by decide) (by decide) ?_
  intro p e s m below meth c s₁ hx hby hml hown hnm hret hZ hh e0 X0
  have N0 := Fr.nil n0
  obtain ⟨_, T1, L1, X1, hQ1, st1⟩ := own_virtual X0 hx hZ hown (w41 hw) (w42 hw) (nfS hZ (w44 hw)) (w44 hw) (w43 hw) (w7 hw) (w45 hw) (by decide) (r_base l Z a0 hw [] o0 x_o0_balance x_o0_compounded h0 n0 Z0 F_o0_balance F_o0_compounded hp0) e0 E_o0 (W := 0) (by decide) (g := (mkF m 1 #[vr o0, .val (.double x1), .second, .unset, .unset, .unset, .unset] [(.ref o0)])) rfl hml.symm (argsL := []) (rest := []) (lenOf pd_0 rfl) rfl rfl (own_wr rfl rfl) (hb hby d56)
  obtain ⟨rfl, N1q, e1⟩ := hQ1
  have N1 := Fr.app N0 N1q
  obtain ⟨T2, X2, e2, st2⟩ := getF X1 hx hZ hown (host := "") (Or.inl (w16 hw)) Via.refl e1 F_o0_rate (g := (mkF m 5 #[vr o0, .val (.double x1), .second, .unset, .unset, .unset, .unset] [(.ref o0), (.double (FP.dadd x_o0_balance x_o0_compounded))])) rfl rfl (hb hby d58)
  obtain ⟨T3, X3, e3, st3⟩ := getF X2 hx hZ hown (host := "") (Or.inl (w18 hw)) Via.refl e2 F_o0_margin (g := (mkF m 9 #[vr o0, .val (.double x1), .second, .unset, .unset, .unset, .unset] [(.ref o0), (.double x_o0_rate), (.double (FP.dadd x_o0_balance x_o0_compounded))])) rfl rfl (hb hby d60)
  obtain ⟨_, T4, L4, X4, hQ4, st4⟩ := own_static X3 hx hZ hown (w46 hw) (w47 hw) (w7 hw) (w48 hw) (by decide) (r_simple l Z a0 hw [] (FP.dadd x_o0_balance x_o0_compounded) (FP.dsub x_o0_rate x_o0_margin) x1 h0 n0 Z0 hp2 hp3 hp4) e3 (W := 0) (by decide) (g := (mkF m 14 #[vr o0, .val (.double x1), .second, .unset, .unset, .unset, .unset] [(.double x1), (.double (FP.dsub x_o0_rate x_o0_margin)), (.double (FP.dadd x_o0_balance x_o0_compounded))])) rfl hml.symm (argsL := [(.double (FP.dadd x_o0_balance x_o0_compounded)), (.double (FP.dsub x_o0_rate x_o0_margin)), (.double x1)]) (rest := []) (lenOf pd_1 rfl) rfl rfl (own_wr rfl rfl) (hb hby d63)
  obtain ⟨rfl, N4q, e4⟩ := hQ4
  have N4 := Fr.app N1 N4q
  obtain ⟨T5, X5, e5, st5⟩ := getF X4 hx hZ hown (host := "") (Or.inl (w20 hw)) Via.refl e4 F_o0_method (g := (mkF m 19 #[vr o0, .val (.double x1), .second, .val (.double (FP.dmul (FP.ddiv (FP.dmul (FP.dadd x_o0_balance x_o0_compounded) (FP.dsub x_o0_rate x_o0_margin)) (4636737291354636288 : UInt64)) x1)), .second, .unset, .unset] [(.ref o0)])) rfl rfl (hb hby d66)
  obtain ⟨T6, X6, e6, st6⟩ := getS2 X5 hx hZ hown (host := "") (Or.inl (w50 hw)) Via.refl e5 (Sta.ext O0.2 S_ALL) (g := (mkF m 22 #[vr o0, .val (.double x1), .second, .val (.double (FP.dmul (FP.ddiv (FP.dmul (FP.dadd x_o0_balance x_o0_compounded) (FP.dsub x_o0_rate x_o0_margin)) (4636737291354636288 : UInt64)) x1)), .second, .unset, .unset] [(.ref st_FLAT)])) rfl (hb hby d67)
  obtain ⟨T7, X7, e7, st7⟩ := getF X6 hx hZ hown (host := "") (Or.inl (w14 hw)) Via.refl e6 F_o0_balance (g := (mkF m 36 #[vr o0, .val (.double x1), .second, .val (.double (FP.dmul (FP.ddiv (FP.dmul (FP.dadd x_o0_balance x_o0_compounded) (FP.dsub x_o0_rate x_o0_margin)) (4636737291354636288 : UInt64)) x1)), .second, .unset, .unset] [(.ref o0)])) rfl rfl (hb hby d94)
  obtain ⟨T8, X8, e8, st8⟩ := getF X7 hx hZ hown (host := "") (Or.inl (w18 hw)) Via.refl e7 F_o0_margin (g := (mkF m 40 #[vr o0, .val (.double x1), .second, .val (.double (FP.dmul (FP.ddiv (FP.dmul (FP.dadd x_o0_balance x_o0_compounded) (FP.dsub x_o0_rate x_o0_margin)) (4636737291354636288 : UInt64)) x1)), .second, .unset, .unset] [(.ref o0), (.double x_o0_balance)])) rfl rfl (hb hby d73)
  obtain ⟨_, T9, L9, X9, hQ9, st9⟩ := own_static X8 hx hZ hown (w46 hw) (w47 hw) (w7 hw) (w48 hw) (by decide) (r_simple l Z a0 hw [] x_o0_balance x_o0_margin x1 h0 n0 Z0 hp5 hp6 hp7) e8 (W := 0) (by decide) (g := (mkF m 44 #[vr o0, .val (.double x1), .second, .val (.double (FP.dmul (FP.ddiv (FP.dmul (FP.dadd x_o0_balance x_o0_compounded) (FP.dsub x_o0_rate x_o0_margin)) (4636737291354636288 : UInt64)) x1)), .second, .unset, .unset] [(.double x1), (.double x_o0_margin), (.double x_o0_balance)])) rfl hml.symm (argsL := [(.double x_o0_balance), (.double x_o0_margin), (.double x1)]) (rest := []) (lenOf pd_1 rfl) rfl rfl (own_wr rfl rfl) (hb hby d75)
  obtain ⟨rfl, N9q, e9⟩ := hQ9
  have N9 := Fr.app N4 N9q
  obtain ⟨T10, X10, e10, st10⟩ := getF X9 hx hZ hown (host := "") (Or.inl (w29 hw)) Via.refl e9 F_o0_pending (g := (mkF m 51 #[vr o0, .val (.double x1), .second, .val (.double (FP.dmul (FP.ddiv (FP.dmul (FP.dadd x_o0_balance x_o0_compounded) (FP.dsub x_o0_rate x_o0_margin)) (4636737291354636288 : UInt64)) x1)), .second, .val (.double (FP.dmul (FP.ddiv (FP.dmul x_o0_balance x_o0_margin) (4636737291354636288 : UInt64)) x1)), .second] [(.ref o0), (.ref o0)])) rfl rfl (hb hby d79)
  obtain ⟨T11, X11, e11, st11⟩ := getF X10 hx hZ hown (host := "") (Or.inl (w20 hw)) Via.refl e10 F_o0_method (g := (mkF m 55 #[vr o0, .val (.double x1), .second, .val (.double (FP.dmul (FP.ddiv (FP.dmul (FP.dadd x_o0_balance x_o0_compounded) (FP.dsub x_o0_rate x_o0_margin)) (4636737291354636288 : UInt64)) x1)), .second, .val (.double (FP.dmul (FP.ddiv (FP.dmul x_o0_balance x_o0_margin) (4636737291354636288 : UInt64)) x1)), .second] [(.ref o0), (.double x_o0_pending), (.ref o0)])) rfl rfl (hb hby d81)
  obtain ⟨T12, X12, e12, st12⟩ := getS2 X11 hx hZ hown (host := "") (Or.inl (w51 hw)) Via.refl e11 (Sta.ext O0.2 S_SPREAD_EXCLUSIVE) (g := (mkF m 58 #[vr o0, .val (.double x1), .second, .val (.double (FP.dmul (FP.ddiv (FP.dmul (FP.dadd x_o0_balance x_o0_compounded) (FP.dsub x_o0_rate x_o0_margin)) (4636737291354636288 : UInt64)) x1)), .second, .val (.double (FP.dmul (FP.ddiv (FP.dmul x_o0_balance x_o0_margin) (4636737291354636288 : UInt64)) x1)), .second] [(.ref st_FLAT), (.double x_o0_pending), (.ref o0)])) rfl (hb hby d82)
  obtain ⟨T13, h13, X13, e13, W13, st13⟩ := putF X12 hx hZ hown (host := "") (Or.inl (w29 hw)) Via.refl e12 F_o0_pending E_o0 (Or.inl (w30 hw)) (w6 hw) (ty := .double) (by decide) rfl rfl (g := (mkF m 73 #[vr o0, .val (.double x1), .second, .val (.double (FP.dmul (FP.ddiv (FP.dmul (FP.dadd x_o0_balance x_o0_compounded) (FP.dsub x_o0_rate x_o0_margin)) (4636737291354636288 : UInt64)) x1)), .second, .val (.double (FP.dmul (FP.ddiv (FP.dmul x_o0_balance x_o0_margin) (4636737291354636288 : UInt64)) x1)), .second] [(.double (FP.dadd x_o0_pending (FP.dadd (FP.dmul (FP.ddiv (FP.dmul (FP.dadd x_o0_balance x_o0_compounded) (FP.dsub x_o0_rate x_o0_margin)) (4636737291354636288 : UInt64)) x1) (FP.dmul (FP.ddiv (FP.dmul x_o0_balance x_o0_margin) (4636737291354636288 : UInt64)) x1)))), (.ref o0)])) rfl rfl (hb hby d88)
  have K13 := KL.ofW W13
  have Fw13 : Fd5 Z h13 o0 (.double (FP.dadd x_o0_pending (FP.dadd (FP.dmul (FP.ddiv (FP.dmul (FP.dadd x_o0_balance x_o0_compounded) (FP.dsub x_o0_rate x_o0_margin)) (4636737291354636288 : UInt64)) x1) (FP.dmul (FP.ddiv (FP.dmul x_o0_balance x_o0_margin) (4636737291354636288 : UInt64)) x1)))) := Fld.same W13 F_o0_pending
  have N13 := Fr.snoc X13 N9 g_o0
  have C0 := (KL.refl h0 (WS_r_accrue_FLAT Z o0)).trans K13 (naO (own_mi 0 rfl) na0)
  refine ⟨T13, _, some (.double (FP.dadd (FP.dmul (FP.ddiv (FP.dmul (FP.dadd x_o0_balance x_o0_compounded) (FP.dsub x_o0_rate x_o0_margin)) (4636737291354636288 : UInt64)) x1) (FP.dmul (FP.ddiv (FP.dmul x_o0_balance x_o0_margin) (4636737291354636288 : UInt64)) x1))), X13, (fun h => by cases h <;> rfl), ?_, fun fs hr => ?_⟩
  · show Q_r_accrue_FLAT Z o0 x1 x_o0_balance x_o0_compounded x_o0_rate x_o0_margin st_FLAT st_ALL x_o0_pending st_SPREAD_EXCLUSIVE h0 n0 _ T13.heap _
    rw [e13]
    exact ⟨rfl, N13, C0, Fw13⟩
  · refine t_aloadN 1 X0.here hx (hb hby d55) rfl rfl rfl ?_
    refine st1 _ ?_
    refine t_aloadN 5 X1.here hx (hb hby d57) rfl rfl rfl ?_
    refine st2 _ ?_
    refine t_aloadN 9 X2.here hx (hb hby d59) rfl rfl rfl ?_
    refine st3 _ ?_
    refine t_dsub 13 (r := (FP.dsub x_o0_rate x_o0_margin)) X3.here hx (hb hby d61) hp1 rfl rfl ?_
    refine t_dloadN 14 X3.here hx (hb hby d62) rfl rfl ?_
    refine st4 _ ?_
    refine t_dstoreN (pc' := 18) (L' := #[vr o0, .val (.double x1), .second, .val (.double (FP.dmul (FP.ddiv (FP.dmul (FP.dadd x_o0_balance x_o0_compounded) (FP.dsub x_o0_rate x_o0_margin)) (4636737291354636288 : UInt64)) x1)), .second, .unset, .unset]) X4.here hx (hb hby d64) rfl rfl ?_
    refine t_aloadN 19 X4.here hx (hb hby d65) rfl rfl rfl ?_
    refine st5 _ ?_
    refine st6 _ ?_
    refine Jvm.RoadKit.acmp (g := (mkF m 25 #[vr o0, .val (.double x1), .second, .val (.double (FP.dmul (FP.ddiv (FP.dmul (FP.dadd x_o0_balance x_o0_compounded) (FP.dsub x_o0_rate x_o0_margin)) (4636737291354636288 : UInt64)) x1)), .second, .unset, .unset] [(.ref st_ALL), (.ref st_FLAT)])) X6 hx rfl rfl rfl (pc0 := 25) (pc' := 35) (same := false) rfl (hb hby d68) rfl (decide_eq_false fun q => absurd (Value.ref.inj q) (Ne.symm ne_st_ALL_st_FLAT)) (by decide) (by decide) ?_
    refine t_aloadN 36 X6.here hx (hb hby d93) rfl rfl rfl ?_
    refine st7 _ ?_
    refine t_aloadN 40 X7.here hx (hb hby d72) rfl rfl rfl ?_
    refine st8 _ ?_
    refine t_dloadN 44 X8.here hx (hb hby d74) rfl rfl ?_
    refine st9 _ ?_
    refine t_dstore (pc' := 49) (L' := #[vr o0, .val (.double x1), .second, .val (.double (FP.dmul (FP.ddiv (FP.dmul (FP.dadd x_o0_balance x_o0_compounded) (FP.dsub x_o0_rate x_o0_margin)) (4636737291354636288 : UInt64)) x1)), .second, .val (.double (FP.dmul (FP.ddiv (FP.dmul x_o0_balance x_o0_margin) (4636737291354636288 : UInt64)) x1)), .second]) X9.here hx (hb hby d76) rfl rfl ?_
    refine t_aloadN 50 X9.here hx (hb hby d77) rfl rfl rfl ?_
    refine t_dup 51 X9.here hx (hb hby d78) rfl rfl ?_
    refine st10 _ ?_
    refine t_aloadN 55 X10.here hx (hb hby d80) rfl rfl rfl ?_
    refine st11 _ ?_
    refine st12 _ ?_
    refine Jvm.RoadKit.acmp (g := (mkF m 61 #[vr o0, .val (.double x1), .second, .val (.double (FP.dmul (FP.ddiv (FP.dmul (FP.dadd x_o0_balance x_o0_compounded) (FP.dsub x_o0_rate x_o0_margin)) (4636737291354636288 : UInt64)) x1)), .second, .val (.double (FP.dmul (FP.ddiv (FP.dmul x_o0_balance x_o0_margin) (4636737291354636288 : UInt64)) x1)), .second] [(.ref st_SPREAD_EXCLUSIVE), (.ref st_FLAT), (.double x_o0_pending), (.ref o0)])) X12 hx rfl rfl rfl (pc0 := 61) (pc' := 68) (same := false) rfl (hb hby d83) rfl (decide_eq_false fun q => absurd (Value.ref.inj q) ne_st_FLAT_st_SPREAD_EXCLUSIVE) (by decide) (by decide) ?_
    refine t_dloadN 69 X12.here hx (hb hby d84) rfl rfl ?_
    refine t_dload 71 X12.here hx (hb hby d85) rfl rfl ?_
    refine t_dadd 72 (r := (FP.dadd (FP.dmul (FP.ddiv (FP.dmul (FP.dadd x_o0_balance x_o0_compounded) (FP.dsub x_o0_rate x_o0_margin)) (4636737291354636288 : UInt64)) x1) (FP.dmul (FP.ddiv (FP.dmul x_o0_balance x_o0_margin) (4636737291354636288 : UInt64)) x1))) X12.here hx (hb hby d86) hp8 rfl rfl ?_
    refine t_dadd 73 (r := (FP.dadd x_o0_pending (FP.dadd (FP.dmul (FP.ddiv (FP.dmul (FP.dadd x_o0_balance x_o0_compounded) (FP.dsub x_o0_rate x_o0_margin)) (4636737291354636288 : UInt64)) x1) (FP.dmul (FP.ddiv (FP.dmul x_o0_balance x_o0_margin) (4636737291354636288 : UInt64)) x1)))) X12.here hx (hb hby d87) hp9 rfl rfl ?_
    refine st13 _ ?_
    refine t_dloadN 77 X13.here hx (hb hby d89) rfl rfl ?_
    refine t_dload 79 X13.here hx (hb hby d90) rfl rfl ?_
    refine t_dadd 80 (r := (FP.dadd (FP.dmul (FP.ddiv (FP.dmul (FP.dadd x_o0_balance x_o0_compounded) (FP.dsub x_o0_rate x_o0_margin)) (4636737291354636288 : UInt64)) x1) (FP.dmul (FP.ddiv (FP.dmul x_o0_balance x_o0_margin) (4636737291354636288 : UInt64)) x1))) X13.here hx (hb hby d91) hp8 rfl rfl ?_
    exact own_retD X13 hx hret (hb hby d92) hr
def w0 (hw : HW Z a0) := ow 0 hw rfl
def w1 (hw : HW Z a0) := ow 1 hw rfl
def w4 (hw : HW Z a0) := ow 4 hw rfl
def w5 (hw : HW Z a0) := ow 5 hw rfl
def w8 (hw : HW Z a0) := ow 8 hw rfl
def w10 (hw : HW Z a0) := ow 10 hw rfl
theorem pd_2 : parseMethodDescriptor "(DDDLcom/example/rivulet/rivulet/instrument/CompoundMethod;)V" = some ⟨[.double, .double, .double, (.object "com/example/rivulet/rivulet/instrument/CompoundMethod")], none⟩ := by decide +kernel
def w9 (hw : HW Z a0) := ow 9 hw rfl
def w22 (hw : HW Z a0) := ow 22 hw rfl
def w25 (hw : HW Z a0) := ow 25 hw rfl
theorem sn_14 {Z : State} {a0 : Array Value} (hw : HW Z a0) : Jvm.RoadKit.slotOf Z "com/example/rivulet/rivulet/instrument/Accrual" "compounded" "D" ≠ Jvm.RoadKit.slotOf Z "com/example/rivulet/rivulet/instrument/Accrual" "method" "Lcom/example/rivulet/rivulet/instrument/CompoundMethod;" := slot_ne (C := "com/example/rivulet/rivulet/instrument/Accrual") (a0 := a0) (Or.inl (w28 hw)) (Or.inr (w21 hw)) (by decide) (t := .double) (t' := (.object "com/example/rivulet/rivulet/instrument/CompoundMethod")) (by decide) (by decide)
theorem sn_15 {Z : State} {a0 : Array Value} (hw : HW Z a0) : Jvm.RoadKit.slotOf Z "com/example/rivulet/rivulet/instrument/Accrual" "compounded" "D" ≠ Jvm.RoadKit.slotOf Z "com/example/rivulet/rivulet/instrument/Accrual" "margin" "D" := slot_ne (C := "com/example/rivulet/rivulet/instrument/Accrual") (a0 := a0) (Or.inl (w28 hw)) (Or.inr (w19 hw)) (by decide) (t := .double) (t' := .double) (by decide) (by decide)
theorem sn_16 {Z : State} {a0 : Array Value} (hw : HW Z a0) : Jvm.RoadKit.slotOf Z "com/example/rivulet/rivulet/instrument/Accrual" "compounded" "D" ≠ Jvm.RoadKit.slotOf Z "com/example/rivulet/rivulet/instrument/Accrual" "rate" "D" := slot_ne (C := "com/example/rivulet/rivulet/instrument/Accrual") (a0 := a0) (Or.inl (w28 hw)) (Or.inr (w17 hw)) (by decide) (t := .double) (t' := .double) (by decide) (by decide)
theorem sn_17 {Z : State} {a0 : Array Value} (hw : HW Z a0) : Jvm.RoadKit.slotOf Z "com/example/rivulet/rivulet/instrument/Accrual" "compounded" "D" ≠ Jvm.RoadKit.slotOf Z "com/example/rivulet/rivulet/instrument/Accrual" "balance" "D" := slot_ne (C := "com/example/rivulet/rivulet/instrument/Accrual") (a0 := a0) (Or.inl (w28 hw)) (Or.inr (w15 hw)) (by decide) (t := .double) (t' := .double) (by decide) (by decide)
theorem sn_18 {Z : State} {a0 : Array Value} (hw : HW Z a0) : Jvm.RoadKit.slotOf Z "com/example/rivulet/rivulet/instrument/Accrual" "pending" "D" ≠ Jvm.RoadKit.slotOf Z "com/example/rivulet/rivulet/instrument/Accrual" "method" "Lcom/example/rivulet/rivulet/instrument/CompoundMethod;" := slot_ne (C := "com/example/rivulet/rivulet/instrument/Accrual") (a0 := a0) (Or.inl (w30 hw)) (Or.inr (w21 hw)) (by decide) (t := .double) (t' := (.object "com/example/rivulet/rivulet/instrument/CompoundMethod")) (by decide) (by decide)
theorem sn_19 {Z : State} {a0 : Array Value} (hw : HW Z a0) : Jvm.RoadKit.slotOf Z "com/example/rivulet/rivulet/instrument/Accrual" "pending" "D" ≠ Jvm.RoadKit.slotOf Z "com/example/rivulet/rivulet/instrument/Accrual" "margin" "D" := slot_ne (C := "com/example/rivulet/rivulet/instrument/Accrual") (a0 := a0) (Or.inl (w30 hw)) (Or.inr (w19 hw)) (by decide) (t := .double) (t' := .double) (by decide) (by decide)
theorem sn_20 {Z : State} {a0 : Array Value} (hw : HW Z a0) : Jvm.RoadKit.slotOf Z "com/example/rivulet/rivulet/instrument/Accrual" "pending" "D" ≠ Jvm.RoadKit.slotOf Z "com/example/rivulet/rivulet/instrument/Accrual" "rate" "D" := slot_ne (C := "com/example/rivulet/rivulet/instrument/Accrual") (a0 := a0) (Or.inl (w30 hw)) (Or.inr (w17 hw)) (by decide) (t := .double) (t' := .double) (by decide) (by decide)
theorem sn_21 {Z : State} {a0 : Array Value} (hw : HW Z a0) : Jvm.RoadKit.slotOf Z "com/example/rivulet/rivulet/instrument/Accrual" "pending" "D" ≠ Jvm.RoadKit.slotOf Z "com/example/rivulet/rivulet/instrument/Accrual" "balance" "D" := slot_ne (C := "com/example/rivulet/rivulet/instrument/Accrual") (a0 := a0) (Or.inl (w30 hw)) (Or.inr (w15 hw)) (by decide) (t := .double) (t' := .double) (by decide) (by decide)
def w26 (hw : HW Z a0) := ow 26 hw rfl
theorem pd_3 : parseMethodDescriptor "()V" = some ⟨[], none⟩ := by decide +kernel
def w23 (hw : HW Z a0) := ow 23 hw rfl
def w24 (hw : HW Z a0) := ow 24 hw rfl
def w31 (hw : HW Z a0) := ow 31 hw rfl
def w34 (hw : HW Z a0) := ow 34 hw rfl
def w35 (hw : HW Z a0) := ow 35 hw rfl
def w32 (hw : HW Z a0) := ow 32 hw rfl
def w33 (hw : HW Z a0) := ow 33 hw rfl
def w36 (hw : HW Z a0) := ow 36 hw rfl
def w39 (hw : HW Z a0) := ow 39 hw rfl
theorem sn_22 {Z : State} {a0 : Array Value} (hw : HW Z a0) : Jvm.RoadKit.slotOf Z "com/example/rivulet/rivulet/instrument/Accrual" "balance" "D" ≠ Jvm.RoadKit.slotOf Z "com/example/rivulet/rivulet/instrument/Accrual" "pending" "D" := slot_ne (C := "com/example/rivulet/rivulet/instrument/Accrual") (a0 := a0) (Or.inr (w15 hw)) (Or.inl (w30 hw)) (by decide) (t := .double) (t' := .double) (by decide) (by decide)
theorem sn_23 {Z : State} {a0 : Array Value} (hw : HW Z a0) : Jvm.RoadKit.slotOf Z "com/example/rivulet/rivulet/instrument/Accrual" "balance" "D" ≠ Jvm.RoadKit.slotOf Z "com/example/rivulet/rivulet/instrument/Accrual" "compounded" "D" := slot_ne (C := "com/example/rivulet/rivulet/instrument/Accrual") (a0 := a0) (Or.inr (w15 hw)) (Or.inl (w28 hw)) (by decide) (t := .double) (t' := .double) (by decide) (by decide)
theorem sn_24 {Z : State} {a0 : Array Value} (hw : HW Z a0) : Jvm.RoadKit.slotOf Z "com/example/rivulet/rivulet/instrument/Accrual" "rate" "D" ≠ Jvm.RoadKit.slotOf Z "com/example/rivulet/rivulet/instrument/Accrual" "pending" "D" := slot_ne (C := "com/example/rivulet/rivulet/instrument/Accrual") (a0 := a0) (Or.inr (w17 hw)) (Or.inl (w30 hw)) (by decide) (t := .double) (t' := .double) (by decide) (by decide)
theorem sn_25 {Z : State} {a0 : Array Value} (hw : HW Z a0) : Jvm.RoadKit.slotOf Z "com/example/rivulet/rivulet/instrument/Accrual" "rate" "D" ≠ Jvm.RoadKit.slotOf Z "com/example/rivulet/rivulet/instrument/Accrual" "compounded" "D" := slot_ne (C := "com/example/rivulet/rivulet/instrument/Accrual") (a0 := a0) (Or.inr (w17 hw)) (Or.inl (w28 hw)) (by decide) (t := .double) (t' := .double) (by decide) (by decide)
theorem sn_26 {Z : State} {a0 : Array Value} (hw : HW Z a0) : Jvm.RoadKit.slotOf Z "com/example/rivulet/rivulet/instrument/Accrual" "margin" "D" ≠ Jvm.RoadKit.slotOf Z "com/example/rivulet/rivulet/instrument/Accrual" "pending" "D" := slot_ne (C := "com/example/rivulet/rivulet/instrument/Accrual") (a0 := a0) (Or.inr (w19 hw)) (Or.inl (w30 hw)) (by decide) (t := .double) (t' := .double) (by decide) (by decide)
theorem sn_27 {Z : State} {a0 : Array Value} (hw : HW Z a0) : Jvm.RoadKit.slotOf Z "com/example/rivulet/rivulet/instrument/Accrual" "margin" "D" ≠ Jvm.RoadKit.slotOf Z "com/example/rivulet/rivulet/instrument/Accrual" "compounded" "D" := slot_ne (C := "com/example/rivulet/rivulet/instrument/Accrual") (a0 := a0) (Or.inr (w19 hw)) (Or.inl (w28 hw)) (by decide) (t := .double) (t' := .double) (by decide) (by decide)
theorem sn_28 {Z : State} {a0 : Array Value} (hw : HW Z a0) : Jvm.RoadKit.slotOf Z "com/example/rivulet/rivulet/instrument/Accrual" "method" "Lcom/example/rivulet/rivulet/instrument/CompoundMethod;" ≠ Jvm.RoadKit.slotOf Z "com/example/rivulet/rivulet/instrument/Accrual" "pending" "D" := slot_ne (C := "com/example/rivulet/rivulet/instrument/Accrual") (a0 := a0) (Or.inr (w21 hw)) (Or.inl (w30 hw)) (by decide) (t := (.object "com/example/rivulet/rivulet/instrument/CompoundMethod")) (t' := .double) (by decide) (by decide)
theorem sn_29 {Z : State} {a0 : Array Value} (hw : HW Z a0) : Jvm.RoadKit.slotOf Z "com/example/rivulet/rivulet/instrument/Accrual" "method" "Lcom/example/rivulet/rivulet/instrument/CompoundMethod;" ≠ Jvm.RoadKit.slotOf Z "com/example/rivulet/rivulet/instrument/Accrual" "compounded" "D" := slot_ne (C := "com/example/rivulet/rivulet/instrument/Accrual") (a0 := a0) (Or.inr (w21 hw)) (Or.inl (w28 hw)) (by decide) (t := (.object "com/example/rivulet/rivulet/instrument/CompoundMethod")) (t' := .double) (by decide) (by decide)
def w40 (hw : HW Z a0) := ow 40 hw rfl
theorem pd_4 : parseMethodDescriptor "(D)D" = some ⟨[.double], some .double⟩ := by decide +kernel
def w37 (hw : HW Z a0) := ow 37 hw rfl
def w38 (hw : HW Z a0) := ow 38 hw rfl
def w53 (hw : HW Z a0) := ow 53 hw rfl
def Q_law (n0 : Nat) (v : Option Value) (L : List Loc) : Prop := v = some (.int 1) ∧ Fr n0 L
theorem ef_law_0_0 (p0 p1 p2 p3 p4 p5 : Int32) (m : MethodId) : entryFrame m #[(.int p0), (.int p1), (.int p2), (.int p3), (.int p4), (.int p5)] maxLocals = mkF m 0 #[.val (.int p0), .val (.int p1), .val (.int p2), .val (.int p3), .val (.int p4), .val (.int p5), .unset, .unset, .unset, .unset, .unset, .unset, .unset, .unset, .unset, .unset, .unset, .unset, .unset, .unset, .unset, .unset, .unset, .unset, .unset, .unset, .unset, .unset, .unset, .unset, .unset, .unset, .unset, .unset] [] := by first | (simp [entryFrame, mkF, argsToLocals, Value.category, maxLocals]; done) | rfl
set_option maxRecDepth 65536 in
set_option maxHeartbeats 40000000 in
theorem law_0_0 (l : Launch) (Z : State) (a0 : Array Value) (hw : HW Z a0) (ws : List Jvm.Cond) (p0 p1 p2 p3 p4 p5 : Int32) (st_ALL st_FLAT st_SPREAD_EXCLUSIVE : Addr) (h0 : Heap) (n0 : Nat) (Z0 : n0 ≤ h0.size) (hk : ((p5 &&& (2147483647 : Int32)) - ((p5 &&& (2147483647 : Int32)) / (3 : Int32)) * (3 : Int32)) = (0 : Int32)) (hf1 : (((p5.toUInt32 >>> ((4 : Int32) &&& 31).toUInt32).toInt32) &&& (1 : Int32)) = (0 : Int32)) (S_ALL : Sta Z Z.heap "com/example/rivulet/rivulet/instrument/CompoundMethod" "ALL" "Lcom/example/rivulet/rivulet/instrument/CompoundMethod;" (.ref st_ALL)) (O0 : Old Z n0 h0) (S_SPREAD_EXCLUSIVE : Sta Z Z.heap "com/example/rivulet/rivulet/instrument/CompoundMethod" "SPREAD_EXCLUSIVE" "Lcom/example/rivulet/rivulet/instrument/CompoundMethod;" (.ref st_SPREAD_EXCLUSIVE)) (ne_st_ALL_st_SPREAD_EXCLUSIVE : st_ALL ≠ st_SPREAD_EXCLUSIVE) :
    MetFree l x (head1 (Jvm.Cond.code x code maxLocals ret :: ws) room_1) (fun a U => a = #[(.int p0), (.int p1), (.int p2), (.int p3), (.int p4), (.int p5)] ∧ Z.Warmed39 U.vm ∧ U.heap = h0) (fun _ _ _ _ _ => True) (fun _ U o U' => ∃ v L, o = .returned v ∧ Q_law n0 v L ∧ FrameEnd U o U' L 16 128) := by
  refine own_law (y := x) (k := 1) (n := 6) (plainFor_of_name pn_AccrualCompoundPinLaw114) (ef_law_0_0 p0 p1 p2 p3 p4 p5) (by decide) (by decide) ?_
  intro p e s m below meth c s₁ hx hby hml hown hnm hret hZ hh e0 X0
  have N0 := Fr.nil n0
  obtain ⟨T1, X1, e1, st1⟩ := getS2 X0 hx hZ hown (host := "") (Or.inl (w1 hw)) Via.refl e0 (Sta.ext O0.2 S_ALL) (g := (mkF m 14 #[vi p0, vi p1, vi p2, vi p3, vi p4, vi p5, vi 0, .unset, .unset, .unset, .unset, .unset, .unset, .unset, .unset, .unset, .unset, .unset, .unset, .unset, .unset, .unset, .unset, .unset, .unset, .unset, .unset, .unset, .unset, .unset, .unset, .unset, .unset, .unset] [])) rfl (hb hby at_14)
  obtain ⟨y1, hy1⟩ : ∃ z, z = (FP.ddiv (FP.l2d ((p3 &&& (1023 : Int32)).toInt64)) (4643211215818981376 : UInt64)) := ⟨_, rfl⟩
  have mg_y1 := own_mgk (K := 1081) hy1 (Jvm.RoadKit.ddiv_mag (K := 1088) (L := 1031) (Jvm.Free.Fl.l2d_mag _) (by unfold Big64; decide +kernel) (by decide) (by decide)) (by decide)
  obtain ⟨y2, hy2⟩ : ∃ z, z = (FP.ddiv (FP.l2d ((p4 &&& (1023 : Int32)).toInt64)) (4643211215818981376 : UInt64)) := ⟨_, rfl⟩
  have mg_y2 := own_mgk (K := 1081) hy2 (Jvm.RoadKit.ddiv_mag (K := 1088) (L := 1031) (Jvm.Free.Fl.l2d_mag _) (by unfold Big64; decide +kernel) (by decide) (by decide)) (by decide)
  obtain ⟨T2, h2, X2, e2, E2, A2, D2, -, st2⟩ := newO X1 hx hZ hown (w5 hw) (w6 hw) (w7 hw) e1 (g := (mkF m 103 #[vi p0, vi p1, vi p2, vi p3, vi p4, vi p5, vi 0, vr st_ALL, vi 0, vi 0, .val (.double (FP.l2d (p0.toInt64))), .second, .val (.double (FP.l2d (p1.toInt64))), .second, .val (.double (FP.l2d (p2.toInt64))), .second, .val (.double y1), .second, .val (.double y2), .second, .unset, .unset, .unset, .unset, .unset, .unset, .unset, .unset, .unset, .unset, .unset, .unset, .unset, .unset] [])) rfl (hb hby at_103) (by decide) (by decide)
  obtain ⟨b2, g2⟩ : ∃ z, z = h0.size := ⟨_, rfl⟩
  rw [← g2] at A2 D2 st2
  have ge_b2 : h0.size ≤ b2 := Nat.le_of_eq g2.symm
  have K2 := KL.ofE E2
  have F_b2_balance : Fd0 Z h2 b2 (.double (FP.l2d (0 : Int64))) := Fld.zeroD (D2 (Or.inr (w15 hw)) (ty := .double) (by decide))
  have F_b2_rate : Fd1 Z h2 b2 (.double (FP.l2d (0 : Int64))) := Fld.zeroD (D2 (Or.inr (w17 hw)) (ty := .double) (by decide))
  have F_b2_margin : Fd2 Z h2 b2 (.double (FP.l2d (0 : Int64))) := Fld.zeroD (D2 (Or.inr (w19 hw)) (ty := .double) (by decide))
  have F_b2_method : Fd3 Z h2 b2 .null := D2 (Or.inr (w21 hw)) (ty := (.object "com/example/rivulet/rivulet/instrument/CompoundMethod")) (by decide)
  have F_b2_compounded : Fd4 Z h2 b2 (.double (FP.l2d (0 : Int64))) := Fld.zeroD (D2 (Or.inl (w28 hw)) (ty := .double) (by decide))
  have F_b2_pending : Fd5 Z h2 b2 (.double (FP.l2d (0 : Int64))) := Fld.zeroD (D2 (Or.inl (w30 hw)) (ty := .double) (by decide))
  obtain ⟨_, T3, L3, X3, hQ3, st3⟩ := own_init X2 hx hZ rfl hown (w8 hw) (w9 hw) (w7 hw) (w10 hw) (by decide) (r_init l Z a0 hw [] b2 (FP.l2d (p0.toInt64)) (FP.l2d (p1.toInt64)) (FP.l2d (p2.toInt64)) st_ALL (.double (FP.l2d (0 : Int64))) (.double (FP.l2d (0 : Int64))) (.double (FP.l2d (0 : Int64))) .null h2 n0 (Nat.le_trans Z0 K2.1) F_b2_balance A2 (Nat.le_trans Z0 ge_b2) F_b2_rate F_b2_margin F_b2_method) e2 (W := 1) (by decide) (g := (mkF m 115 #[vi p0, vi p1, vi p2, vi p3, vi p4, vi p5, vi 0, vr st_ALL, vi 0, vi 0, .val (.double (FP.l2d (p0.toInt64))), .second, .val (.double (FP.l2d (p1.toInt64))), .second, .val (.double (FP.l2d (p2.toInt64))), .second, .val (.double y1), .second, .val (.double y2), .second, .unset, .unset, .unset, .unset, .unset, .unset, .unset, .unset, .unset, .unset, .unset, .unset, .unset, .unset] [(.ref st_ALL), (.double (FP.l2d (p2.toInt64))), (.double (FP.l2d (p1.toInt64))), (.double (FP.l2d (p0.toInt64))), (.ref b2), (.ref b2)])) rfl hml.symm (argsL := [(.double (FP.l2d (p0.toInt64))), (.double (FP.l2d (p1.toInt64))), (.double (FP.l2d (p2.toInt64))), (.ref st_ALL)]) (rest := [(.ref b2)]) (lenOf pd_2 rfl) rfl rfl (own_wr rfl rfl) (hb hby at_115)
  obtain ⟨rfl, N3q, K3, Q3_0, Q3_1, Q3_2, Q3_3⟩ := hQ3
  have N3 := Fr.app N0 N3q
  have f5 := (kFld K3 F_b2_compounded (nwS (Or.inr (sn_17 hw)) (nwS (Or.inr (sn_16 hw)) (nwS (Or.inr (sn_15 hw)) (nwS (Or.inr (sn_14 hw)) nw0)))))
  have f6 := (kFld K3 F_b2_pending (nwS (Or.inr (sn_21 hw)) (nwS (Or.inr (sn_20 hw)) (nwS (Or.inr (sn_19 hw)) (nwS (Or.inr (sn_18 hw)) nw0)))))
  have f7 := (kExa K3 A2)
  have sz_0_2 := (Nat.le_trans K2.1 K3.1)
  obtain ⟨_, T4, L4, X4, hQ4, st4⟩ := own_virtual X3 hx hZ hown (w22 hw) (w23 hw) (nfS hZ (w25 hw)) (w25 hw) (w24 hw) (w7 hw) (w26 hw) (by decide) (r_compound l Z a0 hw [] b2 (FP.l2d (0 : Int64)) (FP.l2d (0 : Int64)) T3.heap n0 (Nat.le_trans Z0 sz_0_2) f5 f6 ((own_nnof own_add00 (Jvm.Free.Fl.Mag64.fin (Jvm.Free.Fl.l2d_mag _) (by decide)).noNaN)) f7 (Nat.le_trans Z0 ge_b2)) rfl f7 (W := 0) (by decide) (g := (mkF m 165 #[vi p0, vi p1, vi p2, vi p3, vi p4, vi p5, vi 0, vr st_ALL, vi 0, vi 0, .val (.double (FP.l2d (p0.toInt64))), .second, .val (.double (FP.l2d (p1.toInt64))), .second, .val (.double (FP.l2d (p2.toInt64))), .second, .val (.double y1), .second, .val (.double y2), .second, vr b2, vi 1, .val (.double (FP.l2d (0 : Int64))), .second, .unset, .unset, .unset, .unset, .unset, .unset, .unset, .unset, .unset, .unset] [(.ref b2)])) rfl hml.symm (argsL := []) (rest := []) (lenOf pd_3 rfl) rfl rfl (own_wr rfl rfl) (hb hby at_165)
  obtain ⟨rfl, N4q, K4, Q4_0, Q4_1⟩ := hQ4
  have N4 := Fr.app N3 N4q
  have Q4_0' : Fd4 Z T4.heap b2 (.double (FP.l2d (0 : Int64))) := Eq.mp (congrArg (fun z => Fd4 Z T4.heap b2 (Value.double z)) own_add00) Q4_0
  have sz_0_3 := (Nat.le_trans sz_0_2 K4.1)
  have f9 := (kExa K4 f7)
  obtain ⟨_, T8, L8, X8, hQ8, st8⟩ := own_virtual X4 hx hZ hown (w31 hw) (w32 hw) (nfS hZ (w34 hw)) (w34 hw) (w33 hw) (w7 hw) (w35 hw) (by decide) (r_compounded l Z a0 hw [] b2 (FP.l2d (0 : Int64)) T4.heap n0 (Nat.le_trans Z0 sz_0_3) Q4_0') rfl f9 (W := 0) (by decide) (g := (mkF m 170 #[vi p0, vi p1, vi p2, vi p3, vi p4, vi p5, vi 0, vr st_ALL, vi 0, vi 0, .val (.double (FP.l2d (p0.toInt64))), .second, .val (.double (FP.l2d (p1.toInt64))), .second, .val (.double (FP.l2d (p2.toInt64))), .second, .val (.double y1), .second, .val (.double y2), .second, vr b2, vi 1, .val (.double (FP.l2d (0 : Int64))), .second, .unset, .unset, .unset, .unset, .unset, .unset, .unset, .unset, .unset, .unset] [(.ref b2)])) rfl hml.symm (argsL := []) (rest := []) (lenOf pd_0 rfl) rfl rfl (own_wr rfl rfl) (hb hby at_170)
  obtain ⟨rfl, N8q, e8⟩ := hQ8
  have N8 := Fr.app N4 N8q
  obtain ⟨_, T10, L10, X10, hQ10, st10⟩ := own_virtual X8 hx hZ hown (w22 hw) (w23 hw) (nfS hZ (w25 hw)) (w25 hw) (w24 hw) (w7 hw) (w26 hw) (by decide) (r_compound l Z a0 hw [] b2 (FP.l2d (0 : Int64)) (FP.l2d (0 : Int64)) T4.heap n0 (Nat.le_trans Z0 sz_0_3) Q4_0' Q4_1 ((own_nnof own_add00 (Jvm.Free.Fl.Mag64.fin (Jvm.Free.Fl.l2d_mag _) (by decide)).noNaN)) f9 (Nat.le_trans Z0 ge_b2)) e8 f9 (W := 0) (by decide) (g := (mkF m 197 #[vi p0, vi p1, vi p2, vi p3, vi p4, vi p5, vi 0, vr st_ALL, vi 0, vi 0, .val (.double (FP.l2d (p0.toInt64))), .second, .val (.double (FP.l2d (p1.toInt64))), .second, .val (.double (FP.l2d (p2.toInt64))), .second, .val (.double y1), .second, .val (.double y2), .second, vr b2, vi 1, .val (.double (FP.l2d (0 : Int64))), .second, .val (.double (FP.l2d (0 : Int64))), .second, .unset, .unset, .unset, .unset, .unset, .unset, .unset, .unset] [(.ref b2)])) rfl hml.symm (argsL := []) (rest := []) (lenOf pd_3 rfl) rfl rfl (own_wr rfl rfl) (hb hby at_197)
  obtain ⟨rfl, N10q, K10, Q10_0, Q10_1⟩ := hQ10
  have N10 := Fr.app N8 N10q
  have Q10_0' : Fd4 Z T10.heap b2 (.double (FP.l2d (0 : Int64))) := Eq.mp (congrArg (fun z => Fd4 Z T10.heap b2 (Value.double z)) own_add00) Q10_0
  have sz_0_4 := (Nat.le_trans sz_0_3 K10.1)
  have f12 := (kExa K10 f9)
  obtain ⟨_, T11, L11, X11, hQ11, st11⟩ := own_virtual X10 hx hZ hown (w31 hw) (w32 hw) (nfS hZ (w34 hw)) (w34 hw) (w33 hw) (w7 hw) (w35 hw) (by decide) (r_compounded l Z a0 hw [] b2 (FP.l2d (0 : Int64)) T10.heap n0 (Nat.le_trans Z0 sz_0_4) Q10_0') rfl f12 (W := 0) (by decide) (g := (mkF m 207 #[vi p0, vi p1, vi p2, vi p3, vi p4, vi p5, vi 0, vr st_ALL, vi 0, vi 0, .val (.double (FP.l2d (p0.toInt64))), .second, .val (.double (FP.l2d (p1.toInt64))), .second, .val (.double (FP.l2d (p2.toInt64))), .second, .val (.double y1), .second, .val (.double y2), .second, vr b2, vi 1, .val (.double (FP.l2d (0 : Int64))), .second, .val (.double (FP.l2d (0 : Int64))), .second, .unset, .unset, .unset, .unset, .unset, .unset, .unset, .unset] [(.ref b2)])) rfl hml.symm (argsL := []) (rest := []) (lenOf pd_0 rfl) rfl rfl (own_wr rfl rfl) (hb hby at_207)
  obtain ⟨rfl, N11q, e11⟩ := hQ11
  have N11 := Fr.app N10 N11q
  have f14 := (kFld K10 (kFld K4 Q3_0 (nwS (Or.inr (sn_23 hw)) (nwS (Or.inr (sn_22 hw)) nw0))) (nwS (Or.inr (sn_23 hw)) (nwS (Or.inr (sn_22 hw)) nw0)))
  have f15 := (kFld K10 (kFld K4 Q3_1 (nwS (Or.inr (sn_25 hw)) (nwS (Or.inr (sn_24 hw)) nw0))) (nwS (Or.inr (sn_25 hw)) (nwS (Or.inr (sn_24 hw)) nw0)))
  have f16 := (kFld K10 (kFld K4 Q3_2 (nwS (Or.inr (sn_27 hw)) (nwS (Or.inr (sn_26 hw)) nw0))) (nwS (Or.inr (sn_27 hw)) (nwS (Or.inr (sn_26 hw)) nw0)))
  obtain ⟨y3, hy3⟩ : ∃ z, z = (FP.dsub (FP.l2d (p1.toInt64)) (FP.l2d (p2.toInt64))) := ⟨_, rfl⟩
  have mg_y3 := own_mgk (K := 1090) hy3 (Jvm.Free.Fl.dsub_mag (K := 1088) (Jvm.Free.Fl.Mag64.mono (Jvm.Free.Fl.l2d_mag _) (by decide)) (Jvm.Free.Fl.Mag64.mono (Jvm.Free.Fl.l2d_mag _) (by decide)) (by decide)) (by decide)
  obtain ⟨y4, hy4⟩ : ∃ z, z = (FP.dmul (FP.l2d (p0.toInt64)) y3) := ⟨_, rfl⟩
  have mg_y4 := own_mgk (K := 1156) hy4 (Jvm.Free.Fl.dmul_mag (Jvm.Free.Fl.l2d_mag _) mg_y3 (by decide) (by decide)) (by decide)
  obtain ⟨y5, hy5⟩ : ∃ z, z = (FP.ddiv y4 (4636737291354636288 : UInt64)) := ⟨_, rfl⟩
  have mg_y5 := own_mgk (K := 1151) hy5 (Jvm.RoadKit.ddiv_mag (K := 1156) (L := 1029) mg_y4 (by unfold Big64; decide +kernel) (by decide) (by decide)) (by decide)
  obtain ⟨y6, hy6⟩ : ∃ z, z = (FP.dmul y5 y2) := ⟨_, rfl⟩
  have mg_y6 := own_mgk (K := 1210) hy6 (Jvm.Free.Fl.dmul_mag mg_y5 mg_y2 (by decide) (by decide)) (by decide)
  have f17 := (kFld K10 (kFld K4 Q3_3 (nwS (Or.inr (sn_29 hw)) (nwS (Or.inr (sn_28 hw)) nw0))) (nwS (Or.inr (sn_29 hw)) (nwS (Or.inr (sn_28 hw)) nw0)))
  have f18 := (kOld K10 (kOld K4 (kOld K3 (kOld K2 O0 na0) (naGM 4 rfl (Nat.le_trans Z0 ge_b2) na0)) (naS (P := fun w => n0 ≤ w.1) (Nat.le_trans Z0 ge_b2) (naS (P := fun w => n0 ≤ w.1) (Nat.le_trans Z0 ge_b2) na0))) (naS (P := fun w => n0 ≤ w.1) (Nat.le_trans Z0 ge_b2) (naS (P := fun w => n0 ≤ w.1) (Nat.le_trans Z0 ge_b2) na0)))
  obtain ⟨y7, hy7⟩ : ∃ z, z = (FP.dmul (FP.l2d (p0.toInt64)) (FP.l2d (p2.toInt64))) := ⟨_, rfl⟩
  have mg_y7 := own_mgk (K := 1154) hy7 (Jvm.Free.Fl.dmul_mag (Jvm.Free.Fl.l2d_mag _) (Jvm.Free.Fl.l2d_mag _) (by decide) (by decide)) (by decide)
  obtain ⟨y8, hy8⟩ : ∃ z, z = (FP.ddiv y7 (4636737291354636288 : UInt64)) := ⟨_, rfl⟩
  have mg_y8 := own_mgk (K := 1149) hy8 (Jvm.RoadKit.ddiv_mag (K := 1154) (L := 1029) mg_y7 (by unfold Big64; decide +kernel) (by decide) (by decide)) (by decide)
  obtain ⟨y9, hy9⟩ : ∃ z, z = (FP.dmul y8 y2) := ⟨_, rfl⟩
  have mg_y9 := own_mgk (K := 1208) hy9 (Jvm.Free.Fl.dmul_mag mg_y8 mg_y2 (by decide) (by decide)) (by decide)
  obtain ⟨y10, hy10⟩ : ∃ z, z = (FP.dadd y6 y9) := ⟨_, rfl⟩
  have mg_y10 := own_mgk (K := 1212) hy10 (Jvm.Free.Fl.dadd_mag (K := 1210) (Jvm.Free.Fl.Mag64.mono mg_y6 (by decide)) (Jvm.Free.Fl.Mag64.mono mg_y9 (by decide)) (by decide)) (by decide)
  obtain ⟨y11, hy11⟩ : ∃ z, z = (FP.dadd (FP.l2d (0 : Int64)) y10) := ⟨_, rfl⟩
  have mg_y11 := own_mgk (K := 1214) hy11 (Jvm.Free.Fl.dadd_mag (K := 1212) (Jvm.Free.Fl.Mag64.mono (Jvm.Free.Fl.l2d_mag _) (by decide)) (Jvm.Free.Fl.Mag64.mono mg_y10 (by decide)) (by decide)) (by decide)
  obtain ⟨_, T13, L13, X13, hQ13, st13⟩ := own_virtual X11 hx hZ hown (w36 hw) (w37 hw) (nfS hZ (w39 hw)) (w39 hw) (w38 hw) (w7 hw) (w40 hw) (by decide) (r_accrue_ALL l Z a0 hw [] b2 y2 (FP.l2d (p0.toInt64)) (FP.l2d (0 : Int64)) (FP.l2d (p1.toInt64)) (FP.l2d (p2.toInt64)) st_ALL (FP.l2d (0 : Int64)) st_SPREAD_EXCLUSIVE T10.heap n0 (Nat.le_trans Z0 sz_0_4) f12 f14 Q10_0' ((own_nnof (own_l2dz _) (Jvm.Free.Fl.Mag64.fin (Jvm.Free.Fl.l2d_mag _) (by decide)).noNaN)) f15 f16 ((own_nnof hy3.symm (Jvm.Free.Fl.Mag64.fin mg_y3 (by decide)).noNaN)) ((own_nnof (own_cg2 (f := FP.dmul) (own_l2dz _) hy3.symm hy4.symm) (Jvm.Free.Fl.Mag64.fin mg_y4 (by decide)).noNaN)) ((own_nnof (own_cg2 (f := FP.ddiv) (own_cg2 (f := FP.dmul) (own_l2dz _) hy3.symm hy4.symm) rfl hy5.symm) (Jvm.Free.Fl.Mag64.fin mg_y5 (by decide)).noNaN)) ((own_nnof (own_cg2 (f := FP.dmul) (own_cg2 (f := FP.ddiv) (own_cg2 (f := FP.dmul) (own_l2dz _) hy3.symm hy4.symm) rfl hy5.symm) rfl hy6.symm) (Jvm.Free.Fl.Mag64.fin mg_y6 (by decide)).noNaN)) f17 S_ALL f18 ((own_nnof (own_cg2 (f := FP.dmul) (own_l2dz _) rfl hy7.symm) (Jvm.Free.Fl.Mag64.fin mg_y7 (by decide)).noNaN)) ((own_nnof (own_cg2 (f := FP.ddiv) (own_cg2 (f := FP.dmul) (own_l2dz _) rfl hy7.symm) rfl hy8.symm) (Jvm.Free.Fl.Mag64.fin mg_y8 (by decide)).noNaN)) ((own_nnof (own_cg2 (f := FP.dmul) (own_cg2 (f := FP.ddiv) (own_cg2 (f := FP.dmul) (own_l2dz _) rfl hy7.symm) rfl hy8.symm) rfl hy9.symm) (Jvm.Free.Fl.Mag64.fin mg_y9 (by decide)).noNaN)) Q10_1 S_SPREAD_EXCLUSIVE ne_st_ALL_st_SPREAD_EXCLUSIVE ((own_nnof (own_cg2 (f := FP.dadd) (own_cg2 (f := FP.dmul) (own_cg2 (f := FP.ddiv) (own_cg2 (f := FP.dmul) (own_l2dz _) hy3.symm hy4.symm) rfl hy5.symm) rfl hy6.symm) (own_cg2 (f := FP.dmul) (own_cg2 (f := FP.ddiv) (own_cg2 (f := FP.dmul) (own_l2dz _) rfl hy7.symm) rfl hy8.symm) rfl hy9.symm) hy10.symm) (Jvm.Free.Fl.Mag64.fin mg_y10 (by decide)).noNaN)) ((own_nnof (own_cg2 (f := FP.dadd) rfl (own_cg2 (f := FP.dadd) (own_cg2 (f := FP.dmul) (own_cg2 (f := FP.ddiv) (own_cg2 (f := FP.dmul) (own_l2dz _) hy3.symm hy4.symm) rfl hy5.symm) rfl hy6.symm) (own_cg2 (f := FP.dmul) (own_cg2 (f := FP.ddiv) (own_cg2 (f := FP.dmul) (own_l2dz _) rfl hy7.symm) rfl hy8.symm) rfl hy9.symm) hy10.symm) hy11.symm) (Jvm.Free.Fl.Mag64.fin mg_y11 (by decide)).noNaN)) (Nat.le_trans Z0 ge_b2)) e11 f12 (W := 0) (by decide) (g := (mkF m 227 #[vi p0, vi p1, vi p2, vi p3, vi p4, vi p5, vi 0, vr st_ALL, vi 0, vi 0, .val (.double (FP.l2d (p0.toInt64))), .second, .val (.double (FP.l2d (p1.toInt64))), .second, .val (.double (FP.l2d (p2.toInt64))), .second, .val (.double y1), .second, .val (.double y2), .second, vr b2, vi 1, .val (.double (FP.l2d (0 : Int64))), .second, .val (.double (FP.l2d (0 : Int64))), .second, .unset, .unset, .unset, .unset, .unset, .unset, .unset, .unset] [(.double y2), (.ref b2)])) rfl hml.symm (argsL := [(.double y2)]) (rest := []) (lenOf pd_4 rfl) rfl rfl (own_wr rfl rfl) (hb hby at_227)
  obtain ⟨rfl, N13q, K13, Q13_0⟩ := hQ13
  have N13 := Fr.app N11 N13q
  have Q13_0' : Fd5 Z T13.heap b2 (.double y11) := Eq.mp (congrArg (fun z => Fd5 Z T13.heap b2 (Value.double z)) (own_cg2 (f := FP.dadd) rfl (own_cg2 (f := FP.dadd) (own_cg2 (f := FP.dmul) (own_cg2 (f := FP.ddiv) (own_cg2 (f := FP.dmul) (own_l2dz _) hy3.symm hy4.symm) rfl hy5.symm) rfl hy6.symm) (own_cg2 (f := FP.dmul) (own_cg2 (f := FP.ddiv) (own_cg2 (f := FP.dmul) (own_l2dz _) rfl hy7.symm) rfl hy8.symm) rfl hy9.symm) hy10.symm) hy11.symm)) Q13_0
  have f20 := (kFld K13 Q10_0' (nwS (Or.inr (sn_13 hw)) nw0))
  obtain ⟨y12, hy12⟩ : ∃ z, z = (FP.dadd (FP.l2d (0 : Int64)) y11) := ⟨_, rfl⟩
  have mg_y12 := own_mgk (K := 1216) hy12 (Jvm.Free.Fl.dadd_mag (K := 1214) (Jvm.Free.Fl.Mag64.mono (Jvm.Free.Fl.l2d_mag _) (by decide)) (Jvm.Free.Fl.Mag64.mono mg_y11 (by decide)) (by decide)) (by decide)
  have f21 := (kExa K13 f12)
  have sz_0_5 := (Nat.le_trans sz_0_4 K13.1)
  obtain ⟨_, T19, L19, X19, hQ19, st19⟩ := own_virtual X13 hx hZ hown (w22 hw) (w23 hw) (nfS hZ (w25 hw)) (w25 hw) (w24 hw) (w7 hw) (w26 hw) (by decide) (r_compound l Z a0 hw [] b2 (FP.l2d (0 : Int64)) y11 T13.heap n0 (Nat.le_trans Z0 sz_0_5) f20 Q13_0' ((own_nnof hy12.symm (Jvm.Free.Fl.Mag64.fin mg_y12 (by decide)).noNaN)) f21 (Nat.le_trans Z0 ge_b2)) rfl f21 (W := 0) (by decide) (g := (mkF m 264 #[vi p0, vi p1, vi p2, vi p3, vi p4, vi p5, vi 0, vr st_ALL, vi 0, vi 0, .val (.double (FP.l2d (p0.toInt64))), .second, .val (.double (FP.l2d (p1.toInt64))), .second, .val (.double (FP.l2d (p2.toInt64))), .second, .val (.double y1), .second, .val (.double y2), .second, vr b2, vi 1, .val (.double (FP.l2d (0 : Int64))), .second, .val (.double (FP.l2d (0 : Int64))), .second, .val (.double y10), .second, .val (.double (FP.l2d (p0.toInt64))), .second, .val (.double y10), .second, .unset, .unset] [(.ref b2)])) rfl hml.symm (argsL := []) (rest := []) (lenOf pd_3 rfl) rfl rfl (own_wr rfl rfl) (hb hby at_264)
  obtain ⟨rfl, N19q, K19, Q19_0, Q19_1⟩ := hQ19
  have N19 := Fr.app N13 N19q
  have Q19_0' : Fd4 Z T19.heap b2 (.double y12) := Eq.mp (congrArg (fun z => Fd4 Z T19.heap b2 (Value.double z)) hy12.symm) Q19_0
  have sz_0_6 := (Nat.le_trans sz_0_5 K19.1)
  have f23 := (kExa K19 f21)
  obtain ⟨_, T22, L22, X22, hQ22, st22⟩ := own_virtual X19 hx hZ hown (w31 hw) (w32 hw) (nfS hZ (w34 hw)) (w34 hw) (w33 hw) (w7 hw) (w35 hw) (by decide) (r_compounded l Z a0 hw [] b2 y12 T19.heap n0 (Nat.le_trans Z0 sz_0_6) Q19_0') rfl f23 (W := 0) (by decide) (g := (mkF m 269 #[vi p0, vi p1, vi p2, vi p3, vi p4, vi p5, vi 0, vr st_ALL, vi 0, vi 0, .val (.double (FP.l2d (p0.toInt64))), .second, .val (.double (FP.l2d (p1.toInt64))), .second, .val (.double (FP.l2d (p2.toInt64))), .second, .val (.double y1), .second, .val (.double y2), .second, vr b2, vi 1, .val (.double (FP.l2d (0 : Int64))), .second, .val (.double (FP.l2d (0 : Int64))), .second, .val (.double y10), .second, .val (.double (FP.l2d (p0.toInt64))), .second, .val (.double y10), .second, .unset, .unset] [(.ref b2)])) rfl hml.symm (argsL := []) (rest := []) (lenOf pd_0 rfl) rfl rfl (own_wr rfl rfl) (hb hby at_269)
  obtain ⟨rfl, N22q, e22⟩ := hQ22
  have N22 := Fr.app N19 N22q
  have f25 := (kFld K19 (kFld K13 f14 (nwS (Or.inr (sn_22 hw)) nw0)) (nwS (Or.inr (sn_23 hw)) (nwS (Or.inr (sn_22 hw)) nw0)))
  obtain ⟨y13, hy13⟩ : ∃ z, z = (FP.dadd (FP.l2d (p0.toInt64)) y12) := ⟨_, rfl⟩
  have mg_y13 := own_mgk (K := 1218) hy13 (Jvm.Free.Fl.dadd_mag (K := 1216) (Jvm.Free.Fl.Mag64.mono (Jvm.Free.Fl.l2d_mag _) (by decide)) (Jvm.Free.Fl.Mag64.mono mg_y12 (by decide)) (by decide)) (by decide)
  obtain ⟨_, T24, L24, X24, hQ24, st24⟩ := own_virtual X22 hx hZ hown (w53 hw) (w42 hw) (nfS hZ (w44 hw)) (w44 hw) (w43 hw) (w7 hw) (w45 hw) (by decide) (r_base l Z a0 hw [] b2 (FP.l2d (p0.toInt64)) y12 T19.heap n0 (Nat.le_trans Z0 sz_0_6) f25 Q19_0' ((own_nnof hy13.symm (Jvm.Free.Fl.Mag64.fin mg_y13 (by decide)).noNaN))) e22 f23 (W := 0) (by decide) (g := (mkF m 304 #[vi p0, vi p1, vi p2, vi p3, vi p4, vi p5, vi 0, vr st_ALL, vi 0, vi 0, .val (.double (FP.l2d (p0.toInt64))), .second, .val (.double (FP.l2d (p1.toInt64))), .second, .val (.double (FP.l2d (p2.toInt64))), .second, .val (.double y1), .second, .val (.double y2), .second, vr b2, vi 1, .val (.double (FP.l2d (0 : Int64))), .second, .val (.double (FP.l2d (0 : Int64))), .second, .val (.double y10), .second, .val (.double (FP.l2d (p0.toInt64))), .second, .val (.double y10), .second, .val (.double y12), .second] [(.ref b2)])) rfl hml.symm (argsL := []) (rest := []) (lenOf pd_0 rfl) rfl rfl (own_wr rfl rfl) (hb hby at_304)
  obtain ⟨rfl, N24q, e24⟩ := hQ24
  have N24 := Fr.app N22 N24q
  refine ⟨T24, _, some (.int 1), X24, (fun h => by cases h <;> rfl), ?_, fun fs hr => ?_⟩
  · show Q_law n0 _ _
    exact ⟨rfl, N24⟩
  · refine t_iload 2 X0.here hx (hb hby at_0) rfl rfl ?_
    refine X0.ldcInt hx hown (mvT hZ (w0 hw)) (g := (mkF m 2 #[vi p0, vi p1, vi p2, vi p3, vi p4, vi p5, .unset, .unset, .unset, .unset, .unset, .unset, .unset, .unset, .unset, .unset, .unset, .unset, .unset, .unset, .unset, .unset, .unset, .unset, .unset, .unset, .unset, .unset, .unset, .unset, .unset, .unset, .unset, .unset] [(.int p5)])) rfl (hb hby at_2) _ ?_
    refine t_iand 5 X0.here hx (hb hby at_4) rfl rfl ?_
    refine t_iconst 6 (r := 3) X0.here hx (hb hby at_5) (by decide) rfl ?_
    refine t_irem 7 (r := 0) X0.here hx (hb hby at_6) (by decide) hk rfl ?_
    refine t_istore (pc' := 9) (L' := #[vi p0, vi p1, vi p2, vi p3, vi p4, vi p5, vi 0, .unset, .unset, .unset, .unset, .unset, .unset, .unset, .unset, .unset, .unset, .unset, .unset, .unset, .unset, .unset, .unset, .unset, .unset, .unset, .unset, .unset, .unset, .unset, .unset, .unset, .unset, .unset]) X0.here hx (hb hby at_7) rfl rfl ?_
    refine t_iload 11 X0.here hx (hb hby at_9) rfl rfl ?_
    refine t_ifNo 14 X0.here hx (hb hby at_11) (by decide) rfl ?_
    refine st1 _ ?_
    refine t_goto (pc := 17) 35 X1.here hx (hb hby at_17) (by decide) (by decide) ?_
    refine t_astore (pc' := 37) (L' := #[vi p0, vi p1, vi p2, vi p3, vi p4, vi p5, vi 0, vr st_ALL, .unset, .unset, .unset, .unset, .unset, .unset, .unset, .unset, .unset, .unset, .unset, .unset, .unset, .unset, .unset, .unset, .unset, .unset, .unset, .unset, .unset, .unset, .unset, .unset, .unset, .unset]) X1.here hx (hb hby at_35) rfl rfl rfl ?_
    refine t_iload 39 X1.here hx (hb hby at_37) rfl rfl ?_
    refine t_iconst 40 (r := 2) X1.here hx (hb hby at_39) (by decide) rfl ?_
    refine t_icmpYes (pc := 40) 47 X1.here hx (hb hby at_40) (by decide) (by decide) (by decide) ?_
    refine t_iconst 48 (r := 0) X1.here hx (hb hby at_47) (by decide) rfl ?_
    refine t_istore (pc' := 50) (L' := #[vi p0, vi p1, vi p2, vi p3, vi p4, vi p5, vi 0, vr st_ALL, vi 0, .unset, .unset, .unset, .unset, .unset, .unset, .unset, .unset, .unset, .unset, .unset, .unset, .unset, .unset, .unset, .unset, .unset, .unset, .unset, .unset, .unset, .unset, .unset, .unset, .unset]) X1.here hx (hb hby at_48) rfl rfl ?_
    refine t_iload 52 X1.here hx (hb hby at_50) rfl rfl ?_
    refine t_iconst 53 (r := 4) X1.here hx (hb hby at_52) (by decide) rfl ?_
    refine t_iushr 54 X1.here hx (hb hby at_53) rfl rfl ?_
    refine t_iconst 55 (r := 1) X1.here hx (hb hby at_54) (by decide) rfl ?_
    refine t_iand 56 (r := 0) X1.here hx (hb hby at_55) hf1 rfl ?_
    refine t_ifYes (pc := 56) 63 X1.here hx (hb hby at_56) (by decide) (by decide) (by decide) ?_
    refine t_iconst 64 (r := 0) X1.here hx (hb hby at_63) (by decide) rfl ?_
    refine t_istore (pc' := 66) (L' := #[vi p0, vi p1, vi p2, vi p3, vi p4, vi p5, vi 0, vr st_ALL, vi 0, vi 0, .unset, .unset, .unset, .unset, .unset, .unset, .unset, .unset, .unset, .unset, .unset, .unset, .unset, .unset, .unset, .unset, .unset, .unset, .unset, .unset, .unset, .unset, .unset, .unset]) X1.here hx (hb hby at_64) rfl rfl ?_
    refine t_iloadN 67 X1.here hx (hb hby at_66) rfl rfl ?_
    refine t_i2d 68 (r := (FP.l2d (p0.toInt64))) X1.here hx (hb hby at_67) (i2d_w _) rfl ?_
    refine t_dstore (pc' := 70) (L' := #[vi p0, vi p1, vi p2, vi p3, vi p4, vi p5, vi 0, vr st_ALL, vi 0, vi 0, .val (.double (FP.l2d (p0.toInt64))), .second, .unset, .unset, .unset, .unset, .unset, .unset, .unset, .unset, .unset, .unset, .unset, .unset, .unset, .unset, .unset, .unset, .unset, .unset, .unset, .unset, .unset, .unset]) X1.here hx (hb hby at_68) rfl rfl ?_
    refine t_iloadN 71 X1.here hx (hb hby at_70) rfl rfl ?_
    refine t_i2d 72 (r := (FP.l2d (p1.toInt64))) X1.here hx (hb hby at_71) (i2d_w _) rfl ?_
    refine t_dstore (pc' := 74) (L' := #[vi p0, vi p1, vi p2, vi p3, vi p4, vi p5, vi 0, vr st_ALL, vi 0, vi 0, .val (.double (FP.l2d (p0.toInt64))), .second, .val (.double (FP.l2d (p1.toInt64))), .second, .unset, .unset, .unset, .unset, .unset, .unset, .unset, .unset, .unset, .unset, .unset, .unset, .unset, .unset, .unset, .unset, .unset, .unset, .unset, .unset]) X1.here hx (hb hby at_72) rfl rfl ?_
    refine t_iloadN 75 X1.here hx (hb hby at_74) rfl rfl ?_
    refine t_i2d 76 (r := (FP.l2d (p2.toInt64))) X1.here hx (hb hby at_75) (i2d_w _) rfl ?_
    refine t_dstore (pc' := 78) (L' := #[vi p0, vi p1, vi p2, vi p3, vi p4, vi p5, vi 0, vr st_ALL, vi 0, vi 0, .val (.double (FP.l2d (p0.toInt64))), .second, .val (.double (FP.l2d (p1.toInt64))), .second, .val (.double (FP.l2d (p2.toInt64))), .second, .unset, .unset, .unset, .unset, .unset, .unset, .unset, .unset, .unset, .unset, .unset, .unset, .unset, .unset, .unset, .unset, .unset, .unset]) X1.here hx (hb hby at_76) rfl rfl ?_
    refine t_iloadN 79 X1.here hx (hb hby at_78) rfl rfl ?_
    refine t_sipush 82 (r := 1023) X1.here hx (hb hby at_79) (by decide) rfl ?_
    refine t_iand 83 X1.here hx (hb hby at_82) rfl rfl ?_
    refine t_i2d 84 (r := (FP.l2d ((p3 &&& (1023 : Int32)).toInt64))) X1.here hx (hb hby at_83) (i2d_w _) rfl ?_
    refine X1.ldc2DoubleC hx hown (mvT hZ (w4 hw)) (g := (mkF m 84 #[vi p0, vi p1, vi p2, vi p3, vi p4, vi p5, vi 0, vr st_ALL, vi 0, vi 0, .val (.double (FP.l2d (p0.toInt64))), .second, .val (.double (FP.l2d (p1.toInt64))), .second, .val (.double (FP.l2d (p2.toInt64))), .second, .unset, .unset, .unset, .unset, .unset, .unset, .unset, .unset, .unset, .unset, .unset, .unset, .unset, .unset, .unset, .unset, .unset, .unset] [(.double (FP.l2d ((p3 &&& (1023 : Int32)).toInt64)))])) rfl (hb hby at_84) _ ?_
    refine t_ddiv 88 (r := (FP.ddiv (FP.l2d ((p3 &&& (1023 : Int32)).toInt64)) (4643211215818981376 : UInt64))) X1.here hx (hb hby at_87) (own_nnof hy1.symm (Jvm.Free.Fl.Mag64.fin mg_y1 (by decide)).noNaN) rfl rfl ?_
    refine castTop (g' := (mkF m 88 #[vi p0, vi p1, vi p2, vi p3, vi p4, vi p5, vi 0, vr st_ALL, vi 0, vi 0, .val (.double (FP.l2d (p0.toInt64))), .second, .val (.double (FP.l2d (p1.toInt64))), .second, .val (.double (FP.l2d (p2.toInt64))), .second, .unset, .unset, .unset, .unset, .unset, .unset, .unset, .unset, .unset, .unset, .unset, .unset, .unset, .unset, .unset, .unset, .unset, .unset] [(.double y1)])) (congrArg (fun z => mkF m 88 #[vi p0, vi p1, vi p2, vi p3, vi p4, vi p5, vi 0, vr st_ALL, vi 0, vi 0, .val (.double (FP.l2d (p0.toInt64))), .second, .val (.double (FP.l2d (p1.toInt64))), .second, .val (.double (FP.l2d (p2.toInt64))), .second, .unset, .unset, .unset, .unset, .unset, .unset, .unset, .unset, .unset, .unset, .unset, .unset, .unset, .unset, .unset, .unset, .unset, .unset] (Value.double z :: [])) hy1.symm) ?_
    refine t_dstore (pc' := 90) (L' := #[vi p0, vi p1, vi p2, vi p3, vi p4, vi p5, vi 0, vr st_ALL, vi 0, vi 0, .val (.double (FP.l2d (p0.toInt64))), .second, .val (.double (FP.l2d (p1.toInt64))), .second, .val (.double (FP.l2d (p2.toInt64))), .second, .val (.double y1), .second, .unset, .unset, .unset, .unset, .unset, .unset, .unset, .unset, .unset, .unset, .unset, .unset, .unset, .unset, .unset, .unset]) X1.here hx (hb hby at_88) rfl rfl ?_
    refine t_iload 92 X1.here hx (hb hby at_90) rfl rfl ?_
    refine t_sipush 95 (r := 1023) X1.here hx (hb hby at_92) (by decide) rfl ?_
    refine t_iand 96 X1.here hx (hb hby at_95) rfl rfl ?_
    refine t_i2d 97 (r := (FP.l2d ((p4 &&& (1023 : Int32)).toInt64))) X1.here hx (hb hby at_96) (i2d_w _) rfl ?_
    refine X1.ldc2DoubleC hx hown (mvT hZ (w4 hw)) (g := (mkF m 97 #[vi p0, vi p1, vi p2, vi p3, vi p4, vi p5, vi 0, vr st_ALL, vi 0, vi 0, .val (.double (FP.l2d (p0.toInt64))), .second, .val (.double (FP.l2d (p1.toInt64))), .second, .val (.double (FP.l2d (p2.toInt64))), .second, .val (.double y1), .second, .unset, .unset, .unset, .unset, .unset, .unset, .unset, .unset, .unset, .unset, .unset, .unset, .unset, .unset, .unset, .unset] [(.double (FP.l2d ((p4 &&& (1023 : Int32)).toInt64)))])) rfl (hb hby at_97) _ ?_
    refine t_ddiv 101 (r := (FP.ddiv (FP.l2d ((p4 &&& (1023 : Int32)).toInt64)) (4643211215818981376 : UInt64))) X1.here hx (hb hby at_100) (own_nnof hy2.symm (Jvm.Free.Fl.Mag64.fin mg_y2 (by decide)).noNaN) rfl rfl ?_
    refine castTop (g' := (mkF m 101 #[vi p0, vi p1, vi p2, vi p3, vi p4, vi p5, vi 0, vr st_ALL, vi 0, vi 0, .val (.double (FP.l2d (p0.toInt64))), .second, .val (.double (FP.l2d (p1.toInt64))), .second, .val (.double (FP.l2d (p2.toInt64))), .second, .val (.double y1), .second, .unset, .unset, .unset, .unset, .unset, .unset, .unset, .unset, .unset, .unset, .unset, .unset, .unset, .unset, .unset, .unset] [(.double y2)])) (congrArg (fun z => mkF m 101 #[vi p0, vi p1, vi p2, vi p3, vi p4, vi p5, vi 0, vr st_ALL, vi 0, vi 0, .val (.double (FP.l2d (p0.toInt64))), .second, .val (.double (FP.l2d (p1.toInt64))), .second, .val (.double (FP.l2d (p2.toInt64))), .second, .val (.double y1), .second, .unset, .unset, .unset, .unset, .unset, .unset, .unset, .unset, .unset, .unset, .unset, .unset, .unset, .unset, .unset, .unset] (Value.double z :: [])) hy2.symm) ?_
    refine t_dstore (pc' := 103) (L' := #[vi p0, vi p1, vi p2, vi p3, vi p4, vi p5, vi 0, vr st_ALL, vi 0, vi 0, .val (.double (FP.l2d (p0.toInt64))), .second, .val (.double (FP.l2d (p1.toInt64))), .second, .val (.double (FP.l2d (p2.toInt64))), .second, .val (.double y1), .second, .val (.double y2), .second, .unset, .unset, .unset, .unset, .unset, .unset, .unset, .unset, .unset, .unset, .unset, .unset, .unset, .unset]) X1.here hx (hb hby at_101) rfl rfl ?_
    refine st2 _ ?_
    refine t_dup 107 X2.here hx (hb hby at_106) rfl rfl ?_
    refine t_dload 109 X2.here hx (hb hby at_107) rfl rfl ?_
    refine t_dload 111 X2.here hx (hb hby at_109) rfl rfl ?_
    refine t_dload 113 X2.here hx (hb hby at_111) rfl rfl ?_
    refine t_aload 115 X2.here hx (hb hby at_113) rfl rfl rfl ?_
    refine st3 _ ?_
    refine t_astore (pc' := 120) (L' := #[vi p0, vi p1, vi p2, vi p3, vi p4, vi p5, vi 0, vr st_ALL, vi 0, vi 0, .val (.double (FP.l2d (p0.toInt64))), .second, .val (.double (FP.l2d (p1.toInt64))), .second, .val (.double (FP.l2d (p2.toInt64))), .second, .val (.double y1), .second, .val (.double y2), .second, vr b2, .unset, .unset, .unset, .unset, .unset, .unset, .unset, .unset, .unset, .unset, .unset, .unset, .unset]) X3.here hx (hb hby at_118) rfl rfl rfl ?_
    refine t_iconst 121 (r := 1) X3.here hx (hb hby at_120) (by decide) rfl ?_
    refine t_istore (pc' := 123) (L' := #[vi p0, vi p1, vi p2, vi p3, vi p4, vi p5, vi 0, vr st_ALL, vi 0, vi 0, .val (.double (FP.l2d (p0.toInt64))), .second, .val (.double (FP.l2d (p1.toInt64))), .second, .val (.double (FP.l2d (p2.toInt64))), .second, .val (.double y1), .second, .val (.double y2), .second, vr b2, vi 1, .unset, .unset, .unset, .unset, .unset, .unset, .unset, .unset, .unset, .unset, .unset, .unset]) X3.here hx (hb hby at_121) rfl rfl ?_
    refine t_dconst0 124 (r := (FP.l2d (0 : Int64))) X3.here hx (hb hby at_123) own_dconst0 rfl ?_
    refine t_dstore (pc' := 126) (L' := #[vi p0, vi p1, vi p2, vi p3, vi p4, vi p5, vi 0, vr st_ALL, vi 0, vi 0, .val (.double (FP.l2d (p0.toInt64))), .second, .val (.double (FP.l2d (p1.toInt64))), .second, .val (.double (FP.l2d (p2.toInt64))), .second, .val (.double y1), .second, .val (.double y2), .second, vr b2, vi 1, .val (.double (FP.l2d (0 : Int64))), .second, .unset, .unset, .unset, .unset, .unset, .unset, .unset, .unset, .unset, .unset]) X3.here hx (hb hby at_124) rfl rfl ?_
    refine t_iload 128 X3.here hx (hb hby at_126) rfl rfl ?_
    refine t_ifYes (pc := 128) 163 X3.here hx (hb hby at_128) (by decide) (by decide) (by decide) ?_
    refine t_aload 165 X3.here hx (hb hby at_163) rfl rfl rfl ?_
    refine st4 _ ?_
    refine t_aload 170 X4.here hx (hb hby at_168) rfl rfl rfl ?_
    refine st8 _ ?_
    refine t_dstore (pc' := 175) (L' := #[vi p0, vi p1, vi p2, vi p3, vi p4, vi p5, vi 0, vr st_ALL, vi 0, vi 0, .val (.double (FP.l2d (p0.toInt64))), .second, .val (.double (FP.l2d (p1.toInt64))), .second, .val (.double (FP.l2d (p2.toInt64))), .second, .val (.double y1), .second, .val (.double y2), .second, vr b2, vi 1, .val (.double (FP.l2d (0 : Int64))), .second, .val (.double (FP.l2d (0 : Int64))), .second, .unset, .unset, .unset, .unset, .unset, .unset, .unset, .unset]) X8.here hx (hb hby at_173) rfl rfl ?_
    refine t_iload 177 X8.here hx (hb hby at_175) rfl rfl ?_
    refine t_ifNo 180 X8.here hx (hb hby at_177) (by decide) rfl ?_
    refine t_dload 182 X8.here hx (hb hby at_180) rfl rfl ?_
    refine t_dload 184 X8.here hx (hb hby at_182) rfl rfl ?_
    refine t_dcmp 185 (r := 0) X8.here hx (hb hby at_184) (dcmpV_self ((Jvm.Free.Fl.Mag64.fin (Jvm.Free.Fl.l2d_mag _) (by decide)).noNaN) _) rfl ?_
    refine t_ifNo 188 X8.here hx (hb hby at_185) (by decide) rfl ?_
    refine t_iconst 189 (r := 1) X8.here hx (hb hby at_188) (by decide) rfl ?_
    refine t_goto (pc := 189) 193 X8.here hx (hb hby at_189) (by decide) (by decide) ?_
    refine t_istore (pc' := 195) (L' := #[vi p0, vi p1, vi p2, vi p3, vi p4, vi p5, vi 0, vr st_ALL, vi 0, vi 0, .val (.double (FP.l2d (p0.toInt64))), .second, .val (.double (FP.l2d (p1.toInt64))), .second, .val (.double (FP.l2d (p2.toInt64))), .second, .val (.double y1), .second, .val (.double y2), .second, vr b2, vi 1, .val (.double (FP.l2d (0 : Int64))), .second, .val (.double (FP.l2d (0 : Int64))), .second, .unset, .unset, .unset, .unset, .unset, .unset, .unset, .unset]) X8.here hx (hb hby at_193) rfl rfl ?_
    refine t_aload 197 X8.here hx (hb hby at_195) rfl rfl rfl ?_
    refine st10 _ ?_
    refine t_iload 202 X10.here hx (hb hby at_200) rfl rfl ?_
    refine t_ifNo 205 X10.here hx (hb hby at_202) (by decide) rfl ?_
    refine t_aload 207 X10.here hx (hb hby at_205) rfl rfl rfl ?_
    refine st11 _ ?_
    refine t_dload 212 X11.here hx (hb hby at_210) rfl rfl ?_
    refine t_dcmp 213 (r := 0) X11.here hx (hb hby at_212) (dcmpV_self ((Jvm.Free.Fl.Mag64.fin (Jvm.Free.Fl.l2d_mag _) (by decide)).noNaN) _) rfl ?_
    refine t_ifNo 216 X11.here hx (hb hby at_213) (by decide) rfl ?_
    refine t_iconst 217 (r := 1) X11.here hx (hb hby at_216) (by decide) rfl ?_
    refine t_goto (pc := 217) 221 X11.here hx (hb hby at_217) (by decide) (by decide) ?_
    refine t_istore (pc' := 223) (L' := #[vi p0, vi p1, vi p2, vi p3, vi p4, vi p5, vi 0, vr st_ALL, vi 0, vi 0, .val (.double (FP.l2d (p0.toInt64))), .second, .val (.double (FP.l2d (p1.toInt64))), .second, .val (.double (FP.l2d (p2.toInt64))), .second, .val (.double y1), .second, .val (.double y2), .second, vr b2, vi 1, .val (.double (FP.l2d (0 : Int64))), .second, .val (.double (FP.l2d (0 : Int64))), .second, .unset, .unset, .unset, .unset, .unset, .unset, .unset, .unset]) X11.here hx (hb hby at_221) rfl rfl ?_
    refine t_aload 225 X11.here hx (hb hby at_223) rfl rfl rfl ?_
    refine t_dload 227 X11.here hx (hb hby at_225) rfl rfl ?_
    refine st13 _ ?_
    refine castTop (g' := (mkF m 230 #[vi p0, vi p1, vi p2, vi p3, vi p4, vi p5, vi 0, vr st_ALL, vi 0, vi 0, .val (.double (FP.l2d (p0.toInt64))), .second, .val (.double (FP.l2d (p1.toInt64))), .second, .val (.double (FP.l2d (p2.toInt64))), .second, .val (.double y1), .second, .val (.double y2), .second, vr b2, vi 1, .val (.double (FP.l2d (0 : Int64))), .second, .val (.double (FP.l2d (0 : Int64))), .second, .unset, .unset, .unset, .unset, .unset, .unset, .unset, .unset] [(.double y10)])) (congrArg (fun z => mkF m 230 #[vi p0, vi p1, vi p2, vi p3, vi p4, vi p5, vi 0, vr st_ALL, vi 0, vi 0, .val (.double (FP.l2d (p0.toInt64))), .second, .val (.double (FP.l2d (p1.toInt64))), .second, .val (.double (FP.l2d (p2.toInt64))), .second, .val (.double y1), .second, .val (.double y2), .second, vr b2, vi 1, .val (.double (FP.l2d (0 : Int64))), .second, .val (.double (FP.l2d (0 : Int64))), .second, .unset, .unset, .unset, .unset, .unset, .unset, .unset, .unset] (Value.double z :: [])) (own_cg2 (f := FP.dadd) (own_cg2 (f := FP.dmul) (own_cg2 (f := FP.ddiv) (own_cg2 (f := FP.dmul) (own_l2dz _) hy3.symm hy4.symm) rfl hy5.symm) rfl hy6.symm) (own_cg2 (f := FP.dmul) (own_cg2 (f := FP.ddiv) (own_cg2 (f := FP.dmul) (own_l2dz _) rfl hy7.symm) rfl hy8.symm) rfl hy9.symm) hy10.symm)) ?_
    refine t_dstore (pc' := 232) (L' := #[vi p0, vi p1, vi p2, vi p3, vi p4, vi p5, vi 0, vr st_ALL, vi 0, vi 0, .val (.double (FP.l2d (p0.toInt64))), .second, .val (.double (FP.l2d (p1.toInt64))), .second, .val (.double (FP.l2d (p2.toInt64))), .second, .val (.double y1), .second, .val (.double y2), .second, vr b2, vi 1, .val (.double (FP.l2d (0 : Int64))), .second, .val (.double (FP.l2d (0 : Int64))), .second, .val (.double y10), .second, .unset, .unset, .unset, .unset, .unset, .unset]) X13.here hx (hb hby at_230) rfl rfl ?_
    refine t_dload 234 X13.here hx (hb hby at_232) rfl rfl ?_
    refine t_dload 236 X13.here hx (hb hby at_234) rfl rfl ?_
    refine t_dadd 237 (r := (FP.dadd (FP.l2d (p0.toInt64)) (FP.l2d (0 : Int64)))) X13.here hx (hb hby at_236) (own_nnof (own_l2dz _) (Jvm.Free.Fl.Mag64.fin (Jvm.Free.Fl.l2d_mag _) (by decide)).noNaN) rfl rfl ?_
    refine castTop (g' := (mkF m 237 #[vi p0, vi p1, vi p2, vi p3, vi p4, vi p5, vi 0, vr st_ALL, vi 0, vi 0, .val (.double (FP.l2d (p0.toInt64))), .second, .val (.double (FP.l2d (p1.toInt64))), .second, .val (.double (FP.l2d (p2.toInt64))), .second, .val (.double y1), .second, .val (.double y2), .second, vr b2, vi 1, .val (.double (FP.l2d (0 : Int64))), .second, .val (.double (FP.l2d (0 : Int64))), .second, .val (.double y10), .second, .unset, .unset, .unset, .unset, .unset, .unset] [(.double (FP.l2d (p0.toInt64)))])) (congrArg (fun z => mkF m 237 #[vi p0, vi p1, vi p2, vi p3, vi p4, vi p5, vi 0, vr st_ALL, vi 0, vi 0, .val (.double (FP.l2d (p0.toInt64))), .second, .val (.double (FP.l2d (p1.toInt64))), .second, .val (.double (FP.l2d (p2.toInt64))), .second, .val (.double y1), .second, .val (.double y2), .second, vr b2, vi 1, .val (.double (FP.l2d (0 : Int64))), .second, .val (.double (FP.l2d (0 : Int64))), .second, .val (.double y10), .second, .unset, .unset, .unset, .unset, .unset, .unset] (Value.double z :: [])) (own_l2dz _)) ?_
    refine t_dstore (pc' := 239) (L' := #[vi p0, vi p1, vi p2, vi p3, vi p4, vi p5, vi 0, vr st_ALL, vi 0, vi 0, .val (.double (FP.l2d (p0.toInt64))), .second, .val (.double (FP.l2d (p1.toInt64))), .second, .val (.double (FP.l2d (p2.toInt64))), .second, .val (.double y1), .second, .val (.double y2), .second, vr b2, vi 1, .val (.double (FP.l2d (0 : Int64))), .second, .val (.double (FP.l2d (0 : Int64))), .second, .val (.double y10), .second, .val (.double (FP.l2d (p0.toInt64))), .second, .unset, .unset, .unset, .unset]) X13.here hx (hb hby at_237) rfl rfl ?_
    refine t_iload 241 X13.here hx (hb hby at_239) rfl rfl ?_
    refine t_ifYes (pc := 241) 258 X13.here hx (hb hby at_241) (by decide) (by decide) (by decide) ?_
    refine t_dload 260 X13.here hx (hb hby at_258) rfl rfl ?_
    refine t_dstore (pc' := 262) (L' := #[vi p0, vi p1, vi p2, vi p3, vi p4, vi p5, vi 0, vr st_ALL, vi 0, vi 0, .val (.double (FP.l2d (p0.toInt64))), .second, .val (.double (FP.l2d (p1.toInt64))), .second, .val (.double (FP.l2d (p2.toInt64))), .second, .val (.double y1), .second, .val (.double y2), .second, vr b2, vi 1, .val (.double (FP.l2d (0 : Int64))), .second, .val (.double (FP.l2d (0 : Int64))), .second, .val (.double y10), .second, .val (.double (FP.l2d (p0.toInt64))), .second, .val (.double y10), .second, .unset, .unset]) X13.here hx (hb hby at_260) rfl rfl ?_
    refine t_aload 264 X13.here hx (hb hby at_262) rfl rfl rfl ?_
    refine st19 _ ?_
    refine t_aload 269 X19.here hx (hb hby at_267) rfl rfl rfl ?_
    refine st22 _ ?_
    refine t_dstore (pc' := 274) (L' := #[vi p0, vi p1, vi p2, vi p3, vi p4, vi p5, vi 0, vr st_ALL, vi 0, vi 0, .val (.double (FP.l2d (p0.toInt64))), .second, .val (.double (FP.l2d (p1.toInt64))), .second, .val (.double (FP.l2d (p2.toInt64))), .second, .val (.double y1), .second, .val (.double y2), .second, vr b2, vi 1, .val (.double (FP.l2d (0 : Int64))), .second, .val (.double (FP.l2d (0 : Int64))), .second, .val (.double y10), .second, .val (.double (FP.l2d (p0.toInt64))), .second, .val (.double y10), .second, .val (.double y12), .second]) X22.here hx (hb hby at_272) rfl rfl ?_
    refine t_iload 276 X22.here hx (hb hby at_274) rfl rfl ?_
    refine t_ifNo 279 X22.here hx (hb hby at_276) (by decide) rfl ?_
    refine t_dload 281 X22.here hx (hb hby at_279) rfl rfl ?_
    refine t_dload 283 X22.here hx (hb hby at_281) rfl rfl ?_
    refine t_dload 285 X22.here hx (hb hby at_283) rfl rfl ?_
    refine t_dadd 286 (r := (FP.dadd (FP.l2d (0 : Int64)) y10)) X22.here hx (hb hby at_285) (own_nnof hy11.symm (Jvm.Free.Fl.Mag64.fin mg_y11 (by decide)).noNaN) rfl rfl ?_
    refine castTop (g' := (mkF m 286 #[vi p0, vi p1, vi p2, vi p3, vi p4, vi p5, vi 0, vr st_ALL, vi 0, vi 0, .val (.double (FP.l2d (p0.toInt64))), .second, .val (.double (FP.l2d (p1.toInt64))), .second, .val (.double (FP.l2d (p2.toInt64))), .second, .val (.double y1), .second, .val (.double y2), .second, vr b2, vi 1, .val (.double (FP.l2d (0 : Int64))), .second, .val (.double (FP.l2d (0 : Int64))), .second, .val (.double y10), .second, .val (.double (FP.l2d (p0.toInt64))), .second, .val (.double y10), .second, .val (.double y12), .second] [(.double y11), (.double y12)])) (congrArg (fun z => mkF m 286 #[vi p0, vi p1, vi p2, vi p3, vi p4, vi p5, vi 0, vr st_ALL, vi 0, vi 0, .val (.double (FP.l2d (p0.toInt64))), .second, .val (.double (FP.l2d (p1.toInt64))), .second, .val (.double (FP.l2d (p2.toInt64))), .second, .val (.double y1), .second, .val (.double y2), .second, vr b2, vi 1, .val (.double (FP.l2d (0 : Int64))), .second, .val (.double (FP.l2d (0 : Int64))), .second, .val (.double y10), .second, .val (.double (FP.l2d (p0.toInt64))), .second, .val (.double y10), .second, .val (.double y12), .second] (Value.double z :: [(.double y12)])) hy11.symm) ?_
    refine t_dcmp 287 (r := 0) X22.here hx (hb hby at_286) (by rw [hy12, hy11]; exact own_cmp0y ((Jvm.Free.Fl.Mag64.fin (Jvm.Free.Fl.l2d_mag _) (by decide)).noNaN) ((Jvm.Free.Fl.Mag64.fin mg_y10 (by decide)).noNaN) (by rw [← hy11]; exact (Jvm.Free.Fl.Mag64.fin mg_y11 (by decide)).noNaN) _) rfl ?_
    refine t_ifNo 290 X22.here hx (hb hby at_287) (by decide) rfl ?_
    refine t_iconst 291 (r := 1) X22.here hx (hb hby at_290) (by decide) rfl ?_
    refine t_goto (pc := 291) 295 X22.here hx (hb hby at_291) (by decide) (by decide) ?_
    refine t_istore (pc' := 297) (L' := #[vi p0, vi p1, vi p2, vi p3, vi p4, vi p5, vi 0, vr st_ALL, vi 0, vi 0, .val (.double (FP.l2d (p0.toInt64))), .second, .val (.double (FP.l2d (p1.toInt64))), .second, .val (.double (FP.l2d (p2.toInt64))), .second, .val (.double y1), .second, .val (.double y2), .second, vr b2, vi 1, .val (.double (FP.l2d (0 : Int64))), .second, .val (.double (FP.l2d (0 : Int64))), .second, .val (.double y10), .second, .val (.double (FP.l2d (p0.toInt64))), .second, .val (.double y10), .second, .val (.double y12), .second]) X22.here hx (hb hby at_295) rfl rfl ?_
    refine t_iload 299 X22.here hx (hb hby at_297) rfl rfl ?_
    refine t_ifNo 302 X22.here hx (hb hby at_299) (by decide) rfl ?_
    refine t_aload 304 X22.here hx (hb hby at_302) rfl rfl rfl ?_
    refine st24 _ ?_
    refine castTop (g' := (mkF m 307 #[vi p0, vi p1, vi p2, vi p3, vi p4, vi p5, vi 0, vr st_ALL, vi 0, vi 0, .val (.double (FP.l2d (p0.toInt64))), .second, .val (.double (FP.l2d (p1.toInt64))), .second, .val (.double (FP.l2d (p2.toInt64))), .second, .val (.double y1), .second, .val (.double y2), .second, vr b2, vi 1, .val (.double (FP.l2d (0 : Int64))), .second, .val (.double (FP.l2d (0 : Int64))), .second, .val (.double y10), .second, .val (.double (FP.l2d (p0.toInt64))), .second, .val (.double y10), .second, .val (.double y12), .second] [(.double y13)])) (congrArg (fun z => mkF m 307 #[vi p0, vi p1, vi p2, vi p3, vi p4, vi p5, vi 0, vr st_ALL, vi 0, vi 0, .val (.double (FP.l2d (p0.toInt64))), .second, .val (.double (FP.l2d (p1.toInt64))), .second, .val (.double (FP.l2d (p2.toInt64))), .second, .val (.double y1), .second, .val (.double y2), .second, vr b2, vi 1, .val (.double (FP.l2d (0 : Int64))), .second, .val (.double (FP.l2d (0 : Int64))), .second, .val (.double y10), .second, .val (.double (FP.l2d (p0.toInt64))), .second, .val (.double y10), .second, .val (.double y12), .second] (Value.double z :: [])) hy13.symm) ?_
    refine t_dload 309 X24.here hx (hb hby at_307) rfl rfl ?_
    refine t_dload 311 X24.here hx (hb hby at_309) rfl rfl ?_
    refine t_dadd 312 (r := (FP.dadd (FP.l2d (p0.toInt64)) y12)) X24.here hx (hb hby at_311) (own_nnof hy13.symm (Jvm.Free.Fl.Mag64.fin mg_y13 (by decide)).noNaN) rfl rfl ?_
    refine castTop (g' := (mkF m 312 #[vi p0, vi p1, vi p2, vi p3, vi p4, vi p5, vi 0, vr st_ALL, vi 0, vi 0, .val (.double (FP.l2d (p0.toInt64))), .second, .val (.double (FP.l2d (p1.toInt64))), .second, .val (.double (FP.l2d (p2.toInt64))), .second, .val (.double y1), .second, .val (.double y2), .second, vr b2, vi 1, .val (.double (FP.l2d (0 : Int64))), .second, .val (.double (FP.l2d (0 : Int64))), .second, .val (.double y10), .second, .val (.double (FP.l2d (p0.toInt64))), .second, .val (.double y10), .second, .val (.double y12), .second] [(.double y13), (.double y13)])) (congrArg (fun z => mkF m 312 #[vi p0, vi p1, vi p2, vi p3, vi p4, vi p5, vi 0, vr st_ALL, vi 0, vi 0, .val (.double (FP.l2d (p0.toInt64))), .second, .val (.double (FP.l2d (p1.toInt64))), .second, .val (.double (FP.l2d (p2.toInt64))), .second, .val (.double y1), .second, .val (.double y2), .second, vr b2, vi 1, .val (.double (FP.l2d (0 : Int64))), .second, .val (.double (FP.l2d (0 : Int64))), .second, .val (.double y10), .second, .val (.double (FP.l2d (p0.toInt64))), .second, .val (.double y10), .second, .val (.double y12), .second] (Value.double z :: [(.double y13)])) hy13.symm) ?_
    refine t_dcmp 313 (r := 0) X24.here hx (hb hby at_312) (dcmpV_self ((Jvm.Free.Fl.Mag64.fin mg_y13 (by decide)).noNaN) _) rfl ?_
    refine t_ifNo 316 X24.here hx (hb hby at_313) (by decide) rfl ?_
    refine t_iconst 317 (r := 1) X24.here hx (hb hby at_316) (by decide) rfl ?_
    refine t_goto (pc := 317) 321 X24.here hx (hb hby at_317) (by decide) (by decide) ?_
    refine t_istore (pc' := 323) (L' := #[vi p0, vi p1, vi p2, vi p3, vi p4, vi p5, vi 0, vr st_ALL, vi 0, vi 0, .val (.double (FP.l2d (p0.toInt64))), .second, .val (.double (FP.l2d (p1.toInt64))), .second, .val (.double (FP.l2d (p2.toInt64))), .second, .val (.double y1), .second, .val (.double y2), .second, vr b2, vi 1, .val (.double (FP.l2d (0 : Int64))), .second, .val (.double (FP.l2d (0 : Int64))), .second, .val (.double y10), .second, .val (.double (FP.l2d (p0.toInt64))), .second, .val (.double y10), .second, .val (.double y12), .second]) X24.here hx (hb hby at_321) rfl rfl ?_
    refine t_iload 325 X24.here hx (hb hby at_323) rfl rfl ?_
    exact retN X24 hx (t := .boolean) hret (by simp) (hb hby at_325) hr
theorem ef_law_0_1 (p0 p1 p2 p3 p4 p5 : Int32) (m : MethodId) : entryFrame m #[(.int p0), (.int p1), (.int p2), (.int p3), (.int p4), (.int p5)] maxLocals = mkF m 0 #[.val (.int p0), .val (.int p1), .val (.int p2), .val (.int p3), .val (.int p4), .val (.int p5), .unset, .unset, .unset, .unset, .unset, .unset, .unset, .unset, .unset, .unset, .unset, .unset, .unset, .unset, .unset, .unset, .unset, .unset, .unset, .unset, .unset, .unset, .unset, .unset, .unset, .unset, .unset, .unset] [] := by first | (simp [entryFrame, mkF, argsToLocals, Value.category, maxLocals]; done) | rfl
set_option maxRecDepth 65536 in
set_option maxHeartbeats 40000000 in
theorem law_0_1 (l : Launch) (Z : State) (a0 : Array Value) (hw : HW Z a0) (ws : List Jvm.Cond) (p0 p1 p2 p3 p4 p5 : Int32) (st_ALL st_FLAT st_SPREAD_EXCLUSIVE : Addr) (h0 : Heap) (n0 : Nat) (Z0 : n0 ≤ h0.size) (hk : ((p5 &&& (2147483647 : Int32)) - ((p5 &&& (2147483647 : Int32)) / (3 : Int32)) * (3 : Int32)) = (0 : Int32)) (hf1 : (((p5.toUInt32 >>> ((4 : Int32) &&& 31).toUInt32).toInt32) &&& (1 : Int32)) = (1 : Int32)) (S_ALL : Sta Z Z.heap "com/example/rivulet/rivulet/instrument/CompoundMethod" "ALL" "Lcom/example/rivulet/rivulet/instrument/CompoundMethod;" (.ref st_ALL)) (O0 : Old Z n0 h0) (S_SPREAD_EXCLUSIVE : Sta Z Z.heap "com/example/rivulet/rivulet/instrument/CompoundMethod" "SPREAD_EXCLUSIVE" "Lcom/example/rivulet/rivulet/instrument/CompoundMethod;" (.ref st_SPREAD_EXCLUSIVE)) (ne_st_ALL_st_SPREAD_EXCLUSIVE : st_ALL ≠ st_SPREAD_EXCLUSIVE) :
    MetFree l x (head1 (Jvm.Cond.code x code maxLocals ret :: ws) room_1) (fun a U => a = #[(.int p0), (.int p1), (.int p2), (.int p3), (.int p4), (.int p5)] ∧ Z.Warmed39 U.vm ∧ U.heap = h0) (fun _ _ _ _ _ => True) (fun _ U o U' => ∃ v L, o = .returned v ∧ Q_law n0 v L ∧ FrameEnd U o U' L 16 128) := by
  refine own_law (y := x) (k := 1) (n := 6) (plainFor_of_name pn_AccrualCompoundPinLaw114) (ef_law_0_1 p0 p1 p2 p3 p4 p5) (by decide) (by decide) ?_
  intro p e s m below meth c s₁ hx hby hml hown hnm hret hZ hh e0 X0
  have N0 := Fr.nil n0
  obtain ⟨T1, X1, e1, st1⟩ := getS2 X0 hx hZ hown (host := "") (Or.inl (w1 hw)) Via.refl e0 (Sta.ext O0.2 S_ALL) (g := (mkF m 14 #[vi p0, vi p1, vi p2, vi p3, vi p4, vi p5, vi 0, .unset, .unset, .unset, .unset, .unset, .unset, .unset, .unset, .unset, .unset, .unset, .unset, .unset, .unset, .unset, .unset, .unset, .unset, .unset, .unset, .unset, .unset, .unset, .unset, .unset, .unset, .unset] [])) rfl (hb hby at_14)
  obtain ⟨y1, hy1⟩ : ∃ z, z = (FP.ddiv (FP.l2d ((p3 &&& (1023 : Int32)).toInt64)) (4643211215818981376 : UInt64)) := ⟨_, rfl⟩
  have mg_y1 := own_mgk (K := 1081) hy1 (Jvm.RoadKit.ddiv_mag (K := 1088) (L := 1031) (Jvm.Free.Fl.l2d_mag _) (by unfold Big64; decide +kernel) (by decide) (by decide)) (by decide)
  obtain ⟨y2, hy2⟩ : ∃ z, z = (FP.ddiv (FP.l2d ((p4 &&& (1023 : Int32)).toInt64)) (4643211215818981376 : UInt64)) := ⟨_, rfl⟩
  have mg_y2 := own_mgk (K := 1081) hy2 (Jvm.RoadKit.ddiv_mag (K := 1088) (L := 1031) (Jvm.Free.Fl.l2d_mag _) (by unfold Big64; decide +kernel) (by decide) (by decide)) (by decide)
  obtain ⟨T2, h2, X2, e2, E2, A2, D2, -, st2⟩ := newO X1 hx hZ hown (w5 hw) (w6 hw) (w7 hw) e1 (g := (mkF m 103 #[vi p0, vi p1, vi p2, vi p3, vi p4, vi p5, vi 0, vr st_ALL, vi 0, vi 1, .val (.double (FP.l2d (p0.toInt64))), .second, .val (.double (FP.l2d (p1.toInt64))), .second, .val (.double (FP.l2d (p2.toInt64))), .second, .val (.double y1), .second, .val (.double y2), .second, .unset, .unset, .unset, .unset, .unset, .unset, .unset, .unset, .unset, .unset, .unset, .unset, .unset, .unset] [])) rfl (hb hby at_103) (by decide) (by decide)
  obtain ⟨b2, g2⟩ : ∃ z, z = h0.size := ⟨_, rfl⟩
  rw [← g2] at A2 D2 st2
  have ge_b2 : h0.size ≤ b2 := Nat.le_of_eq g2.symm
  have K2 := KL.ofE E2
  have F_b2_balance : Fd0 Z h2 b2 (.double (FP.l2d (0 : Int64))) := Fld.zeroD (D2 (Or.inr (w15 hw)) (ty := .double) (by decide))
  have F_b2_rate : Fd1 Z h2 b2 (.double (FP.l2d (0 : Int64))) := Fld.zeroD (D2 (Or.inr (w17 hw)) (ty := .double) (by decide))
  have F_b2_margin : Fd2 Z h2 b2 (.double (FP.l2d (0 : Int64))) := Fld.zeroD (D2 (Or.inr (w19 hw)) (ty := .double) (by decide))
  have F_b2_method : Fd3 Z h2 b2 .null := D2 (Or.inr (w21 hw)) (ty := (.object "com/example/rivulet/rivulet/instrument/CompoundMethod")) (by decide)
  have F_b2_compounded : Fd4 Z h2 b2 (.double (FP.l2d (0 : Int64))) := Fld.zeroD (D2 (Or.inl (w28 hw)) (ty := .double) (by decide))
  have F_b2_pending : Fd5 Z h2 b2 (.double (FP.l2d (0 : Int64))) := Fld.zeroD (D2 (Or.inl (w30 hw)) (ty := .double) (by decide))
  obtain ⟨_, T3, L3, X3, hQ3, st3⟩ := own_init X2 hx hZ rfl hown (w8 hw) (w9 hw) (w7 hw) (w10 hw) (by decide) (r_init l Z a0 hw [] b2 (FP.l2d (p0.toInt64)) (FP.l2d (p1.toInt64)) (FP.l2d (p2.toInt64)) st_ALL (.double (FP.l2d (0 : Int64))) (.double (FP.l2d (0 : Int64))) (.double (FP.l2d (0 : Int64))) .null h2 n0 (Nat.le_trans Z0 K2.1) F_b2_balance A2 (Nat.le_trans Z0 ge_b2) F_b2_rate F_b2_margin F_b2_method) e2 (W := 1) (by decide) (g := (mkF m 115 #[vi p0, vi p1, vi p2, vi p3, vi p4, vi p5, vi 0, vr st_ALL, vi 0, vi 1, .val (.double (FP.l2d (p0.toInt64))), .second, .val (.double (FP.l2d (p1.toInt64))), .second, .val (.double (FP.l2d (p2.toInt64))), .second, .val (.double y1), .second, .val (.double y2), .second, .unset, .unset, .unset, .unset, .unset, .unset, .unset, .unset, .unset, .unset, .unset, .unset, .unset, .unset] [(.ref st_ALL), (.double (FP.l2d (p2.toInt64))), (.double (FP.l2d (p1.toInt64))), (.double (FP.l2d (p0.toInt64))), (.ref b2), (.ref b2)])) rfl hml.symm (argsL := [(.double (FP.l2d (p0.toInt64))), (.double (FP.l2d (p1.toInt64))), (.double (FP.l2d (p2.toInt64))), (.ref st_ALL)]) (rest := [(.ref b2)]) (lenOf pd_2 rfl) rfl rfl (own_wr rfl rfl) (hb hby at_115)
  obtain ⟨rfl, N3q, K3, Q3_0, Q3_1, Q3_2, Q3_3⟩ := hQ3
  have N3 := Fr.app N0 N3q
  have f5 := (kExa K3 A2)
  have f6 := (kFld K3 F_b2_compounded (nwS (Or.inr (sn_17 hw)) (nwS (Or.inr (sn_16 hw)) (nwS (Or.inr (sn_15 hw)) (nwS (Or.inr (sn_14 hw)) nw0)))))
  obtain ⟨y3, hy3⟩ : ∃ z, z = (FP.dsub (FP.l2d (p1.toInt64)) (FP.l2d (p2.toInt64))) := ⟨_, rfl⟩
  have mg_y3 := own_mgk (K := 1090) hy3 (Jvm.Free.Fl.dsub_mag (K := 1088) (Jvm.Free.Fl.Mag64.mono (Jvm.Free.Fl.l2d_mag _) (by decide)) (Jvm.Free.Fl.Mag64.mono (Jvm.Free.Fl.l2d_mag _) (by decide)) (by decide)) (by decide)
  obtain ⟨y4, hy4⟩ : ∃ z, z = (FP.dmul (FP.l2d (p0.toInt64)) y3) := ⟨_, rfl⟩
  have mg_y4 := own_mgk (K := 1156) hy4 (Jvm.Free.Fl.dmul_mag (Jvm.Free.Fl.l2d_mag _) mg_y3 (by decide) (by decide)) (by decide)
  obtain ⟨y5, hy5⟩ : ∃ z, z = (FP.ddiv y4 (4636737291354636288 : UInt64)) := ⟨_, rfl⟩
  have mg_y5 := own_mgk (K := 1151) hy5 (Jvm.RoadKit.ddiv_mag (K := 1156) (L := 1029) mg_y4 (by unfold Big64; decide +kernel) (by decide) (by decide)) (by decide)
  obtain ⟨y6, hy6⟩ : ∃ z, z = (FP.dmul y5 y1) := ⟨_, rfl⟩
  have mg_y6 := own_mgk (K := 1210) hy6 (Jvm.Free.Fl.dmul_mag mg_y5 mg_y1 (by decide) (by decide)) (by decide)
  have f7 := (kOld K3 (kOld K2 O0 na0) (naGM 4 rfl (Nat.le_trans Z0 ge_b2) na0))
  obtain ⟨y7, hy7⟩ : ∃ z, z = (FP.dmul (FP.l2d (p0.toInt64)) (FP.l2d (p2.toInt64))) := ⟨_, rfl⟩
  have mg_y7 := own_mgk (K := 1154) hy7 (Jvm.Free.Fl.dmul_mag (Jvm.Free.Fl.l2d_mag _) (Jvm.Free.Fl.l2d_mag _) (by decide) (by decide)) (by decide)
  obtain ⟨y8, hy8⟩ : ∃ z, z = (FP.ddiv y7 (4636737291354636288 : UInt64)) := ⟨_, rfl⟩
  have mg_y8 := own_mgk (K := 1149) hy8 (Jvm.RoadKit.ddiv_mag (K := 1154) (L := 1029) mg_y7 (by unfold Big64; decide +kernel) (by decide) (by decide)) (by decide)
  obtain ⟨y9, hy9⟩ : ∃ z, z = (FP.dmul y8 y1) := ⟨_, rfl⟩
  have mg_y9 := own_mgk (K := 1208) hy9 (Jvm.Free.Fl.dmul_mag mg_y8 mg_y1 (by decide) (by decide)) (by decide)
  have f8 := (kFld K3 F_b2_pending (nwS (Or.inr (sn_21 hw)) (nwS (Or.inr (sn_20 hw)) (nwS (Or.inr (sn_19 hw)) (nwS (Or.inr (sn_18 hw)) nw0)))))
  obtain ⟨y10, hy10⟩ : ∃ z, z = (FP.dadd y6 y9) := ⟨_, rfl⟩
  have mg_y10 := own_mgk (K := 1212) hy10 (Jvm.Free.Fl.dadd_mag (K := 1210) (Jvm.Free.Fl.Mag64.mono mg_y6 (by decide)) (Jvm.Free.Fl.Mag64.mono mg_y9 (by decide)) (by decide)) (by decide)
  obtain ⟨y11, hy11⟩ : ∃ z, z = (FP.dadd (FP.l2d (0 : Int64)) y10) := ⟨_, rfl⟩
  have mg_y11 := own_mgk (K := 1214) hy11 (Jvm.Free.Fl.dadd_mag (K := 1212) (Jvm.Free.Fl.Mag64.mono (Jvm.Free.Fl.l2d_mag _) (by decide)) (Jvm.Free.Fl.Mag64.mono mg_y10 (by decide)) (by decide)) (by decide)
  have sz_0_2 := (Nat.le_trans K2.1 K3.1)
  obtain ⟨_, T4, L4, X4, hQ4, st4⟩ := own_virtual X3 hx hZ hown (w36 hw) (w37 hw) (nfS hZ (w39 hw)) (w39 hw) (w38 hw) (w7 hw) (w40 hw) (by decide) (r_accrue_ALL l Z a0 hw [] b2 y1 (FP.l2d (p0.toInt64)) (FP.l2d (0 : Int64)) (FP.l2d (p1.toInt64)) (FP.l2d (p2.toInt64)) st_ALL (FP.l2d (0 : Int64)) st_SPREAD_EXCLUSIVE T3.heap n0 (Nat.le_trans Z0 sz_0_2) f5 Q3_0 f6 ((own_nnof (own_l2dz _) (Jvm.Free.Fl.Mag64.fin (Jvm.Free.Fl.l2d_mag _) (by decide)).noNaN)) Q3_1 Q3_2 ((own_nnof hy3.symm (Jvm.Free.Fl.Mag64.fin mg_y3 (by decide)).noNaN)) ((own_nnof (own_cg2 (f := FP.dmul) (own_l2dz _) hy3.symm hy4.symm) (Jvm.Free.Fl.Mag64.fin mg_y4 (by decide)).noNaN)) ((own_nnof (own_cg2 (f := FP.ddiv) (own_cg2 (f := FP.dmul) (own_l2dz _) hy3.symm hy4.symm) rfl hy5.symm) (Jvm.Free.Fl.Mag64.fin mg_y5 (by decide)).noNaN)) ((own_nnof (own_cg2 (f := FP.dmul) (own_cg2 (f := FP.ddiv) (own_cg2 (f := FP.dmul) (own_l2dz _) hy3.symm hy4.symm) rfl hy5.symm) rfl hy6.symm) (Jvm.Free.Fl.Mag64.fin mg_y6 (by decide)).noNaN)) Q3_3 S_ALL f7 ((own_nnof (own_cg2 (f := FP.dmul) (own_l2dz _) rfl hy7.symm) (Jvm.Free.Fl.Mag64.fin mg_y7 (by decide)).noNaN)) ((own_nnof (own_cg2 (f := FP.ddiv) (own_cg2 (f := FP.dmul) (own_l2dz _) rfl hy7.symm) rfl hy8.symm) (Jvm.Free.Fl.Mag64.fin mg_y8 (by decide)).noNaN)) ((own_nnof (own_cg2 (f := FP.dmul) (own_cg2 (f := FP.ddiv) (own_cg2 (f := FP.dmul) (own_l2dz _) rfl hy7.symm) rfl hy8.symm) rfl hy9.symm) (Jvm.Free.Fl.Mag64.fin mg_y9 (by decide)).noNaN)) f8 S_SPREAD_EXCLUSIVE ne_st_ALL_st_SPREAD_EXCLUSIVE ((own_nnof (own_cg2 (f := FP.dadd) (own_cg2 (f := FP.dmul) (own_cg2 (f := FP.ddiv) (own_cg2 (f := FP.dmul) (own_l2dz _) hy3.symm hy4.symm) rfl hy5.symm) rfl hy6.symm) (own_cg2 (f := FP.dmul) (own_cg2 (f := FP.ddiv) (own_cg2 (f := FP.dmul) (own_l2dz _) rfl hy7.symm) rfl hy8.symm) rfl hy9.symm) hy10.symm) (Jvm.Free.Fl.Mag64.fin mg_y10 (by decide)).noNaN)) ((own_nnof (own_cg2 (f := FP.dadd) rfl (own_cg2 (f := FP.dadd) (own_cg2 (f := FP.dmul) (own_cg2 (f := FP.ddiv) (own_cg2 (f := FP.dmul) (own_l2dz _) hy3.symm hy4.symm) rfl hy5.symm) rfl hy6.symm) (own_cg2 (f := FP.dmul) (own_cg2 (f := FP.ddiv) (own_cg2 (f := FP.dmul) (own_l2dz _) rfl hy7.symm) rfl hy8.symm) rfl hy9.symm) hy10.symm) hy11.symm) (Jvm.Free.Fl.Mag64.fin mg_y11 (by decide)).noNaN)) (Nat.le_trans Z0 ge_b2)) rfl f5 (W := 0) (by decide) (g := (mkF m 135 #[vi p0, vi p1, vi p2, vi p3, vi p4, vi p5, vi 0, vr st_ALL, vi 0, vi 1, .val (.double (FP.l2d (p0.toInt64))), .second, .val (.double (FP.l2d (p1.toInt64))), .second, .val (.double (FP.l2d (p2.toInt64))), .second, .val (.double y1), .second, .val (.double y2), .second, vr b2, vi 1, .val (.double (FP.l2d (0 : Int64))), .second, .unset, .unset, .unset, .unset, .unset, .unset, .unset, .unset, .unset, .unset] [(.double y1), (.ref b2)])) rfl hml.symm (argsL := [(.double y1)]) (rest := []) (lenOf pd_4 rfl) rfl rfl (own_wr rfl rfl) (hb hby at_135)
  obtain ⟨rfl, N4q, K4, Q4_0⟩ := hQ4
  have N4 := Fr.app N3 N4q
  have Q4_0' : Fd5 Z T4.heap b2 (.double y11) := Eq.mp (congrArg (fun z => Fd5 Z T4.heap b2 (Value.double z)) (own_cg2 (f := FP.dadd) rfl (own_cg2 (f := FP.dadd) (own_cg2 (f := FP.dmul) (own_cg2 (f := FP.ddiv) (own_cg2 (f := FP.dmul) (own_l2dz _) hy3.symm hy4.symm) rfl hy5.symm) rfl hy6.symm) (own_cg2 (f := FP.dmul) (own_cg2 (f := FP.ddiv) (own_cg2 (f := FP.dmul) (own_l2dz _) rfl hy7.symm) rfl hy8.symm) rfl hy9.symm) hy10.symm) hy11.symm)) Q4_0
  have f10 := (kFld K4 f6 (nwS (Or.inr (sn_13 hw)) nw0))
  obtain ⟨y12, hy12⟩ : ∃ z, z = (FP.dadd (FP.l2d (0 : Int64)) y11) := ⟨_, rfl⟩
  have mg_y12 := own_mgk (K := 1216) hy12 (Jvm.Free.Fl.dadd_mag (K := 1214) (Jvm.Free.Fl.Mag64.mono (Jvm.Free.Fl.l2d_mag _) (by decide)) (Jvm.Free.Fl.Mag64.mono mg_y11 (by decide)) (by decide)) (by decide)
  have f11 := (kExa K4 f5)
  have sz_0_3 := (Nat.le_trans sz_0_2 K4.1)
  obtain ⟨_, T9, L9, X9, hQ9, st9⟩ := own_virtual X4 hx hZ hown (w22 hw) (w23 hw) (nfS hZ (w25 hw)) (w25 hw) (w24 hw) (w7 hw) (w26 hw) (by decide) (r_compound l Z a0 hw [] b2 (FP.l2d (0 : Int64)) y11 T4.heap n0 (Nat.le_trans Z0 sz_0_3) f10 Q4_0' ((own_nnof hy12.symm (Jvm.Free.Fl.Mag64.fin mg_y12 (by decide)).noNaN)) f11 (Nat.le_trans Z0 ge_b2)) rfl f11 (W := 0) (by decide) (g := (mkF m 165 #[vi p0, vi p1, vi p2, vi p3, vi p4, vi p5, vi 0, vr st_ALL, vi 0, vi 1, .val (.double (FP.l2d (p0.toInt64))), .second, .val (.double (FP.l2d (p1.toInt64))), .second, .val (.double (FP.l2d (p2.toInt64))), .second, .val (.double y1), .second, .val (.double y2), .second, vr b2, vi 1, .val (.double y10), .second, .val (.double y10), .second, .unset, .unset, .unset, .unset, .unset, .unset, .unset, .unset] [(.ref b2)])) rfl hml.symm (argsL := []) (rest := []) (lenOf pd_3 rfl) rfl rfl (own_wr rfl rfl) (hb hby at_165)
  obtain ⟨rfl, N9q, K9, Q9_0, Q9_1⟩ := hQ9
  have N9 := Fr.app N4 N9q
  have Q9_0' : Fd4 Z T9.heap b2 (.double y12) := Eq.mp (congrArg (fun z => Fd4 Z T9.heap b2 (Value.double z)) hy12.symm) Q9_0
  have sz_0_4 := (Nat.le_trans sz_0_3 K9.1)
  have f13 := (kExa K9 f11)
  obtain ⟨_, T12, L12, X12, hQ12, st12⟩ := own_virtual X9 hx hZ hown (w31 hw) (w32 hw) (nfS hZ (w34 hw)) (w34 hw) (w33 hw) (w7 hw) (w35 hw) (by decide) (r_compounded l Z a0 hw [] b2 y12 T9.heap n0 (Nat.le_trans Z0 sz_0_4) Q9_0') rfl f13 (W := 0) (by decide) (g := (mkF m 170 #[vi p0, vi p1, vi p2, vi p3, vi p4, vi p5, vi 0, vr st_ALL, vi 0, vi 1, .val (.double (FP.l2d (p0.toInt64))), .second, .val (.double (FP.l2d (p1.toInt64))), .second, .val (.double (FP.l2d (p2.toInt64))), .second, .val (.double y1), .second, .val (.double y2), .second, vr b2, vi 1, .val (.double y10), .second, .val (.double y10), .second, .unset, .unset, .unset, .unset, .unset, .unset, .unset, .unset] [(.ref b2)])) rfl hml.symm (argsL := []) (rest := []) (lenOf pd_0 rfl) rfl rfl (own_wr rfl rfl) (hb hby at_170)
  obtain ⟨rfl, N12q, e12⟩ := hQ12
  have N12 := Fr.app N9 N12q
  obtain ⟨_, T14, L14, X14, hQ14, st14⟩ := own_virtual X12 hx hZ hown (w22 hw) (w23 hw) (nfS hZ (w25 hw)) (w25 hw) (w24 hw) (w7 hw) (w26 hw) (by decide) (r_compound l Z a0 hw [] b2 y12 (FP.l2d (0 : Int64)) T9.heap n0 (Nat.le_trans Z0 sz_0_4) Q9_0' Q9_1 ((own_nnof (by rw [hy12]; exact own_zr ((Jvm.Free.Fl.Mag64.fin mg_y11 (by decide)).noNaN)) (Jvm.Free.Fl.Mag64.fin mg_y12 (by decide)).noNaN)) f13 (Nat.le_trans Z0 ge_b2)) e12 f13 (W := 0) (by decide) (g := (mkF m 197 #[vi p0, vi p1, vi p2, vi p3, vi p4, vi p5, vi 0, vr st_ALL, vi 0, vi 1, .val (.double (FP.l2d (p0.toInt64))), .second, .val (.double (FP.l2d (p1.toInt64))), .second, .val (.double (FP.l2d (p2.toInt64))), .second, .val (.double y1), .second, .val (.double y2), .second, vr b2, vi 1, .val (.double y10), .second, .val (.double y12), .second, .unset, .unset, .unset, .unset, .unset, .unset, .unset, .unset] [(.ref b2)])) rfl hml.symm (argsL := []) (rest := []) (lenOf pd_3 rfl) rfl rfl (own_wr rfl rfl) (hb hby at_197)
  obtain ⟨rfl, N14q, K14, Q14_0, Q14_1⟩ := hQ14
  have N14 := Fr.app N12 N14q
  have Q14_0' : Fd4 Z T14.heap b2 (.double y12) := Eq.mp (congrArg (fun z => Fd4 Z T14.heap b2 (Value.double z)) (by rw [hy12]; exact own_zr ((Jvm.Free.Fl.Mag64.fin mg_y11 (by decide)).noNaN))) Q14_0
  have sz_0_5 := (Nat.le_trans sz_0_4 K14.1)
  have f16 := (kExa K14 f13)
  obtain ⟨_, T15, L15, X15, hQ15, st15⟩ := own_virtual X14 hx hZ hown (w31 hw) (w32 hw) (nfS hZ (w34 hw)) (w34 hw) (w33 hw) (w7 hw) (w35 hw) (by decide) (r_compounded l Z a0 hw [] b2 y12 T14.heap n0 (Nat.le_trans Z0 sz_0_5) Q14_0') rfl f16 (W := 0) (by decide) (g := (mkF m 207 #[vi p0, vi p1, vi p2, vi p3, vi p4, vi p5, vi 0, vr st_ALL, vi 0, vi 1, .val (.double (FP.l2d (p0.toInt64))), .second, .val (.double (FP.l2d (p1.toInt64))), .second, .val (.double (FP.l2d (p2.toInt64))), .second, .val (.double y1), .second, .val (.double y2), .second, vr b2, vi 1, .val (.double y10), .second, .val (.double y12), .second, .unset, .unset, .unset, .unset, .unset, .unset, .unset, .unset] [(.ref b2)])) rfl hml.symm (argsL := []) (rest := []) (lenOf pd_0 rfl) rfl rfl (own_wr rfl rfl) (hb hby at_207)
  obtain ⟨rfl, N15q, e15⟩ := hQ15
  have N15 := Fr.app N14 N15q
  have f18 := (kFld K14 (kFld K9 (kFld K4 Q3_0 (nwS (Or.inr (sn_22 hw)) nw0)) (nwS (Or.inr (sn_23 hw)) (nwS (Or.inr (sn_22 hw)) nw0))) (nwS (Or.inr (sn_23 hw)) (nwS (Or.inr (sn_22 hw)) nw0)))
  obtain ⟨y13, hy13⟩ : ∃ z, z = (FP.dadd (FP.l2d (p0.toInt64)) y12) := ⟨_, rfl⟩
  have mg_y13 := own_mgk (K := 1218) hy13 (Jvm.Free.Fl.dadd_mag (K := 1216) (Jvm.Free.Fl.Mag64.mono (Jvm.Free.Fl.l2d_mag _) (by decide)) (Jvm.Free.Fl.Mag64.mono mg_y12 (by decide)) (by decide)) (by decide)
  have f19 := (kFld K14 (kFld K9 (kFld K4 Q3_1 (nwS (Or.inr (sn_24 hw)) nw0)) (nwS (Or.inr (sn_25 hw)) (nwS (Or.inr (sn_24 hw)) nw0))) (nwS (Or.inr (sn_25 hw)) (nwS (Or.inr (sn_24 hw)) nw0)))
  have f20 := (kFld K14 (kFld K9 (kFld K4 Q3_2 (nwS (Or.inr (sn_26 hw)) nw0)) (nwS (Or.inr (sn_27 hw)) (nwS (Or.inr (sn_26 hw)) nw0))) (nwS (Or.inr (sn_27 hw)) (nwS (Or.inr (sn_26 hw)) nw0)))
  obtain ⟨y14, hy14⟩ : ∃ z, z = (FP.dmul y13 y3) := ⟨_, rfl⟩
  have mg_y14 := own_mgk (K := 1286) hy14 (Jvm.Free.Fl.dmul_mag mg_y13 mg_y3 (by decide) (by decide)) (by decide)
  obtain ⟨y15, hy15⟩ : ∃ z, z = (FP.ddiv y14 (4636737291354636288 : UInt64)) := ⟨_, rfl⟩
  have mg_y15 := own_mgk (K := 1281) hy15 (Jvm.RoadKit.ddiv_mag (K := 1286) (L := 1029) mg_y14 (by unfold Big64; decide +kernel) (by decide) (by decide)) (by decide)
  obtain ⟨y16, hy16⟩ : ∃ z, z = (FP.dmul y15 y2) := ⟨_, rfl⟩
  have mg_y16 := own_mgk (K := 1340) hy16 (Jvm.Free.Fl.dmul_mag mg_y15 mg_y2 (by decide) (by decide)) (by decide)
  have f21 := (kFld K14 (kFld K9 (kFld K4 Q3_3 (nwS (Or.inr (sn_28 hw)) nw0)) (nwS (Or.inr (sn_29 hw)) (nwS (Or.inr (sn_28 hw)) nw0))) (nwS (Or.inr (sn_29 hw)) (nwS (Or.inr (sn_28 hw)) nw0)))
  have f22 := (kOld K14 (kOld K9 (kOld K4 f7 (naS (P := fun w => n0 ≤ w.1) (Nat.le_trans Z0 ge_b2) na0)) (naS (P := fun w => n0 ≤ w.1) (Nat.le_trans Z0 ge_b2) (naS (P := fun w => n0 ≤ w.1) (Nat.le_trans Z0 ge_b2) na0))) (naS (P := fun w => n0 ≤ w.1) (Nat.le_trans Z0 ge_b2) (naS (P := fun w => n0 ≤ w.1) (Nat.le_trans Z0 ge_b2) na0)))
  obtain ⟨y17, hy17⟩ : ∃ z, z = (FP.dmul y13 (FP.l2d (p2.toInt64))) := ⟨_, rfl⟩
  have mg_y17 := own_mgk (K := 1284) hy17 (Jvm.Free.Fl.dmul_mag mg_y13 (Jvm.Free.Fl.l2d_mag _) (by decide) (by decide)) (by decide)
  obtain ⟨y18, hy18⟩ : ∃ z, z = (FP.ddiv y17 (4636737291354636288 : UInt64)) := ⟨_, rfl⟩
  have mg_y18 := own_mgk (K := 1279) hy18 (Jvm.RoadKit.ddiv_mag (K := 1284) (L := 1029) mg_y17 (by unfold Big64; decide +kernel) (by decide) (by decide)) (by decide)
  obtain ⟨y19, hy19⟩ : ∃ z, z = (FP.dmul y18 y2) := ⟨_, rfl⟩
  have mg_y19 := own_mgk (K := 1338) hy19 (Jvm.Free.Fl.dmul_mag mg_y18 mg_y2 (by decide) (by decide)) (by decide)
  obtain ⟨y20, hy20⟩ : ∃ z, z = (FP.dadd y16 y19) := ⟨_, rfl⟩
  have mg_y20 := own_mgk (K := 1342) hy20 (Jvm.Free.Fl.dadd_mag (K := 1340) (Jvm.Free.Fl.Mag64.mono mg_y16 (by decide)) (Jvm.Free.Fl.Mag64.mono mg_y19 (by decide)) (by decide)) (by decide)
  obtain ⟨y21, hy21⟩ : ∃ z, z = (FP.dadd (FP.l2d (0 : Int64)) y20) := ⟨_, rfl⟩
  have mg_y21 := own_mgk (K := 1344) hy21 (Jvm.Free.Fl.dadd_mag (K := 1342) (Jvm.Free.Fl.Mag64.mono (Jvm.Free.Fl.l2d_mag _) (by decide)) (Jvm.Free.Fl.Mag64.mono mg_y20 (by decide)) (by decide)) (by decide)
  obtain ⟨_, T17, L17, X17, hQ17, st17⟩ := own_virtual X15 hx hZ hown (w36 hw) (w37 hw) (nfS hZ (w39 hw)) (w39 hw) (w38 hw) (w7 hw) (w40 hw) (by decide) (r_accrue_ALL l Z a0 hw [] b2 y2 (FP.l2d (p0.toInt64)) y12 (FP.l2d (p1.toInt64)) (FP.l2d (p2.toInt64)) st_ALL (FP.l2d (0 : Int64)) st_SPREAD_EXCLUSIVE T14.heap n0 (Nat.le_trans Z0 sz_0_5) f16 f18 Q14_0' ((own_nnof hy13.symm (Jvm.Free.Fl.Mag64.fin mg_y13 (by decide)).noNaN)) f19 f20 ((own_nnof hy3.symm (Jvm.Free.Fl.Mag64.fin mg_y3 (by decide)).noNaN)) ((own_nnof (own_cg2 (f := FP.dmul) hy13.symm hy3.symm hy14.symm) (Jvm.Free.Fl.Mag64.fin mg_y14 (by decide)).noNaN)) ((own_nnof (own_cg2 (f := FP.ddiv) (own_cg2 (f := FP.dmul) hy13.symm hy3.symm hy14.symm) rfl hy15.symm) (Jvm.Free.Fl.Mag64.fin mg_y15 (by decide)).noNaN)) ((own_nnof (own_cg2 (f := FP.dmul) (own_cg2 (f := FP.ddiv) (own_cg2 (f := FP.dmul) hy13.symm hy3.symm hy14.symm) rfl hy15.symm) rfl hy16.symm) (Jvm.Free.Fl.Mag64.fin mg_y16 (by decide)).noNaN)) f21 S_ALL f22 ((own_nnof (own_cg2 (f := FP.dmul) hy13.symm rfl hy17.symm) (Jvm.Free.Fl.Mag64.fin mg_y17 (by decide)).noNaN)) ((own_nnof (own_cg2 (f := FP.ddiv) (own_cg2 (f := FP.dmul) hy13.symm rfl hy17.symm) rfl hy18.symm) (Jvm.Free.Fl.Mag64.fin mg_y18 (by decide)).noNaN)) ((own_nnof (own_cg2 (f := FP.dmul) (own_cg2 (f := FP.ddiv) (own_cg2 (f := FP.dmul) hy13.symm rfl hy17.symm) rfl hy18.symm) rfl hy19.symm) (Jvm.Free.Fl.Mag64.fin mg_y19 (by decide)).noNaN)) Q14_1 S_SPREAD_EXCLUSIVE ne_st_ALL_st_SPREAD_EXCLUSIVE ((own_nnof (own_cg2 (f := FP.dadd) (own_cg2 (f := FP.dmul) (own_cg2 (f := FP.ddiv) (own_cg2 (f := FP.dmul) hy13.symm hy3.symm hy14.symm) rfl hy15.symm) rfl hy16.symm) (own_cg2 (f := FP.dmul) (own_cg2 (f := FP.ddiv) (own_cg2 (f := FP.dmul) hy13.symm rfl hy17.symm) rfl hy18.symm) rfl hy19.symm) hy20.symm) (Jvm.Free.Fl.Mag64.fin mg_y20 (by decide)).noNaN)) ((own_nnof (own_cg2 (f := FP.dadd) rfl (own_cg2 (f := FP.dadd) (own_cg2 (f := FP.dmul) (own_cg2 (f := FP.ddiv) (own_cg2 (f := FP.dmul) hy13.symm hy3.symm hy14.symm) rfl hy15.symm) rfl hy16.symm) (own_cg2 (f := FP.dmul) (own_cg2 (f := FP.ddiv) (own_cg2 (f := FP.dmul) hy13.symm rfl hy17.symm) rfl hy18.symm) rfl hy19.symm) hy20.symm) hy21.symm) (Jvm.Free.Fl.Mag64.fin mg_y21 (by decide)).noNaN)) (Nat.le_trans Z0 ge_b2)) e15 f16 (W := 0) (by decide) (g := (mkF m 227 #[vi p0, vi p1, vi p2, vi p3, vi p4, vi p5, vi 0, vr st_ALL, vi 0, vi 1, .val (.double (FP.l2d (p0.toInt64))), .second, .val (.double (FP.l2d (p1.toInt64))), .second, .val (.double (FP.l2d (p2.toInt64))), .second, .val (.double y1), .second, .val (.double y2), .second, vr b2, vi 1, .val (.double y10), .second, .val (.double y12), .second, .unset, .unset, .unset, .unset, .unset, .unset, .unset, .unset] [(.double y2), (.ref b2)])) rfl hml.symm (argsL := [(.double y2)]) (rest := []) (lenOf pd_4 rfl) rfl rfl (own_wr rfl rfl) (hb hby at_227)
  obtain ⟨rfl, N17q, K17, Q17_0⟩ := hQ17
  have N17 := Fr.app N15 N17q
  have Q17_0' : Fd5 Z T17.heap b2 (.double y21) := Eq.mp (congrArg (fun z => Fd5 Z T17.heap b2 (Value.double z)) (own_cg2 (f := FP.dadd) rfl (own_cg2 (f := FP.dadd) (own_cg2 (f := FP.dmul) (own_cg2 (f := FP.ddiv) (own_cg2 (f := FP.dmul) hy13.symm hy3.symm hy14.symm) rfl hy15.symm) rfl hy16.symm) (own_cg2 (f := FP.dmul) (own_cg2 (f := FP.ddiv) (own_cg2 (f := FP.dmul) hy13.symm rfl hy17.symm) rfl hy18.symm) rfl hy19.symm) hy20.symm) hy21.symm)) Q17_0
  have f24 := (kFld K17 Q14_0' (nwS (Or.inr (sn_13 hw)) nw0))
  obtain ⟨y22, hy22⟩ : ∃ z, z = (FP.dadd y12 y21) := ⟨_, rfl⟩
  have mg_y22 := own_mgk (K := 1346) hy22 (Jvm.Free.Fl.dadd_mag (K := 1344) (Jvm.Free.Fl.Mag64.mono mg_y12 (by decide)) (Jvm.Free.Fl.Mag64.mono mg_y21 (by decide)) (by decide)) (by decide)
  have f25 := (kExa K17 f16)
  have sz_0_6 := (Nat.le_trans sz_0_5 K17.1)
  obtain ⟨_, T23, L23, X23, hQ23, st23⟩ := own_virtual X17 hx hZ hown (w22 hw) (w23 hw) (nfS hZ (w25 hw)) (w25 hw) (w24 hw) (w7 hw) (w26 hw) (by decide) (r_compound l Z a0 hw [] b2 y12 y21 T17.heap n0 (Nat.le_trans Z0 sz_0_6) f24 Q17_0' ((own_nnof hy22.symm (Jvm.Free.Fl.Mag64.fin mg_y22 (by decide)).noNaN)) f25 (Nat.le_trans Z0 ge_b2)) rfl f25 (W := 0) (by decide) (g := (mkF m 264 #[vi p0, vi p1, vi p2, vi p3, vi p4, vi p5, vi 0, vr st_ALL, vi 0, vi 1, .val (.double (FP.l2d (p0.toInt64))), .second, .val (.double (FP.l2d (p1.toInt64))), .second, .val (.double (FP.l2d (p2.toInt64))), .second, .val (.double y1), .second, .val (.double y2), .second, vr b2, vi 1, .val (.double y10), .second, .val (.double y12), .second, .val (.double y20), .second, .val (.double y13), .second, .val (.double y20), .second, .unset, .unset] [(.ref b2)])) rfl hml.symm (argsL := []) (rest := []) (lenOf pd_3 rfl) rfl rfl (own_wr rfl rfl) (hb hby at_264)
  obtain ⟨rfl, N23q, K23, Q23_0, Q23_1⟩ := hQ23
  have N23 := Fr.app N17 N23q
  have Q23_0' : Fd4 Z T23.heap b2 (.double y22) := Eq.mp (congrArg (fun z => Fd4 Z T23.heap b2 (Value.double z)) hy22.symm) Q23_0
  have sz_0_7 := (Nat.le_trans sz_0_6 K23.1)
  have f27 := (kExa K23 f25)
  obtain ⟨_, T26, L26, X26, hQ26, st26⟩ := own_virtual X23 hx hZ hown (w31 hw) (w32 hw) (nfS hZ (w34 hw)) (w34 hw) (w33 hw) (w7 hw) (w35 hw) (by decide) (r_compounded l Z a0 hw [] b2 y22 T23.heap n0 (Nat.le_trans Z0 sz_0_7) Q23_0') rfl f27 (W := 0) (by decide) (g := (mkF m 269 #[vi p0, vi p1, vi p2, vi p3, vi p4, vi p5, vi 0, vr st_ALL, vi 0, vi 1, .val (.double (FP.l2d (p0.toInt64))), .second, .val (.double (FP.l2d (p1.toInt64))), .second, .val (.double (FP.l2d (p2.toInt64))), .second, .val (.double y1), .second, .val (.double y2), .second, vr b2, vi 1, .val (.double y10), .second, .val (.double y12), .second, .val (.double y20), .second, .val (.double y13), .second, .val (.double y20), .second, .unset, .unset] [(.ref b2)])) rfl hml.symm (argsL := []) (rest := []) (lenOf pd_0 rfl) rfl rfl (own_wr rfl rfl) (hb hby at_269)
  obtain ⟨rfl, N26q, e26⟩ := hQ26
  have N26 := Fr.app N23 N26q
  obtain ⟨y23, hy23⟩ : ∃ z, z = (FP.dadd y12 y20) := ⟨_, rfl⟩
  have mg_y23 := own_mgk (K := 1344) hy23 (Jvm.Free.Fl.dadd_mag (K := 1342) (Jvm.Free.Fl.Mag64.mono mg_y12 (by decide)) (Jvm.Free.Fl.Mag64.mono mg_y20 (by decide)) (by decide)) (by decide)
  have f29 := (kFld K23 (kFld K17 f18 (nwS (Or.inr (sn_22 hw)) nw0)) (nwS (Or.inr (sn_23 hw)) (nwS (Or.inr (sn_22 hw)) nw0)))
  obtain ⟨y24, hy24⟩ : ∃ z, z = (FP.dadd (FP.l2d (p0.toInt64)) y22) := ⟨_, rfl⟩
  have mg_y24 := own_mgk (K := 1348) hy24 (Jvm.Free.Fl.dadd_mag (K := 1346) (Jvm.Free.Fl.Mag64.mono (Jvm.Free.Fl.l2d_mag _) (by decide)) (Jvm.Free.Fl.Mag64.mono mg_y22 (by decide)) (by decide)) (by decide)
  obtain ⟨_, T28, L28, X28, hQ28, st28⟩ := own_virtual X26 hx hZ hown (w53 hw) (w42 hw) (nfS hZ (w44 hw)) (w44 hw) (w43 hw) (w7 hw) (w45 hw) (by decide) (r_base l Z a0 hw [] b2 (FP.l2d (p0.toInt64)) y22 T23.heap n0 (Nat.le_trans Z0 sz_0_7) f29 Q23_0' ((own_nnof hy24.symm (Jvm.Free.Fl.Mag64.fin mg_y24 (by decide)).noNaN))) e26 f27 (W := 0) (by decide) (g := (mkF m 304 #[vi p0, vi p1, vi p2, vi p3, vi p4, vi p5, vi 0, vr st_ALL, vi 0, vi 1, .val (.double (FP.l2d (p0.toInt64))), .second, .val (.double (FP.l2d (p1.toInt64))), .second, .val (.double (FP.l2d (p2.toInt64))), .second, .val (.double y1), .second, .val (.double y2), .second, vr b2, vi 1, .val (.double y10), .second, .val (.double y12), .second, .val (.double y20), .second, .val (.double y13), .second, .val (.double y20), .second, .val (.double y22), .second] [(.ref b2)])) rfl hml.symm (argsL := []) (rest := []) (lenOf pd_0 rfl) rfl rfl (own_wr rfl rfl) (hb hby at_304)
  obtain ⟨rfl, N28q, e28⟩ := hQ28
  have N28 := Fr.app N26 N28q
  refine ⟨T28, _, some (.int 1), X28, (fun h => by cases h <;> rfl), ?_, fun fs hr => ?_⟩
  · show Q_law n0 _ _
    exact ⟨rfl, N28⟩
  · refine t_iload 2 X0.here hx (hb hby at_0) rfl rfl ?_
    refine X0.ldcInt hx hown (mvT hZ (w0 hw)) (g := (mkF m 2 #[vi p0, vi p1, vi p2, vi p3, vi p4, vi p5, .unset, .unset, .unset, .unset, .unset, .unset, .unset, .unset, .unset, .unset, .unset, .unset, .unset, .unset, .unset, .unset, .unset, .unset, .unset, .unset, .unset, .unset, .unset, .unset, .unset, .unset, .unset, .unset] [(.int p5)])) rfl (hb hby at_2) _ ?_
    refine t_iand 5 X0.here hx (hb hby at_4) rfl rfl ?_
    refine t_iconst 6 (r := 3) X0.here hx (hb hby at_5) (by decide) rfl ?_
    refine t_irem 7 (r := 0) X0.here hx (hb hby at_6) (by decide) hk rfl ?_
    refine t_istore (pc' := 9) (L' := #[vi p0, vi p1, vi p2, vi p3, vi p4, vi p5, vi 0, .unset, .unset, .unset, .unset, .unset, .unset, .unset, .unset, .unset, .unset, .unset, .unset, .unset, .unset, .unset, .unset, .unset, .unset, .unset, .unset, .unset, .unset, .unset, .unset, .unset, .unset, .unset]) X0.here hx (hb hby at_7) rfl rfl ?_
    refine t_iload 11 X0.here hx (hb hby at_9) rfl rfl ?_
    refine t_ifNo 14 X0.here hx (hb hby at_11) (by decide) rfl ?_
    refine st1 _ ?_
    refine t_goto (pc := 17) 35 X1.here hx (hb hby at_17) (by decide) (by decide) ?_
    refine t_astore (pc' := 37) (L' := #[vi p0, vi p1, vi p2, vi p3, vi p4, vi p5, vi 0, vr st_ALL, .unset, .unset, .unset, .unset, .unset, .unset, .unset, .unset, .unset, .unset, .unset, .unset, .unset, .unset, .unset, .unset, .unset, .unset, .unset, .unset, .unset, .unset, .unset, .unset, .unset, .unset]) X1.here hx (hb hby at_35) rfl rfl rfl ?_
    refine t_iload 39 X1.here hx (hb hby at_37) rfl rfl ?_
    refine t_iconst 40 (r := 2) X1.here hx (hb hby at_39) (by decide) rfl ?_
    refine t_icmpYes (pc := 40) 47 X1.here hx (hb hby at_40) (by decide) (by decide) (by decide) ?_
    refine t_iconst 48 (r := 0) X1.here hx (hb hby at_47) (by decide) rfl ?_
    refine t_istore (pc' := 50) (L' := #[vi p0, vi p1, vi p2, vi p3, vi p4, vi p5, vi 0, vr st_ALL, vi 0, .unset, .unset, .unset, .unset, .unset, .unset, .unset, .unset, .unset, .unset, .unset, .unset, .unset, .unset, .unset, .unset, .unset, .unset, .unset, .unset, .unset, .unset, .unset, .unset, .unset]) X1.here hx (hb hby at_48) rfl rfl ?_
    refine t_iload 52 X1.here hx (hb hby at_50) rfl rfl ?_
    refine t_iconst 53 (r := 4) X1.here hx (hb hby at_52) (by decide) rfl ?_
    refine t_iushr 54 X1.here hx (hb hby at_53) rfl rfl ?_
    refine t_iconst 55 (r := 1) X1.here hx (hb hby at_54) (by decide) rfl ?_
    refine t_iand 56 (r := 1) X1.here hx (hb hby at_55) hf1 rfl ?_
    refine t_ifNo 59 X1.here hx (hb hby at_56) (by decide) rfl ?_
    refine t_iconst 60 (r := 1) X1.here hx (hb hby at_59) (by decide) rfl ?_
    refine t_goto (pc := 60) 64 X1.here hx (hb hby at_60) (by decide) (by decide) ?_
    refine t_istore (pc' := 66) (L' := #[vi p0, vi p1, vi p2, vi p3, vi p4, vi p5, vi 0, vr st_ALL, vi 0, vi 1, .unset, .unset, .unset, .unset, .unset, .unset, .unset, .unset, .unset, .unset, .unset, .unset, .unset, .unset, .unset, .unset, .unset, .unset, .unset, .unset, .unset, .unset, .unset, .unset]) X1.here hx (hb hby at_64) rfl rfl ?_
    refine t_iloadN 67 X1.here hx (hb hby at_66) rfl rfl ?_
    refine t_i2d 68 (r := (FP.l2d (p0.toInt64))) X1.here hx (hb hby at_67) (i2d_w _) rfl ?_
    refine t_dstore (pc' := 70) (L' := #[vi p0, vi p1, vi p2, vi p3, vi p4, vi p5, vi 0, vr st_ALL, vi 0, vi 1, .val (.double (FP.l2d (p0.toInt64))), .second, .unset, .unset, .unset, .unset, .unset, .unset, .unset, .unset, .unset, .unset, .unset, .unset, .unset, .unset, .unset, .unset, .unset, .unset, .unset, .unset, .unset, .unset]) X1.here hx (hb hby at_68) rfl rfl ?_
    refine t_iloadN 71 X1.here hx (hb hby at_70) rfl rfl ?_
    refine t_i2d 72 (r := (FP.l2d (p1.toInt64))) X1.here hx (hb hby at_71) (i2d_w _) rfl ?_
    refine t_dstore (pc' := 74) (L' := #[vi p0, vi p1, vi p2, vi p3, vi p4, vi p5, vi 0, vr st_ALL, vi 0, vi 1, .val (.double (FP.l2d (p0.toInt64))), .second, .val (.double (FP.l2d (p1.toInt64))), .second, .unset, .unset, .unset, .unset, .unset, .unset, .unset, .unset, .unset, .unset, .unset, .unset, .unset, .unset, .unset, .unset, .unset, .unset, .unset, .unset]) X1.here hx (hb hby at_72) rfl rfl ?_
    refine t_iloadN 75 X1.here hx (hb hby at_74) rfl rfl ?_
    refine t_i2d 76 (r := (FP.l2d (p2.toInt64))) X1.here hx (hb hby at_75) (i2d_w _) rfl ?_
    refine t_dstore (pc' := 78) (L' := #[vi p0, vi p1, vi p2, vi p3, vi p4, vi p5, vi 0, vr st_ALL, vi 0, vi 1, .val (.double (FP.l2d (p0.toInt64))), .second, .val (.double (FP.l2d (p1.toInt64))), .second, .val (.double (FP.l2d (p2.toInt64))), .second, .unset, .unset, .unset, .unset, .unset, .unset, .unset, .unset, .unset, .unset, .unset, .unset, .unset, .unset, .unset, .unset, .unset, .unset]) X1.here hx (hb hby at_76) rfl rfl ?_
    refine t_iloadN 79 X1.here hx (hb hby at_78) rfl rfl ?_
    refine t_sipush 82 (r := 1023) X1.here hx (hb hby at_79) (by decide) rfl ?_
    refine t_iand 83 X1.here hx (hb hby at_82) rfl rfl ?_
    refine t_i2d 84 (r := (FP.l2d ((p3 &&& (1023 : Int32)).toInt64))) X1.here hx (hb hby at_83) (i2d_w _) rfl ?_
    refine X1.ldc2DoubleC hx hown (mvT hZ (w4 hw)) (g := (mkF m 84 #[vi p0, vi p1, vi p2, vi p3, vi p4, vi p5, vi 0, vr st_ALL, vi 0, vi 1, .val (.double (FP.l2d (p0.toInt64))), .second, .val (.double (FP.l2d (p1.toInt64))), .second, .val (.double (FP.l2d (p2.toInt64))), .second, .unset, .unset, .unset, .unset, .unset, .unset, .unset, .unset, .unset, .unset, .unset, .unset, .unset, .unset, .unset, .unset, .unset, .unset] [(.double (FP.l2d ((p3 &&& (1023 : Int32)).toInt64)))])) rfl (hb hby at_84) _ ?_
    refine t_ddiv 88 (r := (FP.ddiv (FP.l2d ((p3 &&& (1023 : Int32)).toInt64)) (4643211215818981376 : UInt64))) X1.here hx (hb hby at_87) (own_nnof hy1.symm (Jvm.Free.Fl.Mag64.fin mg_y1 (by decide)).noNaN) rfl rfl ?_
    refine castTop (g' := (mkF m 88 #[vi p0, vi p1, vi p2, vi p3, vi p4, vi p5, vi 0, vr st_ALL, vi 0, vi 1, .val (.double (FP.l2d (p0.toInt64))), .second, .val (.double (FP.l2d (p1.toInt64))), .second, .val (.double (FP.l2d (p2.toInt64))), .second, .unset, .unset, .unset, .unset, .unset, .unset, .unset, .unset, .unset, .unset, .unset, .unset, .unset, .unset, .unset, .unset, .unset, .unset] [(.double y1)])) (congrArg (fun z => mkF m 88 #[vi p0, vi p1, vi p2, vi p3, vi p4, vi p5, vi 0, vr st_ALL, vi 0, vi 1, .val (.double (FP.l2d (p0.toInt64))), .second, .val (.double (FP.l2d (p1.toInt64))), .second, .val (.double (FP.l2d (p2.toInt64))), .second, .unset, .unset, .unset, .unset, .unset, .unset, .unset, .unset, .unset, .unset, .unset, .unset, .unset, .unset, .unset, .unset, .unset, .unset] (Value.double z :: [])) hy1.symm) ?_
    refine t_dstore (pc' := 90) (L' := #[vi p0, vi p1, vi p2, vi p3, vi p4, vi p5, vi 0, vr st_ALL, vi 0, vi 1, .val (.double (FP.l2d (p0.toInt64))), .second, .val (.double (FP.l2d (p1.toInt64))), .second, .val (.double (FP.l2d (p2.toInt64))), .second, .val (.double y1), .second, .unset, .unset, .unset, .unset, .unset, .unset, .unset, .unset, .unset, .unset, .unset, .unset, .unset, .unset, .unset, .unset]) X1.here hx (hb hby at_88) rfl rfl ?_
    refine t_iload 92 X1.here hx (hb hby at_90) rfl rfl ?_
    refine t_sipush 95 (r := 1023) X1.here hx (hb hby at_92) (by decide) rfl ?_
    refine t_iand 96 X1.here hx (hb hby at_95) rfl rfl ?_
    refine t_i2d 97 (r := (FP.l2d ((p4 &&& (1023 : Int32)).toInt64))) X1.here hx (hb hby at_96) (i2d_w _) rfl ?_
    refine X1.ldc2DoubleC hx hown (mvT hZ (w4 hw)) (g := (mkF m 97 #[vi p0, vi p1, vi p2, vi p3, vi p4, vi p5, vi 0, vr st_ALL, vi 0, vi 1, .val (.double (FP.l2d (p0.toInt64))), .second, .val (.double (FP.l2d (p1.toInt64))), .second, .val (.double (FP.l2d (p2.toInt64))), .second, .val (.double y1), .second, .unset, .unset, .unset, .unset, .unset, .unset, .unset, .unset, .unset, .unset, .unset, .unset, .unset, .unset, .unset, .unset] [(.double (FP.l2d ((p4 &&& (1023 : Int32)).toInt64)))])) rfl (hb hby at_97) _ ?_
    refine t_ddiv 101 (r := (FP.ddiv (FP.l2d ((p4 &&& (1023 : Int32)).toInt64)) (4643211215818981376 : UInt64))) X1.here hx (hb hby at_100) (own_nnof hy2.symm (Jvm.Free.Fl.Mag64.fin mg_y2 (by decide)).noNaN) rfl rfl ?_
    refine castTop (g' := (mkF m 101 #[vi p0, vi p1, vi p2, vi p3, vi p4, vi p5, vi 0, vr st_ALL, vi 0, vi 1, .val (.double (FP.l2d (p0.toInt64))), .second, .val (.double (FP.l2d (p1.toInt64))), .second, .val (.double (FP.l2d (p2.toInt64))), .second, .val (.double y1), .second, .unset, .unset, .unset, .unset, .unset, .unset, .unset, .unset, .unset, .unset, .unset, .unset, .unset, .unset, .unset, .unset] [(.double y2)])) (congrArg (fun z => mkF m 101 #[vi p0, vi p1, vi p2, vi p3, vi p4, vi p5, vi 0, vr st_ALL, vi 0, vi 1, .val (.double (FP.l2d (p0.toInt64))), .second, .val (.double (FP.l2d (p1.toInt64))), .second, .val (.double (FP.l2d (p2.toInt64))), .second, .val (.double y1), .second, .unset, .unset, .unset, .unset, .unset, .unset, .unset, .unset, .unset, .unset, .unset, .unset, .unset, .unset, .unset, .unset] (Value.double z :: [])) hy2.symm) ?_
    refine t_dstore (pc' := 103) (L' := #[vi p0, vi p1, vi p2, vi p3, vi p4, vi p5, vi 0, vr st_ALL, vi 0, vi 1, .val (.double (FP.l2d (p0.toInt64))), .second, .val (.double (FP.l2d (p1.toInt64))), .second, .val (.double (FP.l2d (p2.toInt64))), .second, .val (.double y1), .second, .val (.double y2), .second, .unset, .unset, .unset, .unset, .unset, .unset, .unset, .unset, .unset, .unset, .unset, .unset, .unset, .unset]) X1.here hx (hb hby at_101) rfl rfl ?_
    refine st2 _ ?_
    refine t_dup 107 X2.here hx (hb hby at_106) rfl rfl ?_
    refine t_dload 109 X2.here hx (hb hby at_107) rfl rfl ?_
    refine t_dload 111 X2.here hx (hb hby at_109) rfl rfl ?_
    refine t_dload 113 X2.here hx (hb hby at_111) rfl rfl ?_
    refine t_aload 115 X2.here hx (hb hby at_113) rfl rfl rfl ?_
    refine st3 _ ?_
    refine t_astore (pc' := 120) (L' := #[vi p0, vi p1, vi p2, vi p3, vi p4, vi p5, vi 0, vr st_ALL, vi 0, vi 1, .val (.double (FP.l2d (p0.toInt64))), .second, .val (.double (FP.l2d (p1.toInt64))), .second, .val (.double (FP.l2d (p2.toInt64))), .second, .val (.double y1), .second, .val (.double y2), .second, vr b2, .unset, .unset, .unset, .unset, .unset, .unset, .unset, .unset, .unset, .unset, .unset, .unset, .unset]) X3.here hx (hb hby at_118) rfl rfl rfl ?_
    refine t_iconst 121 (r := 1) X3.here hx (hb hby at_120) (by decide) rfl ?_
    refine t_istore (pc' := 123) (L' := #[vi p0, vi p1, vi p2, vi p3, vi p4, vi p5, vi 0, vr st_ALL, vi 0, vi 1, .val (.double (FP.l2d (p0.toInt64))), .second, .val (.double (FP.l2d (p1.toInt64))), .second, .val (.double (FP.l2d (p2.toInt64))), .second, .val (.double y1), .second, .val (.double y2), .second, vr b2, vi 1, .unset, .unset, .unset, .unset, .unset, .unset, .unset, .unset, .unset, .unset, .unset, .unset]) X3.here hx (hb hby at_121) rfl rfl ?_
    refine t_dconst0 124 (r := (FP.l2d (0 : Int64))) X3.here hx (hb hby at_123) own_dconst0 rfl ?_
    refine t_dstore (pc' := 126) (L' := #[vi p0, vi p1, vi p2, vi p3, vi p4, vi p5, vi 0, vr st_ALL, vi 0, vi 1, .val (.double (FP.l2d (p0.toInt64))), .second, .val (.double (FP.l2d (p1.toInt64))), .second, .val (.double (FP.l2d (p2.toInt64))), .second, .val (.double y1), .second, .val (.double y2), .second, vr b2, vi 1, .val (.double (FP.l2d (0 : Int64))), .second, .unset, .unset, .unset, .unset, .unset, .unset, .unset, .unset, .unset, .unset]) X3.here hx (hb hby at_124) rfl rfl ?_
    refine t_iload 128 X3.here hx (hb hby at_126) rfl rfl ?_
    refine t_ifNo 131 X3.here hx (hb hby at_128) (by decide) rfl ?_
    refine t_aload 133 X3.here hx (hb hby at_131) rfl rfl rfl ?_
    refine t_dload 135 X3.here hx (hb hby at_133) rfl rfl ?_
    refine st4 _ ?_
    refine castTop (g' := (mkF m 138 #[vi p0, vi p1, vi p2, vi p3, vi p4, vi p5, vi 0, vr st_ALL, vi 0, vi 1, .val (.double (FP.l2d (p0.toInt64))), .second, .val (.double (FP.l2d (p1.toInt64))), .second, .val (.double (FP.l2d (p2.toInt64))), .second, .val (.double y1), .second, .val (.double y2), .second, vr b2, vi 1, .val (.double (FP.l2d (0 : Int64))), .second, .unset, .unset, .unset, .unset, .unset, .unset, .unset, .unset, .unset, .unset] [(.double y10)])) (congrArg (fun z => mkF m 138 #[vi p0, vi p1, vi p2, vi p3, vi p4, vi p5, vi 0, vr st_ALL, vi 0, vi 1, .val (.double (FP.l2d (p0.toInt64))), .second, .val (.double (FP.l2d (p1.toInt64))), .second, .val (.double (FP.l2d (p2.toInt64))), .second, .val (.double y1), .second, .val (.double y2), .second, vr b2, vi 1, .val (.double (FP.l2d (0 : Int64))), .second, .unset, .unset, .unset, .unset, .unset, .unset, .unset, .unset, .unset, .unset] (Value.double z :: [])) (own_cg2 (f := FP.dadd) (own_cg2 (f := FP.dmul) (own_cg2 (f := FP.ddiv) (own_cg2 (f := FP.dmul) (own_l2dz _) hy3.symm hy4.symm) rfl hy5.symm) rfl hy6.symm) (own_cg2 (f := FP.dmul) (own_cg2 (f := FP.ddiv) (own_cg2 (f := FP.dmul) (own_l2dz _) rfl hy7.symm) rfl hy8.symm) rfl hy9.symm) hy10.symm)) ?_
    refine t_dstore (pc' := 140) (L' := #[vi p0, vi p1, vi p2, vi p3, vi p4, vi p5, vi 0, vr st_ALL, vi 0, vi 1, .val (.double (FP.l2d (p0.toInt64))), .second, .val (.double (FP.l2d (p1.toInt64))), .second, .val (.double (FP.l2d (p2.toInt64))), .second, .val (.double y1), .second, .val (.double y2), .second, vr b2, vi 1, .val (.double (FP.l2d (0 : Int64))), .second, .val (.double y10), .second, .unset, .unset, .unset, .unset, .unset, .unset, .unset, .unset]) X4.here hx (hb hby at_138) rfl rfl ?_
    refine t_iload 142 X4.here hx (hb hby at_140) rfl rfl ?_
    refine t_ifYes (pc := 142) 159 X4.here hx (hb hby at_142) (by decide) (by decide) (by decide) ?_
    refine t_dload 161 X4.here hx (hb hby at_159) rfl rfl ?_
    refine t_dstore (pc' := 163) (L' := #[vi p0, vi p1, vi p2, vi p3, vi p4, vi p5, vi 0, vr st_ALL, vi 0, vi 1, .val (.double (FP.l2d (p0.toInt64))), .second, .val (.double (FP.l2d (p1.toInt64))), .second, .val (.double (FP.l2d (p2.toInt64))), .second, .val (.double y1), .second, .val (.double y2), .second, vr b2, vi 1, .val (.double y10), .second, .val (.double y10), .second, .unset, .unset, .unset, .unset, .unset, .unset, .unset, .unset]) X4.here hx (hb hby at_161) rfl rfl ?_
    refine t_aload 165 X4.here hx (hb hby at_163) rfl rfl rfl ?_
    refine st9 _ ?_
    refine t_aload 170 X9.here hx (hb hby at_168) rfl rfl rfl ?_
    refine st12 _ ?_
    refine t_dstore (pc' := 175) (L' := #[vi p0, vi p1, vi p2, vi p3, vi p4, vi p5, vi 0, vr st_ALL, vi 0, vi 1, .val (.double (FP.l2d (p0.toInt64))), .second, .val (.double (FP.l2d (p1.toInt64))), .second, .val (.double (FP.l2d (p2.toInt64))), .second, .val (.double y1), .second, .val (.double y2), .second, vr b2, vi 1, .val (.double y10), .second, .val (.double y12), .second, .unset, .unset, .unset, .unset, .unset, .unset, .unset, .unset]) X12.here hx (hb hby at_173) rfl rfl ?_
    refine t_iload 177 X12.here hx (hb hby at_175) rfl rfl ?_
    refine t_ifNo 180 X12.here hx (hb hby at_177) (by decide) rfl ?_
    refine t_dload 182 X12.here hx (hb hby at_180) rfl rfl ?_
    refine t_dload 184 X12.here hx (hb hby at_182) rfl rfl ?_
    refine t_dcmp 185 (r := 0) X12.here hx (hb hby at_184) (by rw [hy12, hy11]; exact own_cmp00 ((Jvm.Free.Fl.Mag64.fin mg_y10 (by decide)).noNaN) _) rfl ?_
    refine t_ifNo 188 X12.here hx (hb hby at_185) (by decide) rfl ?_
    refine t_iconst 189 (r := 1) X12.here hx (hb hby at_188) (by decide) rfl ?_
    refine t_goto (pc := 189) 193 X12.here hx (hb hby at_189) (by decide) (by decide) ?_
    refine t_istore (pc' := 195) (L' := #[vi p0, vi p1, vi p2, vi p3, vi p4, vi p5, vi 0, vr st_ALL, vi 0, vi 1, .val (.double (FP.l2d (p0.toInt64))), .second, .val (.double (FP.l2d (p1.toInt64))), .second, .val (.double (FP.l2d (p2.toInt64))), .second, .val (.double y1), .second, .val (.double y2), .second, vr b2, vi 1, .val (.double y10), .second, .val (.double y12), .second, .unset, .unset, .unset, .unset, .unset, .unset, .unset, .unset]) X12.here hx (hb hby at_193) rfl rfl ?_
    refine t_aload 197 X12.here hx (hb hby at_195) rfl rfl rfl ?_
    refine st14 _ ?_
    refine t_iload 202 X14.here hx (hb hby at_200) rfl rfl ?_
    refine t_ifNo 205 X14.here hx (hb hby at_202) (by decide) rfl ?_
    refine t_aload 207 X14.here hx (hb hby at_205) rfl rfl rfl ?_
    refine st15 _ ?_
    refine t_dload 212 X15.here hx (hb hby at_210) rfl rfl ?_
    refine t_dcmp 213 (r := 0) X15.here hx (hb hby at_212) (dcmpV_self ((Jvm.Free.Fl.Mag64.fin mg_y12 (by decide)).noNaN) _) rfl ?_
    refine t_ifNo 216 X15.here hx (hb hby at_213) (by decide) rfl ?_
    refine t_iconst 217 (r := 1) X15.here hx (hb hby at_216) (by decide) rfl ?_
    refine t_goto (pc := 217) 221 X15.here hx (hb hby at_217) (by decide) (by decide) ?_
    refine t_istore (pc' := 223) (L' := #[vi p0, vi p1, vi p2, vi p3, vi p4, vi p5, vi 0, vr st_ALL, vi 0, vi 1, .val (.double (FP.l2d (p0.toInt64))), .second, .val (.double (FP.l2d (p1.toInt64))), .second, .val (.double (FP.l2d (p2.toInt64))), .second, .val (.double y1), .second, .val (.double y2), .second, vr b2, vi 1, .val (.double y10), .second, .val (.double y12), .second, .unset, .unset, .unset, .unset, .unset, .unset, .unset, .unset]) X15.here hx (hb hby at_221) rfl rfl ?_
    refine t_aload 225 X15.here hx (hb hby at_223) rfl rfl rfl ?_
    refine t_dload 227 X15.here hx (hb hby at_225) rfl rfl ?_
    refine st17 _ ?_
    refine castTop (g' := (mkF m 230 #[vi p0, vi p1, vi p2, vi p3, vi p4, vi p5, vi 0, vr st_ALL, vi 0, vi 1, .val (.double (FP.l2d (p0.toInt64))), .second, .val (.double (FP.l2d (p1.toInt64))), .second, .val (.double (FP.l2d (p2.toInt64))), .second, .val (.double y1), .second, .val (.double y2), .second, vr b2, vi 1, .val (.double y10), .second, .val (.double y12), .second, .unset, .unset, .unset, .unset, .unset, .unset, .unset, .unset] [(.double y20)])) (congrArg (fun z => mkF m 230 #[vi p0, vi p1, vi p2, vi p3, vi p4, vi p5, vi 0, vr st_ALL, vi 0, vi 1, .val (.double (FP.l2d (p0.toInt64))), .second, .val (.double (FP.l2d (p1.toInt64))), .second, .val (.double (FP.l2d (p2.toInt64))), .second, .val (.double y1), .second, .val (.double y2), .second, vr b2, vi 1, .val (.double y10), .second, .val (.double y12), .second, .unset, .unset, .unset, .unset, .unset, .unset, .unset, .unset] (Value.double z :: [])) (own_cg2 (f := FP.dadd) (own_cg2 (f := FP.dmul) (own_cg2 (f := FP.ddiv) (own_cg2 (f := FP.dmul) hy13.symm hy3.symm hy14.symm) rfl hy15.symm) rfl hy16.symm) (own_cg2 (f := FP.dmul) (own_cg2 (f := FP.ddiv) (own_cg2 (f := FP.dmul) hy13.symm rfl hy17.symm) rfl hy18.symm) rfl hy19.symm) hy20.symm)) ?_
    refine t_dstore (pc' := 232) (L' := #[vi p0, vi p1, vi p2, vi p3, vi p4, vi p5, vi 0, vr st_ALL, vi 0, vi 1, .val (.double (FP.l2d (p0.toInt64))), .second, .val (.double (FP.l2d (p1.toInt64))), .second, .val (.double (FP.l2d (p2.toInt64))), .second, .val (.double y1), .second, .val (.double y2), .second, vr b2, vi 1, .val (.double y10), .second, .val (.double y12), .second, .val (.double y20), .second, .unset, .unset, .unset, .unset, .unset, .unset]) X17.here hx (hb hby at_230) rfl rfl ?_
    refine t_dload 234 X17.here hx (hb hby at_232) rfl rfl ?_
    refine t_dload 236 X17.here hx (hb hby at_234) rfl rfl ?_
    refine t_dadd 237 (r := (FP.dadd (FP.l2d (p0.toInt64)) y12)) X17.here hx (hb hby at_236) (own_nnof hy13.symm (Jvm.Free.Fl.Mag64.fin mg_y13 (by decide)).noNaN) rfl rfl ?_
    refine castTop (g' := (mkF m 237 #[vi p0, vi p1, vi p2, vi p3, vi p4, vi p5, vi 0, vr st_ALL, vi 0, vi 1, .val (.double (FP.l2d (p0.toInt64))), .second, .val (.double (FP.l2d (p1.toInt64))), .second, .val (.double (FP.l2d (p2.toInt64))), .second, .val (.double y1), .second, .val (.double y2), .second, vr b2, vi 1, .val (.double y10), .second, .val (.double y12), .second, .val (.double y20), .second, .unset, .unset, .unset, .unset, .unset, .unset] [(.double y13)])) (congrArg (fun z => mkF m 237 #[vi p0, vi p1, vi p2, vi p3, vi p4, vi p5, vi 0, vr st_ALL, vi 0, vi 1, .val (.double (FP.l2d (p0.toInt64))), .second, .val (.double (FP.l2d (p1.toInt64))), .second, .val (.double (FP.l2d (p2.toInt64))), .second, .val (.double y1), .second, .val (.double y2), .second, vr b2, vi 1, .val (.double y10), .second, .val (.double y12), .second, .val (.double y20), .second, .unset, .unset, .unset, .unset, .unset, .unset] (Value.double z :: [])) hy13.symm) ?_
    refine t_dstore (pc' := 239) (L' := #[vi p0, vi p1, vi p2, vi p3, vi p4, vi p5, vi 0, vr st_ALL, vi 0, vi 1, .val (.double (FP.l2d (p0.toInt64))), .second, .val (.double (FP.l2d (p1.toInt64))), .second, .val (.double (FP.l2d (p2.toInt64))), .second, .val (.double y1), .second, .val (.double y2), .second, vr b2, vi 1, .val (.double y10), .second, .val (.double y12), .second, .val (.double y20), .second, .val (.double y13), .second, .unset, .unset, .unset, .unset]) X17.here hx (hb hby at_237) rfl rfl ?_
    refine t_iload 241 X17.here hx (hb hby at_239) rfl rfl ?_
    refine t_ifYes (pc := 241) 258 X17.here hx (hb hby at_241) (by decide) (by decide) (by decide) ?_
    refine t_dload 260 X17.here hx (hb hby at_258) rfl rfl ?_
    refine t_dstore (pc' := 262) (L' := #[vi p0, vi p1, vi p2, vi p3, vi p4, vi p5, vi 0, vr st_ALL, vi 0, vi 1, .val (.double (FP.l2d (p0.toInt64))), .second, .val (.double (FP.l2d (p1.toInt64))), .second, .val (.double (FP.l2d (p2.toInt64))), .second, .val (.double y1), .second, .val (.double y2), .second, vr b2, vi 1, .val (.double y10), .second, .val (.double y12), .second, .val (.double y20), .second, .val (.double y13), .second, .val (.double y20), .second, .unset, .unset]) X17.here hx (hb hby at_260) rfl rfl ?_
    refine t_aload 264 X17.here hx (hb hby at_262) rfl rfl rfl ?_
    refine st23 _ ?_
    refine t_aload 269 X23.here hx (hb hby at_267) rfl rfl rfl ?_
    refine st26 _ ?_
    refine t_dstore (pc' := 274) (L' := #[vi p0, vi p1, vi p2, vi p3, vi p4, vi p5, vi 0, vr st_ALL, vi 0, vi 1, .val (.double (FP.l2d (p0.toInt64))), .second, .val (.double (FP.l2d (p1.toInt64))), .second, .val (.double (FP.l2d (p2.toInt64))), .second, .val (.double y1), .second, .val (.double y2), .second, vr b2, vi 1, .val (.double y10), .second, .val (.double y12), .second, .val (.double y20), .second, .val (.double y13), .second, .val (.double y20), .second, .val (.double y22), .second]) X26.here hx (hb hby at_272) rfl rfl ?_
    refine t_iload 276 X26.here hx (hb hby at_274) rfl rfl ?_
    refine t_ifNo 279 X26.here hx (hb hby at_276) (by decide) rfl ?_
    refine t_dload 281 X26.here hx (hb hby at_279) rfl rfl ?_
    refine t_dload 283 X26.here hx (hb hby at_281) rfl rfl ?_
    refine t_dload 285 X26.here hx (hb hby at_283) rfl rfl ?_
    refine t_dadd 286 (r := (FP.dadd y12 y20)) X26.here hx (hb hby at_285) (own_nnof hy23.symm (Jvm.Free.Fl.Mag64.fin mg_y23 (by decide)).noNaN) rfl rfl ?_
    refine castTop (g' := (mkF m 286 #[vi p0, vi p1, vi p2, vi p3, vi p4, vi p5, vi 0, vr st_ALL, vi 0, vi 1, .val (.double (FP.l2d (p0.toInt64))), .second, .val (.double (FP.l2d (p1.toInt64))), .second, .val (.double (FP.l2d (p2.toInt64))), .second, .val (.double y1), .second, .val (.double y2), .second, vr b2, vi 1, .val (.double y10), .second, .val (.double y12), .second, .val (.double y20), .second, .val (.double y13), .second, .val (.double y20), .second, .val (.double y22), .second] [(.double y23), (.double y22)])) (congrArg (fun z => mkF m 286 #[vi p0, vi p1, vi p2, vi p3, vi p4, vi p5, vi 0, vr st_ALL, vi 0, vi 1, .val (.double (FP.l2d (p0.toInt64))), .second, .val (.double (FP.l2d (p1.toInt64))), .second, .val (.double (FP.l2d (p2.toInt64))), .second, .val (.double y1), .second, .val (.double y2), .second, vr b2, vi 1, .val (.double y10), .second, .val (.double y12), .second, .val (.double y20), .second, .val (.double y13), .second, .val (.double y20), .second, .val (.double y22), .second] (Value.double z :: [(.double y22)])) hy23.symm) ?_
    refine t_dcmp 287 (r := 0) X26.here hx (hb hby at_286) (by rw [hy22, hy23, hy21]; exact own_cmp0y ((Jvm.Free.Fl.Mag64.fin mg_y12 (by decide)).noNaN) ((Jvm.Free.Fl.Mag64.fin mg_y20 (by decide)).noNaN) (by rw [← hy23]; exact (Jvm.Free.Fl.Mag64.fin mg_y23 (by decide)).noNaN) _) rfl ?_
    refine t_ifNo 290 X26.here hx (hb hby at_287) (by decide) rfl ?_
    refine t_iconst 291 (r := 1) X26.here hx (hb hby at_290) (by decide) rfl ?_
    refine t_goto (pc := 291) 295 X26.here hx (hb hby at_291) (by decide) (by decide) ?_
    refine t_istore (pc' := 297) (L' := #[vi p0, vi p1, vi p2, vi p3, vi p4, vi p5, vi 0, vr st_ALL, vi 0, vi 1, .val (.double (FP.l2d (p0.toInt64))), .second, .val (.double (FP.l2d (p1.toInt64))), .second, .val (.double (FP.l2d (p2.toInt64))), .second, .val (.double y1), .second, .val (.double y2), .second, vr b2, vi 1, .val (.double y10), .second, .val (.double y12), .second, .val (.double y20), .second, .val (.double y13), .second, .val (.double y20), .second, .val (.double y22), .second]) X26.here hx (hb hby at_295) rfl rfl ?_
    refine t_iload 299 X26.here hx (hb hby at_297) rfl rfl ?_
    refine t_ifNo 302 X26.here hx (hb hby at_299) (by decide) rfl ?_
    refine t_aload 304 X26.here hx (hb hby at_302) rfl rfl rfl ?_
    refine st28 _ ?_
    refine castTop (g' := (mkF m 307 #[vi p0, vi p1, vi p2, vi p3, vi p4, vi p5, vi 0, vr st_ALL, vi 0, vi 1, .val (.double (FP.l2d (p0.toInt64))), .second, .val (.double (FP.l2d (p1.toInt64))), .second, .val (.double (FP.l2d (p2.toInt64))), .second, .val (.double y1), .second, .val (.double y2), .second, vr b2, vi 1, .val (.double y10), .second, .val (.double y12), .second, .val (.double y20), .second, .val (.double y13), .second, .val (.double y20), .second, .val (.double y22), .second] [(.double y24)])) (congrArg (fun z => mkF m 307 #[vi p0, vi p1, vi p2, vi p3, vi p4, vi p5, vi 0, vr st_ALL, vi 0, vi 1, .val (.double (FP.l2d (p0.toInt64))), .second, .val (.double (FP.l2d (p1.toInt64))), .second, .val (.double (FP.l2d (p2.toInt64))), .second, .val (.double y1), .second, .val (.double y2), .second, vr b2, vi 1, .val (.double y10), .second, .val (.double y12), .second, .val (.double y20), .second, .val (.double y13), .second, .val (.double y20), .second, .val (.double y22), .second] (Value.double z :: [])) hy24.symm) ?_
    refine t_dload 309 X28.here hx (hb hby at_307) rfl rfl ?_
    refine t_dload 311 X28.here hx (hb hby at_309) rfl rfl ?_
    refine t_dadd 312 (r := (FP.dadd (FP.l2d (p0.toInt64)) y22)) X28.here hx (hb hby at_311) (own_nnof hy24.symm (Jvm.Free.Fl.Mag64.fin mg_y24 (by decide)).noNaN) rfl rfl ?_
    refine castTop (g' := (mkF m 312 #[vi p0, vi p1, vi p2, vi p3, vi p4, vi p5, vi 0, vr st_ALL, vi 0, vi 1, .val (.double (FP.l2d (p0.toInt64))), .second, .val (.double (FP.l2d (p1.toInt64))), .second, .val (.double (FP.l2d (p2.toInt64))), .second, .val (.double y1), .second, .val (.double y2), .second, vr b2, vi 1, .val (.double y10), .second, .val (.double y12), .second, .val (.double y20), .second, .val (.double y13), .second, .val (.double y20), .second, .val (.double y22), .second] [(.double y24), (.double y24)])) (congrArg (fun z => mkF m 312 #[vi p0, vi p1, vi p2, vi p3, vi p4, vi p5, vi 0, vr st_ALL, vi 0, vi 1, .val (.double (FP.l2d (p0.toInt64))), .second, .val (.double (FP.l2d (p1.toInt64))), .second, .val (.double (FP.l2d (p2.toInt64))), .second, .val (.double y1), .second, .val (.double y2), .second, vr b2, vi 1, .val (.double y10), .second, .val (.double y12), .second, .val (.double y20), .second, .val (.double y13), .second, .val (.double y20), .second, .val (.double y22), .second] (Value.double z :: [(.double y24)])) hy24.symm) ?_
    refine t_dcmp 313 (r := 0) X28.here hx (hb hby at_312) (dcmpV_self ((Jvm.Free.Fl.Mag64.fin mg_y24 (by decide)).noNaN) _) rfl ?_
    refine t_ifNo 316 X28.here hx (hb hby at_313) (by decide) rfl ?_
    refine t_iconst 317 (r := 1) X28.here hx (hb hby at_316) (by decide) rfl ?_
    refine t_goto (pc := 317) 321 X28.here hx (hb hby at_317) (by decide) (by decide) ?_
    refine t_istore (pc' := 323) (L' := #[vi p0, vi p1, vi p2, vi p3, vi p4, vi p5, vi 0, vr st_ALL, vi 0, vi 1, .val (.double (FP.l2d (p0.toInt64))), .second, .val (.double (FP.l2d (p1.toInt64))), .second, .val (.double (FP.l2d (p2.toInt64))), .second, .val (.double y1), .second, .val (.double y2), .second, vr b2, vi 1, .val (.double y10), .second, .val (.double y12), .second, .val (.double y20), .second, .val (.double y13), .second, .val (.double y20), .second, .val (.double y22), .second]) X28.here hx (hb hby at_321) rfl rfl ?_
    refine t_iload 325 X28.here hx (hb hby at_323) rfl rfl ?_
    exact retN X28 hx (t := .boolean) hret (by simp) (hb hby at_325) hr
def w60 (hw : HW Z a0) := ow 60 hw rfl
theorem ef_law_1_0 (p0 p1 p2 p3 p4 p5 : Int32) (m : MethodId) : entryFrame m #[(.int p0), (.int p1), (.int p2), (.int p3), (.int p4), (.int p5)] maxLocals = mkF m 0 #[.val (.int p0), .val (.int p1), .val (.int p2), .val (.int p3), .val (.int p4), .val (.int p5), .unset, .unset, .unset, .unset, .unset, .unset, .unset, .unset, .unset, .unset, .unset, .unset, .unset, .unset, .unset, .unset, .unset, .unset, .unset, .unset, .unset, .unset, .unset, .unset, .unset, .unset, .unset, .unset] [] := by first | (simp [entryFrame, mkF, argsToLocals, Value.category, maxLocals]; done) | rfl
set_option maxRecDepth 65536 in
set_option maxHeartbeats 40000000 in
theorem law_1_0 (l : Launch) (Z : State) (a0 : Array Value) (hw : HW Z a0) (ws : List Jvm.Cond) (p0 p1 p2 p3 p4 p5 : Int32) (st_ALL st_FLAT st_SPREAD_EXCLUSIVE : Addr) (h0 : Heap) (n0 : Nat) (Z0 : n0 ≤ h0.size) (hk : ((p5 &&& (2147483647 : Int32)) - ((p5 &&& (2147483647 : Int32)) / (3 : Int32)) * (3 : Int32)) = (1 : Int32)) (hf1 : (((p5.toUInt32 >>> ((4 : Int32) &&& 31).toUInt32).toInt32) &&& (1 : Int32)) = (0 : Int32)) (S_FLAT : Sta Z Z.heap "com/example/rivulet/rivulet/instrument/CompoundMethod" "FLAT" "Lcom/example/rivulet/rivulet/instrument/CompoundMethod;" (.ref st_FLAT)) (O0 : Old Z n0 h0) (S_ALL : Sta Z Z.heap "com/example/rivulet/rivulet/instrument/CompoundMethod" "ALL" "Lcom/example/rivulet/rivulet/instrument/CompoundMethod;" (.ref st_ALL)) (S_SPREAD_EXCLUSIVE : Sta Z Z.heap "com/example/rivulet/rivulet/instrument/CompoundMethod" "SPREAD_EXCLUSIVE" "Lcom/example/rivulet/rivulet/instrument/CompoundMethod;" (.ref st_SPREAD_EXCLUSIVE)) (ne_st_ALL_st_FLAT : st_ALL ≠ st_FLAT) (ne_st_FLAT_st_SPREAD_EXCLUSIVE : st_FLAT ≠ st_SPREAD_EXCLUSIVE) :
    MetFree l x (head1 (Jvm.Cond.code x code maxLocals ret :: ws) room_1) (fun a U => a = #[(.int p0), (.int p1), (.int p2), (.int p3), (.int p4), (.int p5)] ∧ Z.Warmed39 U.vm ∧ U.heap = h0) (fun _ _ _ _ _ => True) (fun _ U o U' => ∃ v L, o = .returned v ∧ Q_law n0 v L ∧ FrameEnd U o U' L 16 128) := by
  refine own_law (y := x) (k := 1) (n := 6) (plainFor_of_name pn_AccrualCompoundPinLaw114) (ef_law_1_0 p0 p1 p2 p3 p4 p5) (by decide) (by decide) ?_
  intro p e s m below meth c s₁ hx hby hml hown hnm hret hZ hh e0 X0
  have N0 := Fr.nil n0
  obtain ⟨T1, X1, e1, st1⟩ := getS2 X0 hx hZ hown (host := "") (Or.inl (w60 hw)) Via.refl e0 (Sta.ext O0.2 S_FLAT) (g := (mkF m 26 #[vi p0, vi p1, vi p2, vi p3, vi p4, vi p5, vi 1, .unset, .unset, .unset, .unset, .unset, .unset, .unset, .unset, .unset, .unset, .unset, .unset, .unset, .unset, .unset, .unset, .unset, .unset, .unset, .unset, .unset, .unset, .unset, .unset, .unset, .unset, .unset] [])) rfl (hb hby at_26)
  obtain ⟨y1, hy1⟩ : ∃ z, z = (FP.ddiv (FP.l2d ((p3 &&& (1023 : Int32)).toInt64)) (4643211215818981376 : UInt64)) := ⟨_, rfl⟩
  have mg_y1 := own_mgk (K := 1081) hy1 (Jvm.RoadKit.ddiv_mag (K := 1088) (L := 1031) (Jvm.Free.Fl.l2d_mag _) (by unfold Big64; decide +kernel) (by decide) (by decide)) (by decide)
  obtain ⟨y2, hy2⟩ : ∃ z, z = (FP.ddiv (FP.l2d ((p4 &&& (1023 : Int32)).toInt64)) (4643211215818981376 : UInt64)) := ⟨_, rfl⟩
  have mg_y2 := own_mgk (K := 1081) hy2 (Jvm.RoadKit.ddiv_mag (K := 1088) (L := 1031) (Jvm.Free.Fl.l2d_mag _) (by unfold Big64; decide +kernel) (by decide) (by decide)) (by decide)
  obtain ⟨T2, h2, X2, e2, E2, A2, D2, -, st2⟩ := newO X1 hx hZ hown (w5 hw) (w6 hw) (w7 hw) e1 (g := (mkF m 103 #[vi p0, vi p1, vi p2, vi p3, vi p4, vi p5, vi 1, vr st_FLAT, vi 0, vi 0, .val (.double (FP.l2d (p0.toInt64))), .second, .val (.double (FP.l2d (p1.toInt64))), .second, .val (.double (FP.l2d (p2.toInt64))), .second, .val (.double y1), .second, .val (.double y2), .second, .unset, .unset, .unset, .unset, .unset, .unset, .unset, .unset, .unset, .unset, .unset, .unset, .unset, .unset] [])) rfl (hb hby at_103) (by decide) (by decide)
  obtain ⟨b2, g2⟩ : ∃ z, z = h0.size := ⟨_, rfl⟩
  rw [← g2] at A2 D2 st2
  have ge_b2 : h0.size ≤ b2 := Nat.le_of_eq g2.symm
  have K2 := KL.ofE E2
  have F_b2_balance : Fd0 Z h2 b2 (.double (FP.l2d (0 : Int64))) := Fld.zeroD (D2 (Or.inr (w15 hw)) (ty := .double) (by decide))
  have F_b2_rate : Fd1 Z h2 b2 (.double (FP.l2d (0 : Int64))) := Fld.zeroD (D2 (Or.inr (w17 hw)) (ty := .double) (by decide))
  have F_b2_margin : Fd2 Z h2 b2 (.double (FP.l2d (0 : Int64))) := Fld.zeroD (D2 (Or.inr (w19 hw)) (ty := .double) (by decide))
  have F_b2_method : Fd3 Z h2 b2 .null := D2 (Or.inr (w21 hw)) (ty := (.object "com/example/rivulet/rivulet/instrument/CompoundMethod")) (by decide)
  have F_b2_compounded : Fd4 Z h2 b2 (.double (FP.l2d (0 : Int64))) := Fld.zeroD (D2 (Or.inl (w28 hw)) (ty := .double) (by decide))
  have F_b2_pending : Fd5 Z h2 b2 (.double (FP.l2d (0 : Int64))) := Fld.zeroD (D2 (Or.inl (w30 hw)) (ty := .double) (by decide))
  obtain ⟨_, T3, L3, X3, hQ3, st3⟩ := own_init X2 hx hZ rfl hown (w8 hw) (w9 hw) (w7 hw) (w10 hw) (by decide) (r_init l Z a0 hw [] b2 (FP.l2d (p0.toInt64)) (FP.l2d (p1.toInt64)) (FP.l2d (p2.toInt64)) st_FLAT (.double (FP.l2d (0 : Int64))) (.double (FP.l2d (0 : Int64))) (.double (FP.l2d (0 : Int64))) .null h2 n0 (Nat.le_trans Z0 K2.1) F_b2_balance A2 (Nat.le_trans Z0 ge_b2) F_b2_rate F_b2_margin F_b2_method) e2 (W := 1) (by decide) (g := (mkF m 115 #[vi p0, vi p1, vi p2, vi p3, vi p4, vi p5, vi 1, vr st_FLAT, vi 0, vi 0, .val (.double (FP.l2d (p0.toInt64))), .second, .val (.double (FP.l2d (p1.toInt64))), .second, .val (.double (FP.l2d (p2.toInt64))), .second, .val (.double y1), .second, .val (.double y2), .second, .unset, .unset, .unset, .unset, .unset, .unset, .unset, .unset, .unset, .unset, .unset, .unset, .unset, .unset] [(.ref st_FLAT), (.double (FP.l2d (p2.toInt64))), (.double (FP.l2d (p1.toInt64))), (.double (FP.l2d (p0.toInt64))), (.ref b2), (.ref b2)])) rfl hml.symm (argsL := [(.double (FP.l2d (p0.toInt64))), (.double (FP.l2d (p1.toInt64))), (.double (FP.l2d (p2.toInt64))), (.ref st_FLAT)]) (rest := [(.ref b2)]) (lenOf pd_2 rfl) rfl rfl (own_wr rfl rfl) (hb hby at_115)
  obtain ⟨rfl, N3q, K3, Q3_0, Q3_1, Q3_2, Q3_3⟩ := hQ3
  have N3 := Fr.app N0 N3q
  have f5 := (kFld K3 F_b2_compounded (nwS (Or.inr (sn_17 hw)) (nwS (Or.inr (sn_16 hw)) (nwS (Or.inr (sn_15 hw)) (nwS (Or.inr (sn_14 hw)) nw0)))))
  have f6 := (kFld K3 F_b2_pending (nwS (Or.inr (sn_21 hw)) (nwS (Or.inr (sn_20 hw)) (nwS (Or.inr (sn_19 hw)) (nwS (Or.inr (sn_18 hw)) nw0)))))
  have f7 := (kExa K3 A2)
  have sz_0_2 := (Nat.le_trans K2.1 K3.1)
  obtain ⟨_, T4, L4, X4, hQ4, st4⟩ := own_virtual X3 hx hZ hown (w22 hw) (w23 hw) (nfS hZ (w25 hw)) (w25 hw) (w24 hw) (w7 hw) (w26 hw) (by decide) (r_compound l Z a0 hw [] b2 (FP.l2d (0 : Int64)) (FP.l2d (0 : Int64)) T3.heap n0 (Nat.le_trans Z0 sz_0_2) f5 f6 ((own_nnof own_add00 (Jvm.Free.Fl.Mag64.fin (Jvm.Free.Fl.l2d_mag _) (by decide)).noNaN)) f7 (Nat.le_trans Z0 ge_b2)) rfl f7 (W := 0) (by decide) (g := (mkF m 165 #[vi p0, vi p1, vi p2, vi p3, vi p4, vi p5, vi 1, vr st_FLAT, vi 0, vi 0, .val (.double (FP.l2d (p0.toInt64))), .second, .val (.double (FP.l2d (p1.toInt64))), .second, .val (.double (FP.l2d (p2.toInt64))), .second, .val (.double y1), .second, .val (.double y2), .second, vr b2, vi 1, .val (.double (FP.l2d (0 : Int64))), .second, .unset, .unset, .unset, .unset, .unset, .unset, .unset, .unset, .unset, .unset] [(.ref b2)])) rfl hml.symm (argsL := []) (rest := []) (lenOf pd_3 rfl) rfl rfl (own_wr rfl rfl) (hb hby at_165)
  obtain ⟨rfl, N4q, K4, Q4_0, Q4_1⟩ := hQ4
  have N4 := Fr.app N3 N4q
  have Q4_0' : Fd4 Z T4.heap b2 (.double (FP.l2d (0 : Int64))) := Eq.mp (congrArg (fun z => Fd4 Z T4.heap b2 (Value.double z)) own_add00) Q4_0
  have sz_0_3 := (Nat.le_trans sz_0_2 K4.1)
  have f9 := (kExa K4 f7)
  obtain ⟨_, T8, L8, X8, hQ8, st8⟩ := own_virtual X4 hx hZ hown (w31 hw) (w32 hw) (nfS hZ (w34 hw)) (w34 hw) (w33 hw) (w7 hw) (w35 hw) (by decide) (r_compounded l Z a0 hw [] b2 (FP.l2d (0 : Int64)) T4.heap n0 (Nat.le_trans Z0 sz_0_3) Q4_0') rfl f9 (W := 0) (by decide) (g := (mkF m 170 #[vi p0, vi p1, vi p2, vi p3, vi p4, vi p5, vi 1, vr st_FLAT, vi 0, vi 0, .val (.double (FP.l2d (p0.toInt64))), .second, .val (.double (FP.l2d (p1.toInt64))), .second, .val (.double (FP.l2d (p2.toInt64))), .second, .val (.double y1), .second, .val (.double y2), .second, vr b2, vi 1, .val (.double (FP.l2d (0 : Int64))), .second, .unset, .unset, .unset, .unset, .unset, .unset, .unset, .unset, .unset, .unset] [(.ref b2)])) rfl hml.symm (argsL := []) (rest := []) (lenOf pd_0 rfl) rfl rfl (own_wr rfl rfl) (hb hby at_170)
  obtain ⟨rfl, N8q, e8⟩ := hQ8
  have N8 := Fr.app N4 N8q
  obtain ⟨_, T10, L10, X10, hQ10, st10⟩ := own_virtual X8 hx hZ hown (w22 hw) (w23 hw) (nfS hZ (w25 hw)) (w25 hw) (w24 hw) (w7 hw) (w26 hw) (by decide) (r_compound l Z a0 hw [] b2 (FP.l2d (0 : Int64)) (FP.l2d (0 : Int64)) T4.heap n0 (Nat.le_trans Z0 sz_0_3) Q4_0' Q4_1 ((own_nnof own_add00 (Jvm.Free.Fl.Mag64.fin (Jvm.Free.Fl.l2d_mag _) (by decide)).noNaN)) f9 (Nat.le_trans Z0 ge_b2)) e8 f9 (W := 0) (by decide) (g := (mkF m 197 #[vi p0, vi p1, vi p2, vi p3, vi p4, vi p5, vi 1, vr st_FLAT, vi 0, vi 0, .val (.double (FP.l2d (p0.toInt64))), .second, .val (.double (FP.l2d (p1.toInt64))), .second, .val (.double (FP.l2d (p2.toInt64))), .second, .val (.double y1), .second, .val (.double y2), .second, vr b2, vi 1, .val (.double (FP.l2d (0 : Int64))), .second, .val (.double (FP.l2d (0 : Int64))), .second, .unset, .unset, .unset, .unset, .unset, .unset, .unset, .unset] [(.ref b2)])) rfl hml.symm (argsL := []) (rest := []) (lenOf pd_3 rfl) rfl rfl (own_wr rfl rfl) (hb hby at_197)
  obtain ⟨rfl, N10q, K10, Q10_0, Q10_1⟩ := hQ10
  have N10 := Fr.app N8 N10q
  have Q10_0' : Fd4 Z T10.heap b2 (.double (FP.l2d (0 : Int64))) := Eq.mp (congrArg (fun z => Fd4 Z T10.heap b2 (Value.double z)) own_add00) Q10_0
  have sz_0_4 := (Nat.le_trans sz_0_3 K10.1)
  have f12 := (kExa K10 f9)
  obtain ⟨_, T11, L11, X11, hQ11, st11⟩ := own_virtual X10 hx hZ hown (w31 hw) (w32 hw) (nfS hZ (w34 hw)) (w34 hw) (w33 hw) (w7 hw) (w35 hw) (by decide) (r_compounded l Z a0 hw [] b2 (FP.l2d (0 : Int64)) T10.heap n0 (Nat.le_trans Z0 sz_0_4) Q10_0') rfl f12 (W := 0) (by decide) (g := (mkF m 207 #[vi p0, vi p1, vi p2, vi p3, vi p4, vi p5, vi 1, vr st_FLAT, vi 0, vi 0, .val (.double (FP.l2d (p0.toInt64))), .second, .val (.double (FP.l2d (p1.toInt64))), .second, .val (.double (FP.l2d (p2.toInt64))), .second, .val (.double y1), .second, .val (.double y2), .second, vr b2, vi 1, .val (.double (FP.l2d (0 : Int64))), .second, .val (.double (FP.l2d (0 : Int64))), .second, .unset, .unset, .unset, .unset, .unset, .unset, .unset, .unset] [(.ref b2)])) rfl hml.symm (argsL := []) (rest := []) (lenOf pd_0 rfl) rfl rfl (own_wr rfl rfl) (hb hby at_207)
  obtain ⟨rfl, N11q, e11⟩ := hQ11
  have N11 := Fr.app N10 N11q
  have f14 := (kFld K10 (kFld K4 Q3_0 (nwS (Or.inr (sn_23 hw)) (nwS (Or.inr (sn_22 hw)) nw0))) (nwS (Or.inr (sn_23 hw)) (nwS (Or.inr (sn_22 hw)) nw0)))
  have f15 := (kFld K10 (kFld K4 Q3_1 (nwS (Or.inr (sn_25 hw)) (nwS (Or.inr (sn_24 hw)) nw0))) (nwS (Or.inr (sn_25 hw)) (nwS (Or.inr (sn_24 hw)) nw0)))
  have f16 := (kFld K10 (kFld K4 Q3_2 (nwS (Or.inr (sn_27 hw)) (nwS (Or.inr (sn_26 hw)) nw0))) (nwS (Or.inr (sn_27 hw)) (nwS (Or.inr (sn_26 hw)) nw0)))
  obtain ⟨y3, hy3⟩ : ∃ z, z = (FP.dsub (FP.l2d (p1.toInt64)) (FP.l2d (p2.toInt64))) := ⟨_, rfl⟩
  have mg_y3 := own_mgk (K := 1090) hy3 (Jvm.Free.Fl.dsub_mag (K := 1088) (Jvm.Free.Fl.Mag64.mono (Jvm.Free.Fl.l2d_mag _) (by decide)) (Jvm.Free.Fl.Mag64.mono (Jvm.Free.Fl.l2d_mag _) (by decide)) (by decide)) (by decide)
  obtain ⟨y4, hy4⟩ : ∃ z, z = (FP.dmul (FP.l2d (p0.toInt64)) y3) := ⟨_, rfl⟩
  have mg_y4 := own_mgk (K := 1156) hy4 (Jvm.Free.Fl.dmul_mag (Jvm.Free.Fl.l2d_mag _) mg_y3 (by decide) (by decide)) (by decide)
  obtain ⟨y5, hy5⟩ : ∃ z, z = (FP.ddiv y4 (4636737291354636288 : UInt64)) := ⟨_, rfl⟩
  have mg_y5 := own_mgk (K := 1151) hy5 (Jvm.RoadKit.ddiv_mag (K := 1156) (L := 1029) mg_y4 (by unfold Big64; decide +kernel) (by decide) (by decide)) (by decide)
  obtain ⟨y6, hy6⟩ : ∃ z, z = (FP.dmul y5 y2) := ⟨_, rfl⟩
  have mg_y6 := own_mgk (K := 1210) hy6 (Jvm.Free.Fl.dmul_mag mg_y5 mg_y2 (by decide) (by decide)) (by decide)
  have f17 := (kFld K10 (kFld K4 Q3_3 (nwS (Or.inr (sn_29 hw)) (nwS (Or.inr (sn_28 hw)) nw0))) (nwS (Or.inr (sn_29 hw)) (nwS (Or.inr (sn_28 hw)) nw0)))
  have f18 := (kOld K10 (kOld K4 (kOld K3 (kOld K2 O0 na0) (naGM 4 rfl (Nat.le_trans Z0 ge_b2) na0)) (naS (P := fun w => n0 ≤ w.1) (Nat.le_trans Z0 ge_b2) (naS (P := fun w => n0 ≤ w.1) (Nat.le_trans Z0 ge_b2) na0))) (naS (P := fun w => n0 ≤ w.1) (Nat.le_trans Z0 ge_b2) (naS (P := fun w => n0 ≤ w.1) (Nat.le_trans Z0 ge_b2) na0)))
  obtain ⟨y7, hy7⟩ : ∃ z, z = (FP.dmul (FP.l2d (p0.toInt64)) (FP.l2d (p2.toInt64))) := ⟨_, rfl⟩
  have mg_y7 := own_mgk (K := 1154) hy7 (Jvm.Free.Fl.dmul_mag (Jvm.Free.Fl.l2d_mag _) (Jvm.Free.Fl.l2d_mag _) (by decide) (by decide)) (by decide)
  obtain ⟨y8, hy8⟩ : ∃ z, z = (FP.ddiv y7 (4636737291354636288 : UInt64)) := ⟨_, rfl⟩
  have mg_y8 := own_mgk (K := 1149) hy8 (Jvm.RoadKit.ddiv_mag (K := 1154) (L := 1029) mg_y7 (by unfold Big64; decide +kernel) (by decide) (by decide)) (by decide)
  obtain ⟨y9, hy9⟩ : ∃ z, z = (FP.dmul y8 y2) := ⟨_, rfl⟩
  have mg_y9 := own_mgk (K := 1208) hy9 (Jvm.Free.Fl.dmul_mag mg_y8 mg_y2 (by decide) (by decide)) (by decide)
  obtain ⟨y10, hy10⟩ : ∃ z, z = (FP.dadd y6 y9) := ⟨_, rfl⟩
  have mg_y10 := own_mgk (K := 1212) hy10 (Jvm.Free.Fl.dadd_mag (K := 1210) (Jvm.Free.Fl.Mag64.mono mg_y6 (by decide)) (Jvm.Free.Fl.Mag64.mono mg_y9 (by decide)) (by decide)) (by decide)
  obtain ⟨y11, hy11⟩ : ∃ z, z = (FP.dadd (FP.l2d (0 : Int64)) y10) := ⟨_, rfl⟩
  have mg_y11 := own_mgk (K := 1214) hy11 (Jvm.Free.Fl.dadd_mag (K := 1212) (Jvm.Free.Fl.Mag64.mono (Jvm.Free.Fl.l2d_mag _) (by decide)) (Jvm.Free.Fl.Mag64.mono mg_y10 (by decide)) (by decide)) (by decide)
  obtain ⟨_, T13, L13, X13, hQ13, st13⟩ := own_virtual X11 hx hZ hown (w36 hw) (w37 hw) (nfS hZ (w39 hw)) (w39 hw) (w38 hw) (w7 hw) (w40 hw) (by decide) (r_accrue_FLAT l Z a0 hw [] b2 y2 (FP.l2d (p0.toInt64)) (FP.l2d (0 : Int64)) (FP.l2d (p1.toInt64)) (FP.l2d (p2.toInt64)) st_FLAT st_ALL (FP.l2d (0 : Int64)) st_SPREAD_EXCLUSIVE T10.heap n0 (Nat.le_trans Z0 sz_0_4) f12 f14 Q10_0' ((own_nnof (own_l2dz _) (Jvm.Free.Fl.Mag64.fin (Jvm.Free.Fl.l2d_mag _) (by decide)).noNaN)) f15 f16 ((own_nnof hy3.symm (Jvm.Free.Fl.Mag64.fin mg_y3 (by decide)).noNaN)) ((own_nnof (own_cg2 (f := FP.dmul) (own_l2dz _) hy3.symm hy4.symm) (Jvm.Free.Fl.Mag64.fin mg_y4 (by decide)).noNaN)) ((own_nnof (own_cg2 (f := FP.ddiv) (own_cg2 (f := FP.dmul) (own_l2dz _) hy3.symm hy4.symm) rfl hy5.symm) (Jvm.Free.Fl.Mag64.fin mg_y5 (by decide)).noNaN)) ((own_nnof (own_cg2 (f := FP.dmul) (own_cg2 (f := FP.ddiv) (own_cg2 (f := FP.dmul) (own_l2dz _) hy3.symm hy4.symm) rfl hy5.symm) rfl hy6.symm) (Jvm.Free.Fl.Mag64.fin mg_y6 (by decide)).noNaN)) f17 S_ALL f18 ne_st_ALL_st_FLAT ((own_nnof hy7.symm (Jvm.Free.Fl.Mag64.fin mg_y7 (by decide)).noNaN)) ((own_nnof (own_cg2 (f := FP.ddiv) hy7.symm rfl hy8.symm) (Jvm.Free.Fl.Mag64.fin mg_y8 (by decide)).noNaN)) ((own_nnof (own_cg2 (f := FP.dmul) (own_cg2 (f := FP.ddiv) hy7.symm rfl hy8.symm) rfl hy9.symm) (Jvm.Free.Fl.Mag64.fin mg_y9 (by decide)).noNaN)) Q10_1 S_SPREAD_EXCLUSIVE ne_st_FLAT_st_SPREAD_EXCLUSIVE ((own_nnof (own_cg2 (f := FP.dadd) (own_cg2 (f := FP.dmul) (own_cg2 (f := FP.ddiv) (own_cg2 (f := FP.dmul) (own_l2dz _) hy3.symm hy4.symm) rfl hy5.symm) rfl hy6.symm) (own_cg2 (f := FP.dmul) (own_cg2 (f := FP.ddiv) hy7.symm rfl hy8.symm) rfl hy9.symm) hy10.symm) (Jvm.Free.Fl.Mag64.fin mg_y10 (by decide)).noNaN)) ((own_nnof (own_cg2 (f := FP.dadd) rfl (own_cg2 (f := FP.dadd) (own_cg2 (f := FP.dmul) (own_cg2 (f := FP.ddiv) (own_cg2 (f := FP.dmul) (own_l2dz _) hy3.symm hy4.symm) rfl hy5.symm) rfl hy6.symm) (own_cg2 (f := FP.dmul) (own_cg2 (f := FP.ddiv) hy7.symm rfl hy8.symm) rfl hy9.symm) hy10.symm) hy11.symm) (Jvm.Free.Fl.Mag64.fin mg_y11 (by decide)).noNaN)) (Nat.le_trans Z0 ge_b2)) e11 f12 (W := 0) (by decide) (g := (mkF m 227 #[vi p0, vi p1, vi p2, vi p3, vi p4, vi p5, vi 1, vr st_FLAT, vi 0, vi 0, .val (.double (FP.l2d (p0.toInt64))), .second, .val (.double (FP.l2d (p1.toInt64))), .second, .val (.double (FP.l2d (p2.toInt64))), .second, .val (.double y1), .second, .val (.double y2), .second, vr b2, vi 1, .val (.double (FP.l2d (0 : Int64))), .second, .val (.double (FP.l2d (0 : Int64))), .second, .unset, .unset, .unset, .unset, .unset, .unset, .unset, .unset] [(.double y2), (.ref b2)])) rfl hml.symm (argsL := [(.double y2)]) (rest := []) (lenOf pd_4 rfl) rfl rfl (own_wr rfl rfl) (hb hby at_227)
  obtain ⟨rfl, N13q, K13, Q13_0⟩ := hQ13
  have N13 := Fr.app N11 N13q
  have Q13_0' : Fd5 Z T13.heap b2 (.double y11) := Eq.mp (congrArg (fun z => Fd5 Z T13.heap b2 (Value.double z)) (own_cg2 (f := FP.dadd) rfl (own_cg2 (f := FP.dadd) (own_cg2 (f := FP.dmul) (own_cg2 (f := FP.ddiv) (own_cg2 (f := FP.dmul) (own_l2dz _) hy3.symm hy4.symm) rfl hy5.symm) rfl hy6.symm) (own_cg2 (f := FP.dmul) (own_cg2 (f := FP.ddiv) hy7.symm rfl hy8.symm) rfl hy9.symm) hy10.symm) hy11.symm)) Q13_0
  have f20 := (kFld K13 Q10_0' (nwS (Or.inr (sn_13 hw)) nw0))
  obtain ⟨y12, hy12⟩ : ∃ z, z = (FP.dadd (FP.l2d (0 : Int64)) y11) := ⟨_, rfl⟩
  have mg_y12 := own_mgk (K := 1216) hy12 (Jvm.Free.Fl.dadd_mag (K := 1214) (Jvm.Free.Fl.Mag64.mono (Jvm.Free.Fl.l2d_mag _) (by decide)) (Jvm.Free.Fl.Mag64.mono mg_y11 (by decide)) (by decide)) (by decide)
  have f21 := (kExa K13 f12)
  have sz_0_5 := (Nat.le_trans sz_0_4 K13.1)
  obtain ⟨_, T19, L19, X19, hQ19, st19⟩ := own_virtual X13 hx hZ hown (w22 hw) (w23 hw) (nfS hZ (w25 hw)) (w25 hw) (w24 hw) (w7 hw) (w26 hw) (by decide) (r_compound l Z a0 hw [] b2 (FP.l2d (0 : Int64)) y11 T13.heap n0 (Nat.le_trans Z0 sz_0_5) f20 Q13_0' ((own_nnof hy12.symm (Jvm.Free.Fl.Mag64.fin mg_y12 (by decide)).noNaN)) f21 (Nat.le_trans Z0 ge_b2)) rfl f21 (W := 0) (by decide) (g := (mkF m 264 #[vi p0, vi p1, vi p2, vi p3, vi p4, vi p5, vi 1, vr st_FLAT, vi 0, vi 0, .val (.double (FP.l2d (p0.toInt64))), .second, .val (.double (FP.l2d (p1.toInt64))), .second, .val (.double (FP.l2d (p2.toInt64))), .second, .val (.double y1), .second, .val (.double y2), .second, vr b2, vi 1, .val (.double (FP.l2d (0 : Int64))), .second, .val (.double (FP.l2d (0 : Int64))), .second, .val (.double y10), .second, .val (.double (FP.l2d (p0.toInt64))), .second, .val (.double y10), .second, .unset, .unset] [(.ref b2)])) rfl hml.symm (argsL := []) (rest := []) (lenOf pd_3 rfl) rfl rfl (own_wr rfl rfl) (hb hby at_264)
  obtain ⟨rfl, N19q, K19, Q19_0, Q19_1⟩ := hQ19
  have N19 := Fr.app N13 N19q
  have Q19_0' : Fd4 Z T19.heap b2 (.double y12) := Eq.mp (congrArg (fun z => Fd4 Z T19.heap b2 (Value.double z)) hy12.symm) Q19_0
  have sz_0_6 := (Nat.le_trans sz_0_5 K19.1)
  have f23 := (kExa K19 f21)
  obtain ⟨_, T22, L22, X22, hQ22, st22⟩ := own_virtual X19 hx hZ hown (w31 hw) (w32 hw) (nfS hZ (w34 hw)) (w34 hw) (w33 hw) (w7 hw) (w35 hw) (by decide) (r_compounded l Z a0 hw [] b2 y12 T19.heap n0 (Nat.le_trans Z0 sz_0_6) Q19_0') rfl f23 (W := 0) (by decide) (g := (mkF m 269 #[vi p0, vi p1, vi p2, vi p3, vi p4, vi p5, vi 1, vr st_FLAT, vi 0, vi 0, .val (.double (FP.l2d (p0.toInt64))), .second, .val (.double (FP.l2d (p1.toInt64))), .second, .val (.double (FP.l2d (p2.toInt64))), .second, .val (.double y1), .second, .val (.double y2), .second, vr b2, vi 1, .val (.double (FP.l2d (0 : Int64))), .second, .val (.double (FP.l2d (0 : Int64))), .second, .val (.double y10), .second, .val (.double (FP.l2d (p0.toInt64))), .second, .val (.double y10), .second, .unset, .unset] [(.ref b2)])) rfl hml.symm (argsL := []) (rest := []) (lenOf pd_0 rfl) rfl rfl (own_wr rfl rfl) (hb hby at_269)
  obtain ⟨rfl, N22q, e22⟩ := hQ22
  have N22 := Fr.app N19 N22q
  have f25 := (kFld K19 (kFld K13 f14 (nwS (Or.inr (sn_22 hw)) nw0)) (nwS (Or.inr (sn_23 hw)) (nwS (Or.inr (sn_22 hw)) nw0)))
  obtain ⟨y13, hy13⟩ : ∃ z, z = (FP.dadd (FP.l2d (p0.toInt64)) y12) := ⟨_, rfl⟩
  have mg_y13 := own_mgk (K := 1218) hy13 (Jvm.Free.Fl.dadd_mag (K := 1216) (Jvm.Free.Fl.Mag64.mono (Jvm.Free.Fl.l2d_mag _) (by decide)) (Jvm.Free.Fl.Mag64.mono mg_y12 (by decide)) (by decide)) (by decide)
  obtain ⟨_, T24, L24, X24, hQ24, st24⟩ := own_virtual X22 hx hZ hown (w53 hw) (w42 hw) (nfS hZ (w44 hw)) (w44 hw) (w43 hw) (w7 hw) (w45 hw) (by decide) (r_base l Z a0 hw [] b2 (FP.l2d (p0.toInt64)) y12 T19.heap n0 (Nat.le_trans Z0 sz_0_6) f25 Q19_0' ((own_nnof hy13.symm (Jvm.Free.Fl.Mag64.fin mg_y13 (by decide)).noNaN))) e22 f23 (W := 0) (by decide) (g := (mkF m 304 #[vi p0, vi p1, vi p2, vi p3, vi p4, vi p5, vi 1, vr st_FLAT, vi 0, vi 0, .val (.double (FP.l2d (p0.toInt64))), .second, .val (.double (FP.l2d (p1.toInt64))), .second, .val (.double (FP.l2d (p2.toInt64))), .second, .val (.double y1), .second, .val (.double y2), .second, vr b2, vi 1, .val (.double (FP.l2d (0 : Int64))), .second, .val (.double (FP.l2d (0 : Int64))), .second, .val (.double y10), .second, .val (.double (FP.l2d (p0.toInt64))), .second, .val (.double y10), .second, .val (.double y12), .second] [(.ref b2)])) rfl hml.symm (argsL := []) (rest := []) (lenOf pd_0 rfl) rfl rfl (own_wr rfl rfl) (hb hby at_304)
  obtain ⟨rfl, N24q, e24⟩ := hQ24
  have N24 := Fr.app N22 N24q
  refine ⟨T24, _, some (.int 1), X24, (fun h => by cases h <;> rfl), ?_, fun fs hr => ?_⟩
  · show Q_law n0 _ _
    exact ⟨rfl, N24⟩
  · refine t_iload 2 X0.here hx (hb hby at_0) rfl rfl ?_
    refine X0.ldcInt hx hown (mvT hZ (w0 hw)) (g := (mkF m 2 #[vi p0, vi p1, vi p2, vi p3, vi p4, vi p5, .unset, .unset, .unset, .unset, .unset, .unset, .unset, .unset, .unset, .unset, .unset, .unset, .unset, .unset, .unset, .unset, .unset, .unset, .unset, .unset, .unset, .unset, .unset, .unset, .unset, .unset, .unset, .unset] [(.int p5)])) rfl (hb hby at_2) _ ?_
    refine t_iand 5 X0.here hx (hb hby at_4) rfl rfl ?_
    refine t_iconst 6 (r := 3) X0.here hx (hb hby at_5) (by decide) rfl ?_
    refine t_irem 7 (r := 1) X0.here hx (hb hby at_6) (by decide) hk rfl ?_
    refine t_istore (pc' := 9) (L' := #[vi p0, vi p1, vi p2, vi p3, vi p4, vi p5, vi 1, .unset, .unset, .unset, .unset, .unset, .unset, .unset, .unset, .unset, .unset, .unset, .unset, .unset, .unset, .unset, .unset, .unset, .unset, .unset, .unset, .unset, .unset, .unset, .unset, .unset, .unset, .unset]) X0.here hx (hb hby at_7) rfl rfl ?_
    refine t_iload 11 X0.here hx (hb hby at_9) rfl rfl ?_
    refine t_ifYes (pc := 11) 20 X0.here hx (hb hby at_11) (by decide) (by decide) (by decide) ?_
    refine t_iload 22 X0.here hx (hb hby at_20) rfl rfl ?_
    refine t_iconst 23 (r := 1) X0.here hx (hb hby at_22) (by decide) rfl ?_
    refine t_icmpNo 26 X0.here hx (hb hby at_23) (by decide) rfl ?_
    refine st1 _ ?_
    refine t_goto (pc := 29) 35 X1.here hx (hb hby at_29) (by decide) (by decide) ?_
    refine t_astore (pc' := 37) (L' := #[vi p0, vi p1, vi p2, vi p3, vi p4, vi p5, vi 1, vr st_FLAT, .unset, .unset, .unset, .unset, .unset, .unset, .unset, .unset, .unset, .unset, .unset, .unset, .unset, .unset, .unset, .unset, .unset, .unset, .unset, .unset, .unset, .unset, .unset, .unset, .unset, .unset]) X1.here hx (hb hby at_35) rfl rfl rfl ?_
    refine t_iload 39 X1.here hx (hb hby at_37) rfl rfl ?_
    refine t_iconst 40 (r := 2) X1.here hx (hb hby at_39) (by decide) rfl ?_
    refine t_icmpYes (pc := 40) 47 X1.here hx (hb hby at_40) (by decide) (by decide) (by decide) ?_
    refine t_iconst 48 (r := 0) X1.here hx (hb hby at_47) (by decide) rfl ?_
    refine t_istore (pc' := 50) (L' := #[vi p0, vi p1, vi p2, vi p3, vi p4, vi p5, vi 1, vr st_FLAT, vi 0, .unset, .unset, .unset, .unset, .unset, .unset, .unset, .unset, .unset, .unset, .unset, .unset, .unset, .unset, .unset, .unset, .unset, .unset, .unset, .unset, .unset, .unset, .unset, .unset, .unset]) X1.here hx (hb hby at_48) rfl rfl ?_
    refine t_iload 52 X1.here hx (hb hby at_50) rfl rfl ?_
    refine t_iconst 53 (r := 4) X1.here hx (hb hby at_52) (by decide) rfl ?_
    refine t_iushr 54 X1.here hx (hb hby at_53) rfl rfl ?_
    refine t_iconst 55 (r := 1) X1.here hx (hb hby at_54) (by decide) rfl ?_
    refine t_iand 56 (r := 0) X1.here hx (hb hby at_55) hf1 rfl ?_
    refine t_ifYes (pc := 56) 63 X1.here hx (hb hby at_56) (by decide) (by decide) (by decide) ?_
    refine t_iconst 64 (r := 0) X1.here hx (hb hby at_63) (by decide) rfl ?_
    refine t_istore (pc' := 66) (L' := #[vi p0, vi p1, vi p2, vi p3, vi p4, vi p5, vi 1, vr st_FLAT, vi 0, vi 0, .unset, .unset, .unset, .unset, .unset, .unset, .unset, .unset, .unset, .unset, .unset, .unset, .unset, .unset, .unset, .unset, .unset, .unset, .unset, .unset, .unset, .unset, .unset, .unset]) X1.here hx (hb hby at_64) rfl rfl ?_
    refine t_iloadN 67 X1.here hx (hb hby at_66) rfl rfl ?_
    refine t_i2d 68 (r := (FP.l2d (p0.toInt64))) X1.here hx (hb hby at_67) (i2d_w _) rfl ?_
    refine t_dstore (pc' := 70) (L' := #[vi p0, vi p1, vi p2, vi p3, vi p4, vi p5, vi 1, vr st_FLAT, vi 0, vi 0, .val (.double (FP.l2d (p0.toInt64))), .second, .unset, .unset, .unset, .unset, .unset, .unset, .unset, .unset, .unset, .unset, .unset, .unset, .unset, .unset, .unset, .unset, .unset, .unset, .unset, .unset, .unset, .unset]) X1.here hx (hb hby at_68) rfl rfl ?_
    refine t_iloadN 71 X1.here hx (hb hby at_70) rfl rfl ?_
    refine t_i2d 72 (r := (FP.l2d (p1.toInt64))) X1.here hx (hb hby at_71) (i2d_w _) rfl ?_
    refine t_dstore (pc' := 74) (L' := #[vi p0, vi p1, vi p2, vi p3, vi p4, vi p5, vi 1, vr st_FLAT, vi 0, vi 0, .val (.double (FP.l2d (p0.toInt64))), .second, .val (.double (FP.l2d (p1.toInt64))), .second, .unset, .unset, .unset, .unset, .unset, .unset, .unset, .unset, .unset, .unset, .unset, .unset, .unset, .unset, .unset, .unset, .unset, .unset, .unset, .unset]) X1.here hx (hb hby at_72) rfl rfl ?_
    refine t_iloadN 75 X1.here hx (hb hby at_74) rfl rfl ?_
    refine t_i2d 76 (r := (FP.l2d (p2.toInt64))) X1.here hx (hb hby at_75) (i2d_w _) rfl ?_
    refine t_dstore (pc' := 78) (L' := #[vi p0, vi p1, vi p2, vi p3, vi p4, vi p5, vi 1, vr st_FLAT, vi 0, vi 0, .val (.double (FP.l2d (p0.toInt64))), .second, .val (.double (FP.l2d (p1.toInt64))), .second, .val (.double (FP.l2d (p2.toInt64))), .second, .unset, .unset, .unset, .unset, .unset, .unset, .unset, .unset, .unset, .unset, .unset, .unset, .unset, .unset, .unset, .unset, .unset, .unset]) X1.here hx (hb hby at_76) rfl rfl ?_
    refine t_iloadN 79 X1.here hx (hb hby at_78) rfl rfl ?_
    refine t_sipush 82 (r := 1023) X1.here hx (hb hby at_79) (by decide) rfl ?_
    refine t_iand 83 X1.here hx (hb hby at_82) rfl rfl ?_
    refine t_i2d 84 (r := (FP.l2d ((p3 &&& (1023 : Int32)).toInt64))) X1.here hx (hb hby at_83) (i2d_w _) rfl ?_
    refine X1.ldc2DoubleC hx hown (mvT hZ (w4 hw)) (g := (mkF m 84 #[vi p0, vi p1, vi p2, vi p3, vi p4, vi p5, vi 1, vr st_FLAT, vi 0, vi 0, .val (.double (FP.l2d (p0.toInt64))), .second, .val (.double (FP.l2d (p1.toInt64))), .second, .val (.double (FP.l2d (p2.toInt64))), .second, .unset, .unset, .unset, .unset, .unset, .unset, .unset, .unset, .unset, .unset, .unset, .unset, .unset, .unset, .unset, .unset, .unset, .unset] [(.double (FP.l2d ((p3 &&& (1023 : Int32)).toInt64)))])) rfl (hb hby at_84) _ ?_
    refine t_ddiv 88 (r := (FP.ddiv (FP.l2d ((p3 &&& (1023 : Int32)).toInt64)) (4643211215818981376 : UInt64))) X1.here hx (hb hby at_87) (own_nnof hy1.symm (Jvm.Free.Fl.Mag64.fin mg_y1 (by decide)).noNaN) rfl rfl ?_
    refine castTop (g' := (mkF m 88 #[vi p0, vi p1, vi p2, vi p3, vi p4, vi p5, vi 1, vr st_FLAT, vi 0, vi 0, .val (.double (FP.l2d (p0.toInt64))), .second, .val (.double (FP.l2d (p1.toInt64))), .second, .val (.double (FP.l2d (p2.toInt64))), .second, .unset, .unset, .unset, .unset, .unset, .unset, .unset, .unset, .unset, .unset, .unset, .unset, .unset, .unset, .unset, .unset, .unset, .unset] [(.double y1)])) (congrArg (fun z => mkF m 88 #[vi p0, vi p1, vi p2, vi p3, vi p4, vi p5, vi 1, vr st_FLAT, vi 0, vi 0, .val (.double (FP.l2d (p0.toInt64))), .second, .val (.double (FP.l2d (p1.toInt64))), .second, .val (.double (FP.l2d (p2.toInt64))), .second, .unset, .unset, .unset, .unset, .unset, .unset, .unset, .unset, .unset, .unset, .unset, .unset, .unset, .unset, .unset, .unset, .unset, .unset] (Value.double z :: [])) hy1.symm) ?_
    refine t_dstore (pc' := 90) (L' := #[vi p0, vi p1, vi p2, vi p3, vi p4, vi p5, vi 1, vr st_FLAT, vi 0, vi 0, .val (.double (FP.l2d (p0.toInt64))), .second, .val (.double (FP.l2d (p1.toInt64))), .second, .val (.double (FP.l2d (p2.toInt64))), .second, .val (.double y1), .second, .unset, .unset, .unset, .unset, .unset, .unset, .unset, .unset, .unset, .unset, .unset, .unset, .unset, .unset, .unset, .unset]) X1.here hx (hb hby at_88) rfl rfl ?_
    refine t_iload 92 X1.here hx (hb hby at_90) rfl rfl ?_
    refine t_sipush 95 (r := 1023) X1.here hx (hb hby at_92) (by decide) rfl ?_
    refine t_iand 96 X1.here hx (hb hby at_95) rfl rfl ?_
    refine t_i2d 97 (r := (FP.l2d ((p4 &&& (1023 : Int32)).toInt64))) X1.here hx (hb hby at_96) (i2d_w _) rfl ?_
    refine X1.ldc2DoubleC hx hown (mvT hZ (w4 hw)) (g := (mkF m 97 #[vi p0, vi p1, vi p2, vi p3, vi p4, vi p5, vi 1, vr st_FLAT, vi 0, vi 0, .val (.double (FP.l2d (p0.toInt64))), .second, .val (.double (FP.l2d (p1.toInt64))), .second, .val (.double (FP.l2d (p2.toInt64))), .second, .val (.double y1), .second, .unset, .unset, .unset, .unset, .unset, .unset, .unset, .unset, .unset, .unset, .unset, .unset, .unset, .unset, .unset, .unset] [(.double (FP.l2d ((p4 &&& (1023 : Int32)).toInt64)))])) rfl (hb hby at_97) _ ?_
    refine t_ddiv 101 (r := (FP.ddiv (FP.l2d ((p4 &&& (1023 : Int32)).toInt64)) (4643211215818981376 : UInt64))) X1.here hx (hb hby at_100) (own_nnof hy2.symm (Jvm.Free.Fl.Mag64.fin mg_y2 (by decide)).noNaN) rfl rfl ?_
    refine castTop (g' := (mkF m 101 #[vi p0, vi p1, vi p2, vi p3, vi p4, vi p5, vi 1, vr st_FLAT, vi 0, vi 0, .val (.double (FP.l2d (p0.toInt64))), .second, .val (.double (FP.l2d (p1.toInt64))), .second, .val (.double (FP.l2d (p2.toInt64))), .second, .val (.double y1), .second, .unset, .unset, .unset, .unset, .unset, .unset, .unset, .unset, .unset, .unset, .unset, .unset, .unset, .unset, .unset, .unset] [(.double y2)])) (congrArg (fun z => mkF m 101 #[vi p0, vi p1, vi p2, vi p3, vi p4, vi p5, vi 1, vr st_FLAT, vi 0, vi 0, .val (.double (FP.l2d (p0.toInt64))), .second, .val (.double (FP.l2d (p1.toInt64))), .second, .val (.double (FP.l2d (p2.toInt64))), .second, .val (.double y1), .second, .unset, .unset, .unset, .unset, .unset, .unset, .unset, .unset, .unset, .unset, .unset, .unset, .unset, .unset, .unset, .unset] (Value.double z :: [])) hy2.symm) ?_
    refine t_dstore (pc' := 103) (L' := #[vi p0, vi p1, vi p2, vi p3, vi p4, vi p5, vi 1, vr st_FLAT, vi 0, vi 0, .val (.double (FP.l2d (p0.toInt64))), .second, .val (.double (FP.l2d (p1.toInt64))), .second, .val (.double (FP.l2d (p2.toInt64))), .second, .val (.double y1), .second, .val (.double y2), .second, .unset, .unset, .unset, .unset, .unset, .unset, .unset, .unset, .unset, .unset, .unset, .unset, .unset, .unset]) X1.here hx (hb hby at_101) rfl rfl ?_
    refine st2 _ ?_
    refine t_dup 107 X2.here hx (hb hby at_106) rfl rfl ?_
    refine t_dload 109 X2.here hx (hb hby at_107) rfl rfl ?_
    refine t_dload 111 X2.here hx (hb hby at_109) rfl rfl ?_
    refine t_dload 113 X2.here hx (hb hby at_111) rfl rfl ?_
    refine t_aload 115 X2.here hx (hb hby at_113) rfl rfl rfl ?_
    refine st3 _ ?_
    refine t_astore (pc' := 120) (L' := #[vi p0, vi p1, vi p2, vi p3, vi p4, vi p5, vi 1, vr st_FLAT, vi 0, vi 0, .val (.double (FP.l2d (p0.toInt64))), .second, .val (.double (FP.l2d (p1.toInt64))), .second, .val (.double (FP.l2d (p2.toInt64))), .second, .val (.double y1), .second, .val (.double y2), .second, vr b2, .unset, .unset, .unset, .unset, .unset, .unset, .unset, .unset, .unset, .unset, .unset, .unset, .unset]) X3.here hx (hb hby at_118) rfl rfl rfl ?_
    refine t_iconst 121 (r := 1) X3.here hx (hb hby at_120) (by decide) rfl ?_
    refine t_istore (pc' := 123) (L' := #[vi p0, vi p1, vi p2, vi p3, vi p4, vi p5, vi 1, vr st_FLAT, vi 0, vi 0, .val (.double (FP.l2d (p0.toInt64))), .second, .val (.double (FP.l2d (p1.toInt64))), .second, .val (.double (FP.l2d (p2.toInt64))), .second, .val (.double y1), .second, .val (.double y2), .second, vr b2, vi 1, .unset, .unset, .unset, .unset, .unset, .unset, .unset, .unset, .unset, .unset, .unset, .unset]) X3.here hx (hb hby at_121) rfl rfl ?_
    refine t_dconst0 124 (r := (FP.l2d (0 : Int64))) X3.here hx (hb hby at_123) own_dconst0 rfl ?_
    refine t_dstore (pc' := 126) (L' := #[vi p0, vi p1, vi p2, vi p3, vi p4, vi p5, vi 1, vr st_FLAT, vi 0, vi 0, .val (.double (FP.l2d (p0.toInt64))), .second, .val (.double (FP.l2d (p1.toInt64))), .second, .val (.double (FP.l2d (p2.toInt64))), .second, .val (.double y1), .second, .val (.double y2), .second, vr b2, vi 1, .val (.double (FP.l2d (0 : Int64))), .second, .unset, .unset, .unset, .unset, .unset, .unset, .unset, .unset, .unset, .unset]) X3.here hx (hb hby at_124) rfl rfl ?_
    refine t_iload 128 X3.here hx (hb hby at_126) rfl rfl ?_
    refine t_ifYes (pc := 128) 163 X3.here hx (hb hby at_128) (by decide) (by decide) (by decide) ?_
    refine t_aload 165 X3.here hx (hb hby at_163) rfl rfl rfl ?_
    refine st4 _ ?_
    refine t_aload 170 X4.here hx (hb hby at_168) rfl rfl rfl ?_
    refine st8 _ ?_
    refine t_dstore (pc' := 175) (L' := #[vi p0, vi p1, vi p2, vi p3, vi p4, vi p5, vi 1, vr st_FLAT, vi 0, vi 0, .val (.double (FP.l2d (p0.toInt64))), .second, .val (.double (FP.l2d (p1.toInt64))), .second, .val (.double (FP.l2d (p2.toInt64))), .second, .val (.double y1), .second, .val (.double y2), .second, vr b2, vi 1, .val (.double (FP.l2d (0 : Int64))), .second, .val (.double (FP.l2d (0 : Int64))), .second, .unset, .unset, .unset, .unset, .unset, .unset, .unset, .unset]) X8.here hx (hb hby at_173) rfl rfl ?_
    refine t_iload 177 X8.here hx (hb hby at_175) rfl rfl ?_
    refine t_ifNo 180 X8.here hx (hb hby at_177) (by decide) rfl ?_
    refine t_dload 182 X8.here hx (hb hby at_180) rfl rfl ?_
    refine t_dload 184 X8.here hx (hb hby at_182) rfl rfl ?_
    refine t_dcmp 185 (r := 0) X8.here hx (hb hby at_184) (dcmpV_self ((Jvm.Free.Fl.Mag64.fin (Jvm.Free.Fl.l2d_mag _) (by decide)).noNaN) _) rfl ?_
    refine t_ifNo 188 X8.here hx (hb hby at_185) (by decide) rfl ?_
    refine t_iconst 189 (r := 1) X8.here hx (hb hby at_188) (by decide) rfl ?_
    refine t_goto (pc := 189) 193 X8.here hx (hb hby at_189) (by decide) (by decide) ?_
    refine t_istore (pc' := 195) (L' := #[vi p0, vi p1, vi p2, vi p3, vi p4, vi p5, vi 1, vr st_FLAT, vi 0, vi 0, .val (.double (FP.l2d (p0.toInt64))), .second, .val (.double (FP.l2d (p1.toInt64))), .second, .val (.double (FP.l2d (p2.toInt64))), .second, .val (.double y1), .second, .val (.double y2), .second, vr b2, vi 1, .val (.double (FP.l2d (0 : Int64))), .second, .val (.double (FP.l2d (0 : Int64))), .second, .unset, .unset, .unset, .unset, .unset, .unset, .unset, .unset]) X8.here hx (hb hby at_193) rfl rfl ?_
    refine t_aload 197 X8.here hx (hb hby at_195) rfl rfl rfl ?_
    refine st10 _ ?_
    refine t_iload 202 X10.here hx (hb hby at_200) rfl rfl ?_
    refine t_ifNo 205 X10.here hx (hb hby at_202) (by decide) rfl ?_
    refine t_aload 207 X10.here hx (hb hby at_205) rfl rfl rfl ?_
    refine st11 _ ?_
    refine t_dload 212 X11.here hx (hb hby at_210) rfl rfl ?_
    refine t_dcmp 213 (r := 0) X11.here hx (hb hby at_212) (dcmpV_self ((Jvm.Free.Fl.Mag64.fin (Jvm.Free.Fl.l2d_mag _) (by decide)).noNaN) _) rfl ?_
    refine t_ifNo 216 X11.here hx (hb hby at_213) (by decide) rfl ?_
    refine t_iconst 217 (r := 1) X11.here hx (hb hby at_216) (by decide) rfl ?_
    refine t_goto (pc := 217) 221 X11.here hx (hb hby at_217) (by decide) (by decide) ?_
    refine t_istore (pc' := 223) (L' := #[vi p0, vi p1, vi p2, vi p3, vi p4, vi p5, vi 1, vr st_FLAT, vi 0, vi 0, .val (.double (FP.l2d (p0.toInt64))), .second, .val (.double (FP.l2d (p1.toInt64))), .second, .val (.double (FP.l2d (p2.toInt64))), .second, .val (.double y1), .second, .val (.double y2), .second, vr b2, vi 1, .val (.double (FP.l2d (0 : Int64))), .second, .val (.double (FP.l2d (0 : Int64))), .second, .unset, .unset, .unset, .unset, .unset, .unset, .unset, .unset]) X11.here hx (hb hby at_221) rfl rfl ?_
    refine t_aload 225 X11.here hx (hb hby at_223) rfl rfl rfl ?_
    refine t_dload 227 X11.here hx (hb hby at_225) rfl rfl ?_
    refine st13 _ ?_
    refine castTop (g' := (mkF m 230 #[vi p0, vi p1, vi p2, vi p3, vi p4, vi p5, vi 1, vr st_FLAT, vi 0, vi 0, .val (.double (FP.l2d (p0.toInt64))), .second, .val (.double (FP.l2d (p1.toInt64))), .second, .val (.double (FP.l2d (p2.toInt64))), .second, .val (.double y1), .second, .val (.double y2), .second, vr b2, vi 1, .val (.double (FP.l2d (0 : Int64))), .second, .val (.double (FP.l2d (0 : Int64))), .second, .unset, .unset, .unset, .unset, .unset, .unset, .unset, .unset] [(.double y10)])) (congrArg (fun z => mkF m 230 #[vi p0, vi p1, vi p2, vi p3, vi p4, vi p5, vi 1, vr st_FLAT, vi 0, vi 0, .val (.double (FP.l2d (p0.toInt64))), .second, .val (.double (FP.l2d (p1.toInt64))), .second, .val (.double (FP.l2d (p2.toInt64))), .second, .val (.double y1), .second, .val (.double y2), .second, vr b2, vi 1, .val (.double (FP.l2d (0 : Int64))), .second, .val (.double (FP.l2d (0 : Int64))), .second, .unset, .unset, .unset, .unset, .unset, .unset, .unset, .unset] (Value.double z :: [])) (own_cg2 (f := FP.dadd) (own_cg2 (f := FP.dmul) (own_cg2 (f := FP.ddiv) (own_cg2 (f := FP.dmul) (own_l2dz _) hy3.symm hy4.symm) rfl hy5.symm) rfl hy6.symm) (own_cg2 (f := FP.dmul) (own_cg2 (f := FP.ddiv) hy7.symm rfl hy8.symm) rfl hy9.symm) hy10.symm)) ?_
    refine t_dstore (pc' := 232) (L' := #[vi p0, vi p1, vi p2, vi p3, vi p4, vi p5, vi 1, vr st_FLAT, vi 0, vi 0, .val (.double (FP.l2d (p0.toInt64))), .second, .val (.double (FP.l2d (p1.toInt64))), .second, .val (.double (FP.l2d (p2.toInt64))), .second, .val (.double y1), .second, .val (.double y2), .second, vr b2, vi 1, .val (.double (FP.l2d (0 : Int64))), .second, .val (.double (FP.l2d (0 : Int64))), .second, .val (.double y10), .second, .unset, .unset, .unset, .unset, .unset, .unset]) X13.here hx (hb hby at_230) rfl rfl ?_
    refine t_dload 234 X13.here hx (hb hby at_232) rfl rfl ?_
    refine t_dload 236 X13.here hx (hb hby at_234) rfl rfl ?_
    refine t_dadd 237 (r := (FP.dadd (FP.l2d (p0.toInt64)) (FP.l2d (0 : Int64)))) X13.here hx (hb hby at_236) (own_nnof (own_l2dz _) (Jvm.Free.Fl.Mag64.fin (Jvm.Free.Fl.l2d_mag _) (by decide)).noNaN) rfl rfl ?_
    refine castTop (g' := (mkF m 237 #[vi p0, vi p1, vi p2, vi p3, vi p4, vi p5, vi 1, vr st_FLAT, vi 0, vi 0, .val (.double (FP.l2d (p0.toInt64))), .second, .val (.double (FP.l2d (p1.toInt64))), .second, .val (.double (FP.l2d (p2.toInt64))), .second, .val (.double y1), .second, .val (.double y2), .second, vr b2, vi 1, .val (.double (FP.l2d (0 : Int64))), .second, .val (.double (FP.l2d (0 : Int64))), .second, .val (.double y10), .second, .unset, .unset, .unset, .unset, .unset, .unset] [(.double (FP.l2d (p0.toInt64)))])) (congrArg (fun z => mkF m 237 #[vi p0, vi p1, vi p2, vi p3, vi p4, vi p5, vi 1, vr st_FLAT, vi 0, vi 0, .val (.double (FP.l2d (p0.toInt64))), .second, .val (.double (FP.l2d (p1.toInt64))), .second, .val (.double (FP.l2d (p2.toInt64))), .second, .val (.double y1), .second, .val (.double y2), .second, vr b2, vi 1, .val (.double (FP.l2d (0 : Int64))), .second, .val (.double (FP.l2d (0 : Int64))), .second, .val (.double y10), .second, .unset, .unset, .unset, .unset, .unset, .unset] (Value.double z :: [])) (own_l2dz _)) ?_
    refine t_dstore (pc' := 239) (L' := #[vi p0, vi p1, vi p2, vi p3, vi p4, vi p5, vi 1, vr st_FLAT, vi 0, vi 0, .val (.double (FP.l2d (p0.toInt64))), .second, .val (.double (FP.l2d (p1.toInt64))), .second, .val (.double (FP.l2d (p2.toInt64))), .second, .val (.double y1), .second, .val (.double y2), .second, vr b2, vi 1, .val (.double (FP.l2d (0 : Int64))), .second, .val (.double (FP.l2d (0 : Int64))), .second, .val (.double y10), .second, .val (.double (FP.l2d (p0.toInt64))), .second, .unset, .unset, .unset, .unset]) X13.here hx (hb hby at_237) rfl rfl ?_
    refine t_iload 241 X13.here hx (hb hby at_239) rfl rfl ?_
    refine t_ifYes (pc := 241) 258 X13.here hx (hb hby at_241) (by decide) (by decide) (by decide) ?_
    refine t_dload 260 X13.here hx (hb hby at_258) rfl rfl ?_
    refine t_dstore (pc' := 262) (L' := #[vi p0, vi p1, vi p2, vi p3, vi p4, vi p5, vi 1, vr st_FLAT, vi 0, vi 0, .val (.double (FP.l2d (p0.toInt64))), .second, .val (.double (FP.l2d (p1.toInt64))), .second, .val (.double (FP.l2d (p2.toInt64))), .second, .val (.double y1), .second, .val (.double y2), .second, vr b2, vi 1, .val (.double (FP.l2d (0 : Int64))), .second, .val (.double (FP.l2d (0 : Int64))), .second, .val (.double y10), .second, .val (.double (FP.l2d (p0.toInt64))), .second, .val (.double y10), .second, .unset, .unset]) X13.here hx (hb hby at_260) rfl rfl ?_
    refine t_aload 264 X13.here hx (hb hby at_262) rfl rfl rfl ?_
    refine st19 _ ?_
    refine t_aload 269 X19.here hx (hb hby at_267) rfl rfl rfl ?_
    refine st22 _ ?_
    refine t_dstore (pc' := 274) (L' := #[vi p0, vi p1, vi p2, vi p3, vi p4, vi p5, vi 1, vr st_FLAT, vi 0, vi 0, .val (.double (FP.l2d (p0.toInt64))), .second, .val (.double (FP.l2d (p1.toInt64))), .second, .val (.double (FP.l2d (p2.toInt64))), .second, .val (.double y1), .second, .val (.double y2), .second, vr b2, vi 1, .val (.double (FP.l2d (0 : Int64))), .second, .val (.double (FP.l2d (0 : Int64))), .second, .val (.double y10), .second, .val (.double (FP.l2d (p0.toInt64))), .second, .val (.double y10), .second, .val (.double y12), .second]) X22.here hx (hb hby at_272) rfl rfl ?_
    refine t_iload 276 X22.here hx (hb hby at_274) rfl rfl ?_
    refine t_ifNo 279 X22.here hx (hb hby at_276) (by decide) rfl ?_
    refine t_dload 281 X22.here hx (hb hby at_279) rfl rfl ?_
    refine t_dload 283 X22.here hx (hb hby at_281) rfl rfl ?_
    refine t_dload 285 X22.here hx (hb hby at_283) rfl rfl ?_
    refine t_dadd 286 (r := (FP.dadd (FP.l2d (0 : Int64)) y10)) X22.here hx (hb hby at_285) (own_nnof hy11.symm (Jvm.Free.Fl.Mag64.fin mg_y11 (by decide)).noNaN) rfl rfl ?_
    refine castTop (g' := (mkF m 286 #[vi p0, vi p1, vi p2, vi p3, vi p4, vi p5, vi 1, vr st_FLAT, vi 0, vi 0, .val (.double (FP.l2d (p0.toInt64))), .second, .val (.double (FP.l2d (p1.toInt64))), .second, .val (.double (FP.l2d (p2.toInt64))), .second, .val (.double y1), .second, .val (.double y2), .second, vr b2, vi 1, .val (.double (FP.l2d (0 : Int64))), .second, .val (.double (FP.l2d (0 : Int64))), .second, .val (.double y10), .second, .val (.double (FP.l2d (p0.toInt64))), .second, .val (.double y10), .second, .val (.double y12), .second] [(.double y11), (.double y12)])) (congrArg (fun z => mkF m 286 #[vi p0, vi p1, vi p2, vi p3, vi p4, vi p5, vi 1, vr st_FLAT, vi 0, vi 0, .val (.double (FP.l2d (p0.toInt64))), .second, .val (.double (FP.l2d (p1.toInt64))), .second, .val (.double (FP.l2d (p2.toInt64))), .second, .val (.double y1), .second, .val (.double y2), .second, vr b2, vi 1, .val (.double (FP.l2d (0 : Int64))), .second, .val (.double (FP.l2d (0 : Int64))), .second, .val (.double y10), .second, .val (.double (FP.l2d (p0.toInt64))), .second, .val (.double y10), .second, .val (.double y12), .second] (Value.double z :: [(.double y12)])) hy11.symm) ?_
    refine t_dcmp 287 (r := 0) X22.here hx (hb hby at_286) (by rw [hy12, hy11]; exact own_cmp0y ((Jvm.Free.Fl.Mag64.fin (Jvm.Free.Fl.l2d_mag _) (by decide)).noNaN) ((Jvm.Free.Fl.Mag64.fin mg_y10 (by decide)).noNaN) (by rw [← hy11]; exact (Jvm.Free.Fl.Mag64.fin mg_y11 (by decide)).noNaN) _) rfl ?_
    refine t_ifNo 290 X22.here hx (hb hby at_287) (by decide) rfl ?_
    refine t_iconst 291 (r := 1) X22.here hx (hb hby at_290) (by decide) rfl ?_
    refine t_goto (pc := 291) 295 X22.here hx (hb hby at_291) (by decide) (by decide) ?_
    refine t_istore (pc' := 297) (L' := #[vi p0, vi p1, vi p2, vi p3, vi p4, vi p5, vi 1, vr st_FLAT, vi 0, vi 0, .val (.double (FP.l2d (p0.toInt64))), .second, .val (.double (FP.l2d (p1.toInt64))), .second, .val (.double (FP.l2d (p2.toInt64))), .second, .val (.double y1), .second, .val (.double y2), .second, vr b2, vi 1, .val (.double (FP.l2d (0 : Int64))), .second, .val (.double (FP.l2d (0 : Int64))), .second, .val (.double y10), .second, .val (.double (FP.l2d (p0.toInt64))), .second, .val (.double y10), .second, .val (.double y12), .second]) X22.here hx (hb hby at_295) rfl rfl ?_
    refine t_iload 299 X22.here hx (hb hby at_297) rfl rfl ?_
    refine t_ifNo 302 X22.here hx (hb hby at_299) (by decide) rfl ?_
    refine t_aload 304 X22.here hx (hb hby at_302) rfl rfl rfl ?_
    refine st24 _ ?_
    refine castTop (g' := (mkF m 307 #[vi p0, vi p1, vi p2, vi p3, vi p4, vi p5, vi 1, vr st_FLAT, vi 0, vi 0, .val (.double (FP.l2d (p0.toInt64))), .second, .val (.double (FP.l2d (p1.toInt64))), .second, .val (.double (FP.l2d (p2.toInt64))), .second, .val (.double y1), .second, .val (.double y2), .second, vr b2, vi 1, .val (.double (FP.l2d (0 : Int64))), .second, .val (.double (FP.l2d (0 : Int64))), .second, .val (.double y10), .second, .val (.double (FP.l2d (p0.toInt64))), .second, .val (.double y10), .second, .val (.double y12), .second] [(.double y13)])) (congrArg (fun z => mkF m 307 #[vi p0, vi p1, vi p2, vi p3, vi p4, vi p5, vi 1, vr st_FLAT, vi 0, vi 0, .val (.double (FP.l2d (p0.toInt64))), .second, .val (.double (FP.l2d (p1.toInt64))), .second, .val (.double (FP.l2d (p2.toInt64))), .second, .val (.double y1), .second, .val (.double y2), .second, vr b2, vi 1, .val (.double (FP.l2d (0 : Int64))), .second, .val (.double (FP.l2d (0 : Int64))), .second, .val (.double y10), .second, .val (.double (FP.l2d (p0.toInt64))), .second, .val (.double y10), .second, .val (.double y12), .second] (Value.double z :: [])) hy13.symm) ?_
    refine t_dload 309 X24.here hx (hb hby at_307) rfl rfl ?_
    refine t_dload 311 X24.here hx (hb hby at_309) rfl rfl ?_
    refine t_dadd 312 (r := (FP.dadd (FP.l2d (p0.toInt64)) y12)) X24.here hx (hb hby at_311) (own_nnof hy13.symm (Jvm.Free.Fl.Mag64.fin mg_y13 (by decide)).noNaN) rfl rfl ?_
    refine castTop (g' := (mkF m 312 #[vi p0, vi p1, vi p2, vi p3, vi p4, vi p5, vi 1, vr st_FLAT, vi 0, vi 0, .val (.double (FP.l2d (p0.toInt64))), .second, .val (.double (FP.l2d (p1.toInt64))), .second, .val (.double (FP.l2d (p2.toInt64))), .second, .val (.double y1), .second, .val (.double y2), .second, vr b2, vi 1, .val (.double (FP.l2d (0 : Int64))), .second, .val (.double (FP.l2d (0 : Int64))), .second, .val (.double y10), .second, .val (.double (FP.l2d (p0.toInt64))), .second, .val (.double y10), .second, .val (.double y12), .second] [(.double y13), (.double y13)])) (congrArg (fun z => mkF m 312 #[vi p0, vi p1, vi p2, vi p3, vi p4, vi p5, vi 1, vr st_FLAT, vi 0, vi 0, .val (.double (FP.l2d (p0.toInt64))), .second, .val (.double (FP.l2d (p1.toInt64))), .second, .val (.double (FP.l2d (p2.toInt64))), .second, .val (.double y1), .second, .val (.double y2), .second, vr b2, vi 1, .val (.double (FP.l2d (0 : Int64))), .second, .val (.double (FP.l2d (0 : Int64))), .second, .val (.double y10), .second, .val (.double (FP.l2d (p0.toInt64))), .second, .val (.double y10), .second, .val (.double y12), .second] (Value.double z :: [(.double y13)])) hy13.symm) ?_
    refine t_dcmp 313 (r := 0) X24.here hx (hb hby at_312) (dcmpV_self ((Jvm.Free.Fl.Mag64.fin mg_y13 (by decide)).noNaN) _) rfl ?_
    refine t_ifNo 316 X24.here hx (hb hby at_313) (by decide) rfl ?_
    refine t_iconst 317 (r := 1) X24.here hx (hb hby at_316) (by decide) rfl ?_
    refine t_goto (pc := 317) 321 X24.here hx (hb hby at_317) (by decide) (by decide) ?_
    refine t_istore (pc' := 323) (L' := #[vi p0, vi p1, vi p2, vi p3, vi p4, vi p5, vi 1, vr st_FLAT, vi 0, vi 0, .val (.double (FP.l2d (p0.toInt64))), .second, .val (.double (FP.l2d (p1.toInt64))), .second, .val (.double (FP.l2d (p2.toInt64))), .second, .val (.double y1), .second, .val (.double y2), .second, vr b2, vi 1, .val (.double (FP.l2d (0 : Int64))), .second, .val (.double (FP.l2d (0 : Int64))), .second, .val (.double y10), .second, .val (.double (FP.l2d (p0.toInt64))), .second, .val (.double y10), .second, .val (.double y12), .second]) X24.here hx (hb hby at_321) rfl rfl ?_
    refine t_iload 325 X24.here hx (hb hby at_323) rfl rfl ?_
    exact retN X24 hx (t := .boolean) hret (by simp) (hb hby at_325) hr
theorem ef_law_1_1 (p0 p1 p2 p3 p4 p5 : Int32) (m : MethodId) : entryFrame m #[(.int p0), (.int p1), (.int p2), (.int p3), (.int p4), (.int p5)] maxLocals = mkF m 0 #[.val (.int p0), .val (.int p1), .val (.int p2), .val (.int p3), .val (.int p4), .val (.int p5), .unset, .unset, .unset, .unset, .unset, .unset, .unset, .unset, .unset, .unset, .unset, .unset, .unset, .unset, .unset, .unset, .unset, .unset, .unset, .unset, .unset, .unset, .unset, .unset, .unset, .unset, .unset, .unset] [] := by first | (simp [entryFrame, mkF, argsToLocals, Value.category, maxLocals]; done) | rfl
set_option maxRecDepth 65536 in
set_option maxHeartbeats 40000000 in
theorem law_1_1 (l : Launch) (Z : State) (a0 : Array Value) (hw : HW Z a0) (ws : List Jvm.Cond) (p0 p1 p2 p3 p4 p5 : Int32) (st_ALL st_FLAT st_SPREAD_EXCLUSIVE : Addr) (h0 : Heap) (n0 : Nat) (Z0 : n0 ≤ h0.size) (hk : ((p5 &&& (2147483647 : Int32)) - ((p5 &&& (2147483647 : Int32)) / (3 : Int32)) * (3 : Int32)) = (1 : Int32)) (hf1 : (((p5.toUInt32 >>> ((4 : Int32) &&& 31).toUInt32).toInt32) &&& (1 : Int32)) = (1 : Int32)) (S_FLAT : Sta Z Z.heap "com/example/rivulet/rivulet/instrument/CompoundMethod" "FLAT" "Lcom/example/rivulet/rivulet/instrument/CompoundMethod;" (.ref st_FLAT)) (O0 : Old Z n0 h0) (S_ALL : Sta Z Z.heap "com/example/rivulet/rivulet/instrument/CompoundMethod" "ALL" "Lcom/example/rivulet/rivulet/instrument/CompoundMethod;" (.ref st_ALL)) (S_SPREAD_EXCLUSIVE : Sta Z Z.heap "com/example/rivulet/rivulet/instrument/CompoundMethod" "SPREAD_EXCLUSIVE" "Lcom/example/rivulet/rivulet/instrument/CompoundMethod;" (.ref st_SPREAD_EXCLUSIVE)) (ne_st_ALL_st_FLAT : st_ALL ≠ st_FLAT) (ne_st_FLAT_st_SPREAD_EXCLUSIVE : st_FLAT ≠ st_SPREAD_EXCLUSIVE) :
    MetFree l x (head1 (Jvm.Cond.code x code maxLocals ret :: ws) room_1) (fun a U => a = #[(.int p0), (.int p1), (.int p2), (.int p3), (.int p4), (.int p5)] ∧ Z.Warmed39 U.vm ∧ U.heap = h0) (fun _ _ _ _ _ => True) (fun _ U o U' => ∃ v L, o = .returned v ∧ Q_law n0 v L ∧ FrameEnd U o U' L 16 128) := by
  refine own_law (y := x) (k := 1) (n := 6) (plainFor_of_name pn_AccrualCompoundPinLaw114) (ef_law_1_1 p0 p1 p2 p3 p4 p5) (by decide) (by decide) ?_
  intro p e s m below meth c s₁ hx hby hml hown hnm hret hZ hh e0 X0
  have N0 := Fr.nil n0
  obtain ⟨T1, X1, e1, st1⟩ := getS2 X0 hx hZ hown (host := "") (Or.inl (w60 hw)) Via.refl e0 (Sta.ext O0.2 S_FLAT) (g := (mkF m 26 #[vi p0, vi p1, vi p2, vi p3, vi p4, vi p5, vi 1, .unset, .unset, .unset, .unset, .unset, .unset, .unset, .unset, .unset, .unset, .unset, .unset, .unset, .unset, .unset, .unset, .unset, .unset, .unset, .unset, .unset, .unset, .unset, .unset, .unset, .unset, .unset] [])) rfl (hb hby at_26)
  obtain ⟨y1, hy1⟩ : ∃ z, z = (FP.ddiv (FP.l2d ((p3 &&& (1023 : Int32)).toInt64)) (4643211215818981376 : UInt64)) := ⟨_, rfl⟩
  have mg_y1 := own_mgk (K := 1081) hy1 (Jvm.RoadKit.ddiv_mag (K := 1088) (L := 1031) (Jvm.Free.Fl.l2d_mag _) (by unfold Big64; decide +kernel) (by decide) (by decide)) (by decide)
  obtain ⟨y2, hy2⟩ : ∃ z, z = (FP.ddiv (FP.l2d ((p4 &&& (1023 : Int32)).toInt64)) (4643211215818981376 : UInt64)) := ⟨_, rfl⟩
  have mg_y2 := own_mgk (K := 1081) hy2 (Jvm.RoadKit.ddiv_mag (K := 1088) (L := 1031) (Jvm.Free.Fl.l2d_mag _) (by unfold Big64; decide +kernel) (by decide) (by decide)) (by decide)
  obtain ⟨T2, h2, X2, e2, E2, A2, D2, -, st2⟩ := newO X1 hx hZ hown (w5 hw) (w6 hw) (w7 hw) e1 (g := (mkF m 103 #[vi p0, vi p1, vi p2, vi p3, vi p4, vi p5, vi 1, vr st_FLAT, vi 0, vi 1, .val (.double (FP.l2d (p0.toInt64))), .second, .val (.double (FP.l2d (p1.toInt64))), .second, .val (.double (FP.l2d (p2.toInt64))), .second, .val (.double y1), .second, .val (.double y2), .second, .unset, .unset, .unset, .unset, .unset, .unset, .unset, .unset, .unset, .unset, .unset, .unset, .unset, .unset] [])) rfl (hb hby at_103) (by decide) (by decide)
  obtain ⟨b2, g2⟩ : ∃ z, z = h0.size := ⟨_, rfl⟩
  rw [← g2] at A2 D2 st2
  have ge_b2 : h0.size ≤ b2 := Nat.le_of_eq g2.symm
  have K2 := KL.ofE E2
  have F_b2_balance : Fd0 Z h2 b2 (.double (FP.l2d (0 : Int64))) := Fld.zeroD (D2 (Or.inr (w15 hw)) (ty := .double) (by decide))
  have F_b2_rate : Fd1 Z h2 b2 (.double (FP.l2d (0 : Int64))) := Fld.zeroD (D2 (Or.inr (w17 hw)) (ty := .double) (by decide))
  have F_b2_margin : Fd2 Z h2 b2 (.double (FP.l2d (0 : Int64))) := Fld.zeroD (D2 (Or.inr (w19 hw)) (ty := .double) (by decide))
  have F_b2_method : Fd3 Z h2 b2 .null := D2 (Or.inr (w21 hw)) (ty := (.object "com/example/rivulet/rivulet/instrument/CompoundMethod")) (by decide)
  have F_b2_compounded : Fd4 Z h2 b2 (.double (FP.l2d (0 : Int64))) := Fld.zeroD (D2 (Or.inl (w28 hw)) (ty := .double) (by decide))
  have F_b2_pending : Fd5 Z h2 b2 (.double (FP.l2d (0 : Int64))) := Fld.zeroD (D2 (Or.inl (w30 hw)) (ty := .double) (by decide))
  obtain ⟨_, T3, L3, X3, hQ3, st3⟩ := own_init X2 hx hZ rfl hown (w8 hw) (w9 hw) (w7 hw) (w10 hw) (by decide) (r_init l Z a0 hw [] b2 (FP.l2d (p0.toInt64)) (FP.l2d (p1.toInt64)) (FP.l2d (p2.toInt64)) st_FLAT (.double (FP.l2d (0 : Int64))) (.double (FP.l2d (0 : Int64))) (.double (FP.l2d (0 : Int64))) .null h2 n0 (Nat.le_trans Z0 K2.1) F_b2_balance A2 (Nat.le_trans Z0 ge_b2) F_b2_rate F_b2_margin F_b2_method) e2 (W := 1) (by decide) (g := (mkF m 115 #[vi p0, vi p1, vi p2, vi p3, vi p4, vi p5, vi 1, vr st_FLAT, vi 0, vi 1, .val (.double (FP.l2d (p0.toInt64))), .second, .val (.double (FP.l2d (p1.toInt64))), .second, .val (.double (FP.l2d (p2.toInt64))), .second, .val (.double y1), .second, .val (.double y2), .second, .unset, .unset, .unset, .unset, .unset, .unset, .unset, .unset, .unset, .unset, .unset, .unset, .unset, .unset] [(.ref st_FLAT), (.double (FP.l2d (p2.toInt64))), (.double (FP.l2d (p1.toInt64))), (.double (FP.l2d (p0.toInt64))), (.ref b2), (.ref b2)])) rfl hml.symm (argsL := [(.double (FP.l2d (p0.toInt64))), (.double (FP.l2d (p1.toInt64))), (.double (FP.l2d (p2.toInt64))), (.ref st_FLAT)]) (rest := [(.ref b2)]) (lenOf pd_2 rfl) rfl rfl (own_wr rfl rfl) (hb hby at_115)
  obtain ⟨rfl, N3q, K3, Q3_0, Q3_1, Q3_2, Q3_3⟩ := hQ3
  have N3 := Fr.app N0 N3q
  have f5 := (kExa K3 A2)
  have f6 := (kFld K3 F_b2_compounded (nwS (Or.inr (sn_17 hw)) (nwS (Or.inr (sn_16 hw)) (nwS (Or.inr (sn_15 hw)) (nwS (Or.inr (sn_14 hw)) nw0)))))
  obtain ⟨y3, hy3⟩ : ∃ z, z = (FP.dsub (FP.l2d (p1.toInt64)) (FP.l2d (p2.toInt64))) := ⟨_, rfl⟩
  have mg_y3 := own_mgk (K := 1090) hy3 (Jvm.Free.Fl.dsub_mag (K := 1088) (Jvm.Free.Fl.Mag64.mono (Jvm.Free.Fl.l2d_mag _) (by decide)) (Jvm.Free.Fl.Mag64.mono (Jvm.Free.Fl.l2d_mag _) (by decide)) (by decide)) (by decide)
  obtain ⟨y4, hy4⟩ : ∃ z, z = (FP.dmul (FP.l2d (p0.toInt64)) y3) := ⟨_, rfl⟩
  have mg_y4 := own_mgk (K := 1156) hy4 (Jvm.Free.Fl.dmul_mag (Jvm.Free.Fl.l2d_mag _) mg_y3 (by decide) (by decide)) (by decide)
  obtain ⟨y5, hy5⟩ : ∃ z, z = (FP.ddiv y4 (4636737291354636288 : UInt64)) := ⟨_, rfl⟩
  have mg_y5 := own_mgk (K := 1151) hy5 (Jvm.RoadKit.ddiv_mag (K := 1156) (L := 1029) mg_y4 (by unfold Big64; decide +kernel) (by decide) (by decide)) (by decide)
  obtain ⟨y6, hy6⟩ : ∃ z, z = (FP.dmul y5 y1) := ⟨_, rfl⟩
  have mg_y6 := own_mgk (K := 1210) hy6 (Jvm.Free.Fl.dmul_mag mg_y5 mg_y1 (by decide) (by decide)) (by decide)
  have f7 := (kOld K3 (kOld K2 O0 na0) (naGM 4 rfl (Nat.le_trans Z0 ge_b2) na0))
  obtain ⟨y7, hy7⟩ : ∃ z, z = (FP.dmul (FP.l2d (p0.toInt64)) (FP.l2d (p2.toInt64))) := ⟨_, rfl⟩
  have mg_y7 := own_mgk (K := 1154) hy7 (Jvm.Free.Fl.dmul_mag (Jvm.Free.Fl.l2d_mag _) (Jvm.Free.Fl.l2d_mag _) (by decide) (by decide)) (by decide)
  obtain ⟨y8, hy8⟩ : ∃ z, z = (FP.ddiv y7 (4636737291354636288 : UInt64)) := ⟨_, rfl⟩
  have mg_y8 := own_mgk (K := 1149) hy8 (Jvm.RoadKit.ddiv_mag (K := 1154) (L := 1029) mg_y7 (by unfold Big64; decide +kernel) (by decide) (by decide)) (by decide)
  obtain ⟨y9, hy9⟩ : ∃ z, z = (FP.dmul y8 y1) := ⟨_, rfl⟩
  have mg_y9 := own_mgk (K := 1208) hy9 (Jvm.Free.Fl.dmul_mag mg_y8 mg_y1 (by decide) (by decide)) (by decide)
  have f8 := (kFld K3 F_b2_pending (nwS (Or.inr (sn_21 hw)) (nwS (Or.inr (sn_20 hw)) (nwS (Or.inr (sn_19 hw)) (nwS (Or.inr (sn_18 hw)) nw0)))))
  obtain ⟨y10, hy10⟩ : ∃ z, z = (FP.dadd y6 y9) := ⟨_, rfl⟩
  have mg_y10 := own_mgk (K := 1212) hy10 (Jvm.Free.Fl.dadd_mag (K := 1210) (Jvm.Free.Fl.Mag64.mono mg_y6 (by decide)) (Jvm.Free.Fl.Mag64.mono mg_y9 (by decide)) (by decide)) (by decide)
  obtain ⟨y11, hy11⟩ : ∃ z, z = (FP.dadd (FP.l2d (0 : Int64)) y10) := ⟨_, rfl⟩
  have mg_y11 := own_mgk (K := 1214) hy11 (Jvm.Free.Fl.dadd_mag (K := 1212) (Jvm.Free.Fl.Mag64.mono (Jvm.Free.Fl.l2d_mag _) (by decide)) (Jvm.Free.Fl.Mag64.mono mg_y10 (by decide)) (by decide)) (by decide)
  have sz_0_2 := (Nat.le_trans K2.1 K3.1)
  obtain ⟨_, T4, L4, X4, hQ4, st4⟩ := own_virtual X3 hx hZ hown (w36 hw) (w37 hw) (nfS hZ (w39 hw)) (w39 hw) (w38 hw) (w7 hw) (w40 hw) (by decide) (r_accrue_FLAT l Z a0 hw [] b2 y1 (FP.l2d (p0.toInt64)) (FP.l2d (0 : Int64)) (FP.l2d (p1.toInt64)) (FP.l2d (p2.toInt64)) st_FLAT st_ALL (FP.l2d (0 : Int64)) st_SPREAD_EXCLUSIVE T3.heap n0 (Nat.le_trans Z0 sz_0_2) f5 Q3_0 f6 ((own_nnof (own_l2dz _) (Jvm.Free.Fl.Mag64.fin (Jvm.Free.Fl.l2d_mag _) (by decide)).noNaN)) Q3_1 Q3_2 ((own_nnof hy3.symm (Jvm.Free.Fl.Mag64.fin mg_y3 (by decide)).noNaN)) ((own_nnof (own_cg2 (f := FP.dmul) (own_l2dz _) hy3.symm hy4.symm) (Jvm.Free.Fl.Mag64.fin mg_y4 (by decide)).noNaN)) ((own_nnof (own_cg2 (f := FP.ddiv) (own_cg2 (f := FP.dmul) (own_l2dz _) hy3.symm hy4.symm) rfl hy5.symm) (Jvm.Free.Fl.Mag64.fin mg_y5 (by decide)).noNaN)) ((own_nnof (own_cg2 (f := FP.dmul) (own_cg2 (f := FP.ddiv) (own_cg2 (f := FP.dmul) (own_l2dz _) hy3.symm hy4.symm) rfl hy5.symm) rfl hy6.symm) (Jvm.Free.Fl.Mag64.fin mg_y6 (by decide)).noNaN)) Q3_3 S_ALL f7 ne_st_ALL_st_FLAT ((own_nnof hy7.symm (Jvm.Free.Fl.Mag64.fin mg_y7 (by decide)).noNaN)) ((own_nnof (own_cg2 (f := FP.ddiv) hy7.symm rfl hy8.symm) (Jvm.Free.Fl.Mag64.fin mg_y8 (by decide)).noNaN)) ((own_nnof (own_cg2 (f := FP.dmul) (own_cg2 (f := FP.ddiv) hy7.symm rfl hy8.symm) rfl hy9.symm) (Jvm.Free.Fl.Mag64.fin mg_y9 (by decide)).noNaN)) f8 S_SPREAD_EXCLUSIVE ne_st_FLAT_st_SPREAD_EXCLUSIVE ((own_nnof (own_cg2 (f := FP.dadd) (own_cg2 (f := FP.dmul) (own_cg2 (f := FP.ddiv) (own_cg2 (f := FP.dmul) (own_l2dz _) hy3.symm hy4.symm) rfl hy5.symm) rfl hy6.symm) (own_cg2 (f := FP.dmul) (own_cg2 (f := FP.ddiv) hy7.symm rfl hy8.symm) rfl hy9.symm) hy10.symm) (Jvm.Free.Fl.Mag64.fin mg_y10 (by decide)).noNaN)) ((own_nnof (own_cg2 (f := FP.dadd) rfl (own_cg2 (f := FP.dadd) (own_cg2 (f := FP.dmul) (own_cg2 (f := FP.ddiv) (own_cg2 (f := FP.dmul) (own_l2dz _) hy3.symm hy4.symm) rfl hy5.symm) rfl hy6.symm) (own_cg2 (f := FP.dmul) (own_cg2 (f := FP.ddiv) hy7.symm rfl hy8.symm) rfl hy9.symm) hy10.symm) hy11.symm) (Jvm.Free.Fl.Mag64.fin mg_y11 (by decide)).noNaN)) (Nat.le_trans Z0 ge_b2)) rfl f5 (W := 0) (by decide) (g := (mkF m 135 #[vi p0, vi p1, vi p2, vi p3, vi p4, vi p5, vi 1, vr st_FLAT, vi 0, vi 1, .val (.double (FP.l2d (p0.toInt64))), .second, .val (.double (FP.l2d (p1.toInt64))), .second, .val (.double (FP.l2d (p2.toInt64))), .second, .val (.double y1), .second, .val (.double y2), .second, vr b2, vi 1, .val (.double (FP.l2d (0 : Int64))), .second, .unset, .unset, .unset, .unset, .unset, .unset, .unset, .unset, .unset, .unset] [(.double y1), (.ref b2)])) rfl hml.symm (argsL := [(.double y1)]) (rest := []) (lenOf pd_4 rfl) rfl rfl (own_wr rfl rfl) (hb hby at_135)
  obtain ⟨rfl, N4q, K4, Q4_0⟩ := hQ4
  have N4 := Fr.app N3 N4q
  have Q4_0' : Fd5 Z T4.heap b2 (.double y11) := Eq.mp (congrArg (fun z => Fd5 Z T4.heap b2 (Value.double z)) (own_cg2 (f := FP.dadd) rfl (own_cg2 (f := FP.dadd) (own_cg2 (f := FP.dmul) (own_cg2 (f := FP.ddiv) (own_cg2 (f := FP.dmul) (own_l2dz _) hy3.symm hy4.symm) rfl hy5.symm) rfl hy6.symm) (own_cg2 (f := FP.dmul) (own_cg2 (f := FP.ddiv) hy7.symm rfl hy8.symm) rfl hy9.symm) hy10.symm) hy11.symm)) Q4_0
  have f10 := (kFld K4 f6 (nwS (Or.inr (sn_13 hw)) nw0))
  obtain ⟨y12, hy12⟩ : ∃ z, z = (FP.dadd (FP.l2d (0 : Int64)) y11) := ⟨_, rfl⟩
  have mg_y12 := own_mgk (K := 1216) hy12 (Jvm.Free.Fl.dadd_mag (K := 1214) (Jvm.Free.Fl.Mag64.mono (Jvm.Free.Fl.l2d_mag _) (by decide)) (Jvm.Free.Fl.Mag64.mono mg_y11 (by decide)) (by decide)) (by decide)
  have f11 := (kExa K4 f5)
  have sz_0_3 := (Nat.le_trans sz_0_2 K4.1)
  obtain ⟨_, T9, L9, X9, hQ9, st9⟩ := own_virtual X4 hx hZ hown (w22 hw) (w23 hw) (nfS hZ (w25 hw)) (w25 hw) (w24 hw) (w7 hw) (w26 hw) (by decide) (r_compound l Z a0 hw [] b2 (FP.l2d (0 : Int64)) y11 T4.heap n0 (Nat.le_trans Z0 sz_0_3) f10 Q4_0' ((own_nnof hy12.symm (Jvm.Free.Fl.Mag64.fin mg_y12 (by decide)).noNaN)) f11 (Nat.le_trans Z0 ge_b2)) rfl f11 (W := 0) (by decide) (g := (mkF m 165 #[vi p0, vi p1, vi p2, vi p3, vi p4, vi p5, vi 1, vr st_FLAT, vi 0, vi 1, .val (.double (FP.l2d (p0.toInt64))), .second, .val (.double (FP.l2d (p1.toInt64))), .second, .val (.double (FP.l2d (p2.toInt64))), .second, .val (.double y1), .second, .val (.double y2), .second, vr b2, vi 1, .val (.double y10), .second, .val (.double y10), .second, .unset, .unset, .unset, .unset, .unset, .unset, .unset, .unset] [(.ref b2)])) rfl hml.symm (argsL := []) (rest := []) (lenOf pd_3 rfl) rfl rfl (own_wr rfl rfl) (hb hby at_165)
  obtain ⟨rfl, N9q, K9, Q9_0, Q9_1⟩ := hQ9
  have N9 := Fr.app N4 N9q
  have Q9_0' : Fd4 Z T9.heap b2 (.double y12) := Eq.mp (congrArg (fun z => Fd4 Z T9.heap b2 (Value.double z)) hy12.symm) Q9_0
  have sz_0_4 := (Nat.le_trans sz_0_3 K9.1)
  have f13 := (kExa K9 f11)
  obtain ⟨_, T12, L12, X12, hQ12, st12⟩ := own_virtual X9 hx hZ hown (w31 hw) (w32 hw) (nfS hZ (w34 hw)) (w34 hw) (w33 hw) (w7 hw) (w35 hw) (by decide) (r_compounded l Z a0 hw [] b2 y12 T9.heap n0 (Nat.le_trans Z0 sz_0_4) Q9_0') rfl f13 (W := 0) (by decide) (g := (mkF m 170 #[vi p0, vi p1, vi p2, vi p3, vi p4, vi p5, vi 1, vr st_FLAT, vi 0, vi 1, .val (.double (FP.l2d (p0.toInt64))), .second, .val (.double (FP.l2d (p1.toInt64))), .second, .val (.double (FP.l2d (p2.toInt64))), .second, .val (.double y1), .second, .val (.double y2), .second, vr b2, vi 1, .val (.double y10), .second, .val (.double y10), .second, .unset, .unset, .unset, .unset, .unset, .unset, .unset, .unset] [(.ref b2)])) rfl hml.symm (argsL := []) (rest := []) (lenOf pd_0 rfl) rfl rfl (own_wr rfl rfl) (hb hby at_170)
  obtain ⟨rfl, N12q, e12⟩ := hQ12
  have N12 := Fr.app N9 N12q
  obtain ⟨_, T14, L14, X14, hQ14, st14⟩ := own_virtual X12 hx hZ hown (w22 hw) (w23 hw) (nfS hZ (w25 hw)) (w25 hw) (w24 hw) (w7 hw) (w26 hw) (by decide) (r_compound l Z a0 hw [] b2 y12 (FP.l2d (0 : Int64)) T9.heap n0 (Nat.le_trans Z0 sz_0_4) Q9_0' Q9_1 ((own_nnof (by rw [hy12]; exact own_zr ((Jvm.Free.Fl.Mag64.fin mg_y11 (by decide)).noNaN)) (Jvm.Free.Fl.Mag64.fin mg_y12 (by decide)).noNaN)) f13 (Nat.le_trans Z0 ge_b2)) e12 f13 (W := 0) (by decide) (g := (mkF m 197 #[vi p0, vi p1, vi p2, vi p3, vi p4, vi p5, vi 1, vr st_FLAT, vi 0, vi 1, .val (.double (FP.l2d (p0.toInt64))), .second, .val (.double (FP.l2d (p1.toInt64))), .second, .val (.double (FP.l2d (p2.toInt64))), .second, .val (.double y1), .second, .val (.double y2), .second, vr b2, vi 1, .val (.double y10), .second, .val (.double y12), .second, .unset, .unset, .unset, .unset, .unset, .unset, .unset, .unset] [(.ref b2)])) rfl hml.symm (argsL := []) (rest := []) (lenOf pd_3 rfl) rfl rfl (own_wr rfl rfl) (hb hby at_197)
  obtain ⟨rfl, N14q, K14, Q14_0, Q14_1⟩ := hQ14
  have N14 := Fr.app N12 N14q
  have Q14_0' : Fd4 Z T14.heap b2 (.double y12) := Eq.mp (congrArg (fun z => Fd4 Z T14.heap b2 (Value.double z)) (by rw [hy12]; exact own_zr ((Jvm.Free.Fl.Mag64.fin mg_y11 (by decide)).noNaN))) Q14_0
  have sz_0_5 := (Nat.le_trans sz_0_4 K14.1)
  have f16 := (kExa K14 f13)
  obtain ⟨_, T15, L15, X15, hQ15, st15⟩ := own_virtual X14 hx hZ hown (w31 hw) (w32 hw) (nfS hZ (w34 hw)) (w34 hw) (w33 hw) (w7 hw) (w35 hw) (by decide) (r_compounded l Z a0 hw [] b2 y12 T14.heap n0 (Nat.le_trans Z0 sz_0_5) Q14_0') rfl f16 (W := 0) (by decide) (g := (mkF m 207 #[vi p0, vi p1, vi p2, vi p3, vi p4, vi p5, vi 1, vr st_FLAT, vi 0, vi 1, .val (.double (FP.l2d (p0.toInt64))), .second, .val (.double (FP.l2d (p1.toInt64))), .second, .val (.double (FP.l2d (p2.toInt64))), .second, .val (.double y1), .second, .val (.double y2), .second, vr b2, vi 1, .val (.double y10), .second, .val (.double y12), .second, .unset, .unset, .unset, .unset, .unset, .unset, .unset, .unset] [(.ref b2)])) rfl hml.symm (argsL := []) (rest := []) (lenOf pd_0 rfl) rfl rfl (own_wr rfl rfl) (hb hby at_207)
  obtain ⟨rfl, N15q, e15⟩ := hQ15
  have N15 := Fr.app N14 N15q
  have f18 := (kFld K14 (kFld K9 (kFld K4 Q3_0 (nwS (Or.inr (sn_22 hw)) nw0)) (nwS (Or.inr (sn_23 hw)) (nwS (Or.inr (sn_22 hw)) nw0))) (nwS (Or.inr (sn_23 hw)) (nwS (Or.inr (sn_22 hw)) nw0)))
  obtain ⟨y13, hy13⟩ : ∃ z, z = (FP.dadd (FP.l2d (p0.toInt64)) y12) := ⟨_, rfl⟩
  have mg_y13 := own_mgk (K := 1218) hy13 (Jvm.Free.Fl.dadd_mag (K := 1216) (Jvm.Free.Fl.Mag64.mono (Jvm.Free.Fl.l2d_mag _) (by decide)) (Jvm.Free.Fl.Mag64.mono mg_y12 (by decide)) (by decide)) (by decide)
  have f19 := (kFld K14 (kFld K9 (kFld K4 Q3_1 (nwS (Or.inr (sn_24 hw)) nw0)) (nwS (Or.inr (sn_25 hw)) (nwS (Or.inr (sn_24 hw)) nw0))) (nwS (Or.inr (sn_25 hw)) (nwS (Or.inr (sn_24 hw)) nw0)))
  have f20 := (kFld K14 (kFld K9 (kFld K4 Q3_2 (nwS (Or.inr (sn_26 hw)) nw0)) (nwS (Or.inr (sn_27 hw)) (nwS (Or.inr (sn_26 hw)) nw0))) (nwS (Or.inr (sn_27 hw)) (nwS (Or.inr (sn_26 hw)) nw0)))
  obtain ⟨y14, hy14⟩ : ∃ z, z = (FP.dmul y13 y3) := ⟨_, rfl⟩
  have mg_y14 := own_mgk (K := 1286) hy14 (Jvm.Free.Fl.dmul_mag mg_y13 mg_y3 (by decide) (by decide)) (by decide)
  obtain ⟨y15, hy15⟩ : ∃ z, z = (FP.ddiv y14 (4636737291354636288 : UInt64)) := ⟨_, rfl⟩
  have mg_y15 := own_mgk (K := 1281) hy15 (Jvm.RoadKit.ddiv_mag (K := 1286) (L := 1029) mg_y14 (by unfold Big64; decide +kernel) (by decide) (by decide)) (by decide)
  obtain ⟨y16, hy16⟩ : ∃ z, z = (FP.dmul y15 y2) := ⟨_, rfl⟩
  have mg_y16 := own_mgk (K := 1340) hy16 (Jvm.Free.Fl.dmul_mag mg_y15 mg_y2 (by decide) (by decide)) (by decide)
  have f21 := (kFld K14 (kFld K9 (kFld K4 Q3_3 (nwS (Or.inr (sn_28 hw)) nw0)) (nwS (Or.inr (sn_29 hw)) (nwS (Or.inr (sn_28 hw)) nw0))) (nwS (Or.inr (sn_29 hw)) (nwS (Or.inr (sn_28 hw)) nw0)))
  have f22 := (kOld K14 (kOld K9 (kOld K4 f7 (naS (P := fun w => n0 ≤ w.1) (Nat.le_trans Z0 ge_b2) na0)) (naS (P := fun w => n0 ≤ w.1) (Nat.le_trans Z0 ge_b2) (naS (P := fun w => n0 ≤ w.1) (Nat.le_trans Z0 ge_b2) na0))) (naS (P := fun w => n0 ≤ w.1) (Nat.le_trans Z0 ge_b2) (naS (P := fun w => n0 ≤ w.1) (Nat.le_trans Z0 ge_b2) na0)))
  obtain ⟨y17, hy17⟩ : ∃ z, z = (FP.dmul y8 y2) := ⟨_, rfl⟩
  have mg_y17 := own_mgk (K := 1208) hy17 (Jvm.Free.Fl.dmul_mag mg_y8 mg_y2 (by decide) (by decide)) (by decide)
  obtain ⟨y18, hy18⟩ : ∃ z, z = (FP.dadd y16 y17) := ⟨_, rfl⟩
  have mg_y18 := own_mgk (K := 1342) hy18 (Jvm.Free.Fl.dadd_mag (K := 1340) (Jvm.Free.Fl.Mag64.mono mg_y16 (by decide)) (Jvm.Free.Fl.Mag64.mono mg_y17 (by decide)) (by decide)) (by decide)
  obtain ⟨y19, hy19⟩ : ∃ z, z = (FP.dadd (FP.l2d (0 : Int64)) y18) := ⟨_, rfl⟩
  have mg_y19 := own_mgk (K := 1344) hy19 (Jvm.Free.Fl.dadd_mag (K := 1342) (Jvm.Free.Fl.Mag64.mono (Jvm.Free.Fl.l2d_mag _) (by decide)) (Jvm.Free.Fl.Mag64.mono mg_y18 (by decide)) (by decide)) (by decide)
  obtain ⟨_, T17, L17, X17, hQ17, st17⟩ := own_virtual X15 hx hZ hown (w36 hw) (w37 hw) (nfS hZ (w39 hw)) (w39 hw) (w38 hw) (w7 hw) (w40 hw) (by decide) (r_accrue_FLAT l Z a0 hw [] b2 y2 (FP.l2d (p0.toInt64)) y12 (FP.l2d (p1.toInt64)) (FP.l2d (p2.toInt64)) st_FLAT st_ALL (FP.l2d (0 : Int64)) st_SPREAD_EXCLUSIVE T14.heap n0 (Nat.le_trans Z0 sz_0_5) f16 f18 Q14_0' ((own_nnof hy13.symm (Jvm.Free.Fl.Mag64.fin mg_y13 (by decide)).noNaN)) f19 f20 ((own_nnof hy3.symm (Jvm.Free.Fl.Mag64.fin mg_y3 (by decide)).noNaN)) ((own_nnof (own_cg2 (f := FP.dmul) hy13.symm hy3.symm hy14.symm) (Jvm.Free.Fl.Mag64.fin mg_y14 (by decide)).noNaN)) ((own_nnof (own_cg2 (f := FP.ddiv) (own_cg2 (f := FP.dmul) hy13.symm hy3.symm hy14.symm) rfl hy15.symm) (Jvm.Free.Fl.Mag64.fin mg_y15 (by decide)).noNaN)) ((own_nnof (own_cg2 (f := FP.dmul) (own_cg2 (f := FP.ddiv) (own_cg2 (f := FP.dmul) hy13.symm hy3.symm hy14.symm) rfl hy15.symm) rfl hy16.symm) (Jvm.Free.Fl.Mag64.fin mg_y16 (by decide)).noNaN)) f21 S_ALL f22 ne_st_ALL_st_FLAT ((own_nnof hy7.symm (Jvm.Free.Fl.Mag64.fin mg_y7 (by decide)).noNaN)) ((own_nnof (own_cg2 (f := FP.ddiv) hy7.symm rfl hy8.symm) (Jvm.Free.Fl.Mag64.fin mg_y8 (by decide)).noNaN)) ((own_nnof (own_cg2 (f := FP.dmul) (own_cg2 (f := FP.ddiv) hy7.symm rfl hy8.symm) rfl hy17.symm) (Jvm.Free.Fl.Mag64.fin mg_y17 (by decide)).noNaN)) Q14_1 S_SPREAD_EXCLUSIVE ne_st_FLAT_st_SPREAD_EXCLUSIVE ((own_nnof (own_cg2 (f := FP.dadd) (own_cg2 (f := FP.dmul) (own_cg2 (f := FP.ddiv) (own_cg2 (f := FP.dmul) hy13.symm hy3.symm hy14.symm) rfl hy15.symm) rfl hy16.symm) (own_cg2 (f := FP.dmul) (own_cg2 (f := FP.ddiv) hy7.symm rfl hy8.symm) rfl hy17.symm) hy18.symm) (Jvm.Free.Fl.Mag64.fin mg_y18 (by decide)).noNaN)) ((own_nnof (own_cg2 (f := FP.dadd) rfl (own_cg2 (f := FP.dadd) (own_cg2 (f := FP.dmul) (own_cg2 (f := FP.ddiv) (own_cg2 (f := FP.dmul) hy13.symm hy3.symm hy14.symm) rfl hy15.symm) rfl hy16.symm) (own_cg2 (f := FP.dmul) (own_cg2 (f := FP.ddiv) hy7.symm rfl hy8.symm) rfl hy17.symm) hy18.symm) hy19.symm) (Jvm.Free.Fl.Mag64.fin mg_y19 (by decide)).noNaN)) (Nat.le_trans Z0 ge_b2)) e15 f16 (W := 0) (by decide) (g := (mkF m 227 #[vi p0, vi p1, vi p2, vi p3, vi p4, vi p5, vi 1, vr st_FLAT, vi 0, vi 1, .val (.double (FP.l2d (p0.toInt64))), .second, .val (.double (FP.l2d (p1.toInt64))), .second, .val (.double (FP.l2d (p2.toInt64))), .second, .val (.double y1), .second, .val (.double y2), .second, vr b2, vi 1, .val (.double y10), .second, .val (.double y12), .second, .unset, .unset, .unset, .unset, .unset, .unset, .unset, .unset] [(.double y2), (.ref b2)])) rfl hml.symm (argsL := [(.double y2)]) (rest := []) (lenOf pd_4 rfl) rfl rfl (own_wr rfl rfl) (hb hby at_227)
  obtain ⟨rfl, N17q, K17, Q17_0⟩ := hQ17
  have N17 := Fr.app N15 N17q
  have Q17_0' : Fd5 Z T17.heap b2 (.double y19) := Eq.mp (congrArg (fun z => Fd5 Z T17.heap b2 (Value.double z)) (own_cg2 (f := FP.dadd) rfl (own_cg2 (f := FP.dadd) (own_cg2 (f := FP.dmul) (own_cg2 (f := FP.ddiv) (own_cg2 (f := FP.dmul) hy13.symm hy3.symm hy14.symm) rfl hy15.symm) rfl hy16.symm) (own_cg2 (f := FP.dmul) (own_cg2 (f := FP.ddiv) hy7.symm rfl hy8.symm) rfl hy17.symm) hy18.symm) hy19.symm)) Q17_0
  have f24 := (kFld K17 Q14_0' (nwS (Or.inr (sn_13 hw)) nw0))
  obtain ⟨y20, hy20⟩ : ∃ z, z = (FP.dadd y12 y19) := ⟨_, rfl⟩
  have mg_y20 := own_mgk (K := 1346) hy20 (Jvm.Free.Fl.dadd_mag (K := 1344) (Jvm.Free.Fl.Mag64.mono mg_y12 (by decide)) (Jvm.Free.Fl.Mag64.mono mg_y19 (by decide)) (by decide)) (by decide)
  have f25 := (kExa K17 f16)
  have sz_0_6 := (Nat.le_trans sz_0_5 K17.1)
  obtain ⟨_, T23, L23, X23, hQ23, st23⟩ := own_virtual X17 hx hZ hown (w22 hw) (w23 hw) (nfS hZ (w25 hw)) (w25 hw) (w24 hw) (w7 hw) (w26 hw) (by decide) (r_compound l Z a0 hw [] b2 y12 y19 T17.heap n0 (Nat.le_trans Z0 sz_0_6) f24 Q17_0' ((own_nnof hy20.symm (Jvm.Free.Fl.Mag64.fin mg_y20 (by decide)).noNaN)) f25 (Nat.le_trans Z0 ge_b2)) rfl f25 (W := 0) (by decide) (g := (mkF m 264 #[vi p0, vi p1, vi p2, vi p3, vi p4, vi p5, vi 1, vr st_FLAT, vi 0, vi 1, .val (.double (FP.l2d (p0.toInt64))), .second, .val (.double (FP.l2d (p1.toInt64))), .second, .val (.double (FP.l2d (p2.toInt64))), .second, .val (.double y1), .second, .val (.double y2), .second, vr b2, vi 1, .val (.double y10), .second, .val (.double y12), .second, .val (.double y18), .second, .val (.double y13), .second, .val (.double y18), .second, .unset, .unset] [(.ref b2)])) rfl hml.symm (argsL := []) (rest := []) (lenOf pd_3 rfl) rfl rfl (own_wr rfl rfl) (hb hby at_264)
  obtain ⟨rfl, N23q, K23, Q23_0, Q23_1⟩ := hQ23
  have N23 := Fr.app N17 N23q
  have Q23_0' : Fd4 Z T23.heap b2 (.double y20) := Eq.mp (congrArg (fun z => Fd4 Z T23.heap b2 (Value.double z)) hy20.symm) Q23_0
  have sz_0_7 := (Nat.le_trans sz_0_6 K23.1)
  have f27 := (kExa K23 f25)
  obtain ⟨_, T26, L26, X26, hQ26, st26⟩ := own_virtual X23 hx hZ hown (w31 hw) (w32 hw) (nfS hZ (w34 hw)) (w34 hw) (w33 hw) (w7 hw) (w35 hw) (by decide) (r_compounded l Z a0 hw [] b2 y20 T23.heap n0 (Nat.le_trans Z0 sz_0_7) Q23_0') rfl f27 (W := 0) (by decide) (g := (mkF m 269 #[vi p0, vi p1, vi p2, vi p3, vi p4, vi p5, vi 1, vr st_FLAT, vi 0, vi 1, .val (.double (FP.l2d (p0.toInt64))), .second, .val (.double (FP.l2d (p1.toInt64))), .second, .val (.double (FP.l2d (p2.toInt64))), .second, .val (.double y1), .second, .val (.double y2), .second, vr b2, vi 1, .val (.double y10), .second, .val (.double y12), .second, .val (.double y18), .second, .val (.double y13), .second, .val (.double y18), .second, .unset, .unset] [(.ref b2)])) rfl hml.symm (argsL := []) (rest := []) (lenOf pd_0 rfl) rfl rfl (own_wr rfl rfl) (hb hby at_269)
  obtain ⟨rfl, N26q, e26⟩ := hQ26
  have N26 := Fr.app N23 N26q
  obtain ⟨y21, hy21⟩ : ∃ z, z = (FP.dadd y12 y18) := ⟨_, rfl⟩
  have mg_y21 := own_mgk (K := 1344) hy21 (Jvm.Free.Fl.dadd_mag (K := 1342) (Jvm.Free.Fl.Mag64.mono mg_y12 (by decide)) (Jvm.Free.Fl.Mag64.mono mg_y18 (by decide)) (by decide)) (by decide)
  have f29 := (kFld K23 (kFld K17 f18 (nwS (Or.inr (sn_22 hw)) nw0)) (nwS (Or.inr (sn_23 hw)) (nwS (Or.inr (sn_22 hw)) nw0)))
  obtain ⟨y22, hy22⟩ : ∃ z, z = (FP.dadd (FP.l2d (p0.toInt64)) y20) := ⟨_, rfl⟩
  have mg_y22 := own_mgk (K := 1348) hy22 (Jvm.Free.Fl.dadd_mag (K := 1346) (Jvm.Free.Fl.Mag64.mono (Jvm.Free.Fl.l2d_mag _) (by decide)) (Jvm.Free.Fl.Mag64.mono mg_y20 (by decide)) (by decide)) (by decide)
  obtain ⟨_, T28, L28, X28, hQ28, st28⟩ := own_virtual X26 hx hZ hown (w53 hw) (w42 hw) (nfS hZ (w44 hw)) (w44 hw) (w43 hw) (w7 hw) (w45 hw) (by decide) (r_base l Z a0 hw [] b2 (FP.l2d (p0.toInt64)) y20 T23.heap n0 (Nat.le_trans Z0 sz_0_7) f29 Q23_0' ((own_nnof hy22.symm (Jvm.Free.Fl.Mag64.fin mg_y22 (by decide)).noNaN))) e26 f27 (W := 0) (by decide) (g := (mkF m 304 #[vi p0, vi p1, vi p2, vi p3, vi p4, vi p5, vi 1, vr st_FLAT, vi 0, vi 1, .val (.double (FP.l2d (p0.toInt64))), .second, .val (.double (FP.l2d (p1.toInt64))), .second, .val (.double (FP.l2d (p2.toInt64))), .second, .val (.double y1), .second, .val (.double y2), .second, vr b2, vi 1, .val (.double y10), .second, .val (.double y12), .second, .val (.double y18), .second, .val (.double y13), .second, .val (.double y18), .second, .val (.double y20), .second] [(.ref b2)])) rfl hml.symm (argsL := []) (rest := []) (lenOf pd_0 rfl) rfl rfl (own_wr rfl rfl) (hb hby at_304)
  obtain ⟨rfl, N28q, e28⟩ := hQ28
  have N28 := Fr.app N26 N28q
  refine ⟨T28, _, some (.int 1), X28, (fun h => by cases h <;> rfl), ?_, fun fs hr => ?_⟩
  · show Q_law n0 _ _
    exact ⟨rfl, N28⟩
  · refine t_iload 2 X0.here hx (hb hby at_0) rfl rfl ?_
    refine X0.ldcInt hx hown (mvT hZ (w0 hw)) (g := (mkF m 2 #[vi p0, vi p1, vi p2, vi p3, vi p4, vi p5, .unset, .unset, .unset, .unset, .unset, .unset, .unset, .unset, .unset, .unset, .unset, .unset, .unset, .unset, .unset, .unset, .unset, .unset, .unset, .unset, .unset, .unset, .unset, .unset, .unset, .unset, .unset, .unset] [(.int p5)])) rfl (hb hby at_2) _ ?_
    refine t_iand 5 X0.here hx (hb hby at_4) rfl rfl ?_
    refine t_iconst 6 (r := 3) X0.here hx (hb hby at_5) (by decide) rfl ?_
    refine t_irem 7 (r := 1) X0.here hx (hb hby at_6) (by decide) hk rfl ?_
    refine t_istore (pc' := 9) (L' := #[vi p0, vi p1, vi p2, vi p3, vi p4, vi p5, vi 1, .unset, .unset, .unset, .unset, .unset, .unset, .unset, .unset, .unset, .unset, .unset, .unset, .unset, .unset, .unset, .unset, .unset, .unset, .unset, .unset, .unset, .unset, .unset, .unset, .unset, .unset, .unset]) X0.here hx (hb hby at_7) rfl rfl ?_
    refine t_iload 11 X0.here hx (hb hby at_9) rfl rfl ?_
    refine t_ifYes (pc := 11) 20 X0.here hx (hb hby at_11) (by decide) (by decide) (by decide) ?_
    refine t_iload 22 X0.here hx (hb hby at_20) rfl rfl ?_
    refine t_iconst 23 (r := 1) X0.here hx (hb hby at_22) (by decide) rfl ?_
    refine t_icmpNo 26 X0.here hx (hb hby at_23) (by decide) rfl ?_
    refine st1 _ ?_
    refine t_goto (pc := 29) 35 X1.here hx (hb hby at_29) (by decide) (by decide) ?_
    refine t_astore (pc' := 37) (L' := #[vi p0, vi p1, vi p2, vi p3, vi p4, vi p5, vi 1, vr st_FLAT, .unset, .unset, .unset, .unset, .unset, .unset, .unset, .unset, .unset, .unset, .unset, .unset, .unset, .unset, .unset, .unset, .unset, .unset, .unset, .unset, .unset, .unset, .unset, .unset, .unset, .unset]) X1.here hx (hb hby at_35) rfl rfl rfl ?_
    refine t_iload 39 X1.here hx (hb hby at_37) rfl rfl ?_
    refine t_iconst 40 (r := 2) X1.here hx (hb hby at_39) (by decide) rfl ?_
    refine t_icmpYes (pc := 40) 47 X1.here hx (hb hby at_40) (by decide) (by decide) (by decide) ?_
    refine t_iconst 48 (r := 0) X1.here hx (hb hby at_47) (by decide) rfl ?_
    refine t_istore (pc' := 50) (L' := #[vi p0, vi p1, vi p2, vi p3, vi p4, vi p5, vi 1, vr st_FLAT, vi 0, .unset, .unset, .unset, .unset, .unset, .unset, .unset, .unset, .unset, .unset, .unset, .unset, .unset, .unset, .unset, .unset, .unset, .unset, .unset, .unset, .unset, .unset, .unset, .unset, .unset]) X1.here hx (hb hby at_48) rfl rfl ?_
    refine t_iload 52 X1.here hx (hb hby at_50) rfl rfl ?_
    refine t_iconst 53 (r := 4) X1.here hx (hb hby at_52) (by decide) rfl ?_
    refine t_iushr 54 X1.here hx (hb hby at_53) rfl rfl ?_
    refine t_iconst 55 (r := 1) X1.here hx (hb hby at_54) (by decide) rfl ?_
    refine t_iand 56 (r := 1) X1.here hx (hb hby at_55) hf1 rfl ?_
    refine t_ifNo 59 X1.here hx (hb hby at_56) (by decide) rfl ?_
    refine t_iconst 60 (r := 1) X1.here hx (hb hby at_59) (by decide) rfl ?_
    refine t_goto (pc := 60) 64 X1.here hx (hb hby at_60) (by decide) (by decide) ?_
    refine t_istore (pc' := 66) (L' := #[vi p0, vi p1, vi p2, vi p3, vi p4, vi p5, vi 1, vr st_FLAT, vi 0, vi 1, .unset, .unset, .unset, .unset, .unset, .unset, .unset, .unset, .unset, .unset, .unset, .unset, .unset, .unset, .unset, .unset, .unset, .unset, .unset, .unset, .unset, .unset, .unset, .unset]) X1.here hx (hb hby at_64) rfl rfl ?_
    refine t_iloadN 67 X1.here hx (hb hby at_66) rfl rfl ?_
    refine t_i2d 68 (r := (FP.l2d (p0.toInt64))) X1.here hx (hb hby at_67) (i2d_w _) rfl ?_
    refine t_dstore (pc' := 70) (L' := #[vi p0, vi p1, vi p2, vi p3, vi p4, vi p5, vi 1, vr st_FLAT, vi 0, vi 1, .val (.double (FP.l2d (p0.toInt64))), .second, .unset, .unset, .unset, .unset, .unset, .unset, .unset, .unset, .unset, .unset, .unset, .unset, .unset, .unset, .unset, .unset, .unset, .unset, .unset, .unset, .unset, .unset]) X1.here hx (hb hby at_68) rfl rfl ?_
    refine t_iloadN 71 X1.here hx (hb hby at_70) rfl rfl ?_
    refine t_i2d 72 (r := (FP.l2d (p1.toInt64))) X1.here hx (hb hby at_71) (i2d_w _) rfl ?_
    refine t_dstore (pc' := 74) (L' := #[vi p0, vi p1, vi p2, vi p3, vi p4, vi p5, vi 1, vr st_FLAT, vi 0, vi 1, .val (.double (FP.l2d (p0.toInt64))), .second, .val (.double (FP.l2d (p1.toInt64))), .second, .unset, .unset, .unset, .unset, .unset, .unset, .unset, .unset, .unset, .unset, .unset, .unset, .unset, .unset, .unset, .unset, .unset, .unset, .unset, .unset]) X1.here hx (hb hby at_72) rfl rfl ?_
    refine t_iloadN 75 X1.here hx (hb hby at_74) rfl rfl ?_
    refine t_i2d 76 (r := (FP.l2d (p2.toInt64))) X1.here hx (hb hby at_75) (i2d_w _) rfl ?_
    refine t_dstore (pc' := 78) (L' := #[vi p0, vi p1, vi p2, vi p3, vi p4, vi p5, vi 1, vr st_FLAT, vi 0, vi 1, .val (.double (FP.l2d (p0.toInt64))), .second, .val (.double (FP.l2d (p1.toInt64))), .second, .val (.double (FP.l2d (p2.toInt64))), .second, .unset, .unset, .unset, .unset, .unset, .unset, .unset, .unset, .unset, .unset, .unset, .unset, .unset, .unset, .unset, .unset, .unset, .unset]) X1.here hx (hb hby at_76) rfl rfl ?_
    refine t_iloadN 79 X1.here hx (hb hby at_78) rfl rfl ?_
    refine t_sipush 82 (r := 1023) X1.here hx (hb hby at_79) (by decide) rfl ?_
    refine t_iand 83 X1.here hx (hb hby at_82) rfl rfl ?_
    refine t_i2d 84 (r := (FP.l2d ((p3 &&& (1023 : Int32)).toInt64))) X1.here hx (hb hby at_83) (i2d_w _) rfl ?_
    refine X1.ldc2DoubleC hx hown (mvT hZ (w4 hw)) (g := (mkF m 84 #[vi p0, vi p1, vi p2, vi p3, vi p4, vi p5, vi 1, vr st_FLAT, vi 0, vi 1, .val (.double (FP.l2d (p0.toInt64))), .second, .val (.double (FP.l2d (p1.toInt64))), .second, .val (.double (FP.l2d (p2.toInt64))), .second, .unset, .unset, .unset, .unset, .unset, .unset, .unset, .unset, .unset, .unset, .unset, .unset, .unset, .unset, .unset, .unset, .unset, .unset] [(.double (FP.l2d ((p3 &&& (1023 : Int32)).toInt64)))])) rfl (hb hby at_84) _ ?_
    refine t_ddiv 88 (r := (FP.ddiv (FP.l2d ((p3 &&& (1023 : Int32)).toInt64)) (4643211215818981376 : UInt64))) X1.here hx (hb hby at_87) (own_nnof hy1.symm (Jvm.Free.Fl.Mag64.fin mg_y1 (by decide)).noNaN) rfl rfl ?_
    refine castTop (g' := (mkF m 88 #[vi p0, vi p1, vi p2, vi p3, vi p4, vi p5, vi 1, vr st_FLAT, vi 0, vi 1, .val (.double (FP.l2d (p0.toInt64))), .second, .val (.double (FP.l2d (p1.toInt64))), .second, .val (.double (FP.l2d (p2.toInt64))), .second, .unset, .unset, .unset, .unset, .unset, .unset, .unset, .unset, .unset, .unset, .unset, .unset, .unset, .unset, .unset, .unset, .unset, .unset] [(.double y1)])) (congrArg (fun z => mkF m 88 #[vi p0, vi p1, vi p2, vi p3, vi p4, vi p5, vi 1, vr st_FLAT, vi 0, vi 1, .val (.double (FP.l2d (p0.toInt64))), .second, .val (.double (FP.l2d (p1.toInt64))), .second, .val (.double (FP.l2d (p2.toInt64))), .second, .unset, .unset, .unset, .unset, .unset, .unset, .unset, .unset, .unset, .unset, .unset, .unset, .unset, .unset, .unset, .unset, .unset, .unset] (Value.double z :: [])) hy1.symm) ?_
    refine t_dstore (pc' := 90) (L' := #[vi p0, vi p1, vi p2, vi p3, vi p4, vi p5, vi 1, vr st_FLAT, vi 0, vi 1, .val (.double (FP.l2d (p0.toInt64))), .second, .val (.double (FP.l2d (p1.toInt64))), .second, .val (.double (FP.l2d (p2.toInt64))), .second, .val (.double y1), .second, .unset, .unset, .unset, .unset, .unset, .unset, .unset, .unset, .unset, .unset, .unset, .unset, .unset, .unset, .unset, .unset]) X1.here hx (hb hby at_88) rfl rfl ?_
    refine t_iload 92 X1.here hx (hb hby at_90) rfl rfl ?_
    refine t_sipush 95 (r := 1023) X1.here hx (hb hby at_92) (by decide) rfl ?_
    refine t_iand 96 X1.here hx (hb hby at_95) rfl rfl ?_
    refine t_i2d 97 (r := (FP.l2d ((p4 &&& (1023 : Int32)).toInt64))) X1.here hx (hb hby at_96) (i2d_w _) rfl ?_
    refine X1.ldc2DoubleC hx hown (mvT hZ (w4 hw)) (g := (mkF m 97 #[vi p0, vi p1, vi p2, vi p3, vi p4, vi p5, vi 1, vr st_FLAT, vi 0, vi 1, .val (.double (FP.l2d (p0.toInt64))), .second, .val (.double (FP.l2d (p1.toInt64))), .second, .val (.double (FP.l2d (p2.toInt64))), .second, .val (.double y1), .second, .unset, .unset, .unset, .unset, .unset, .unset, .unset, .unset, .unset, .unset, .unset, .unset, .unset, .unset, .unset, .unset] [(.double (FP.l2d ((p4 &&& (1023 : Int32)).toInt64)))])) rfl (hb hby at_97) _ ?_
    refine t_ddiv 101 (r := (FP.ddiv (FP.l2d ((p4 &&& (1023 : Int32)).toInt64)) (4643211215818981376 : UInt64))) X1.here hx (hb hby at_100) (own_nnof hy2.symm (Jvm.Free.Fl.Mag64.fin mg_y2 (by decide)).noNaN) rfl rfl ?_
    refine castTop (g' := (mkF m 101 #[vi p0, vi p1, vi p2, vi p3, vi p4, vi p5, vi 1, vr st_FLAT, vi 0, vi 1, .val (.double (FP.l2d (p0.toInt64))), .second, .val (.double (FP.l2d (p1.toInt64))), .second, .val (.double (FP.l2d (p2.toInt64))), .second, .val (.double y1), .second, .unset, .unset, .unset, .unset, .unset, .unset, .unset, .unset, .unset, .unset, .unset, .unset, .unset, .unset, .unset, .unset] [(.double y2)])) (congrArg (fun z => mkF m 101 #[vi p0, vi p1, vi p2, vi p3, vi p4, vi p5, vi 1, vr st_FLAT, vi 0, vi 1, .val (.double (FP.l2d (p0.toInt64))), .second, .val (.double (FP.l2d (p1.toInt64))), .second, .val (.double (FP.l2d (p2.toInt64))), .second, .val (.double y1), .second, .unset, .unset, .unset, .unset, .unset, .unset, .unset, .unset, .unset, .unset, .unset, .unset, .unset, .unset, .unset, .unset] (Value.double z :: [])) hy2.symm) ?_
    refine t_dstore (pc' := 103) (L' := #[vi p0, vi p1, vi p2, vi p3, vi p4, vi p5, vi 1, vr st_FLAT, vi 0, vi 1, .val (.double (FP.l2d (p0.toInt64))), .second, .val (.double (FP.l2d (p1.toInt64))), .second, .val (.double (FP.l2d (p2.toInt64))), .second, .val (.double y1), .second, .val (.double y2), .second, .unset, .unset, .unset, .unset, .unset, .unset, .unset, .unset, .unset, .unset, .unset, .unset, .unset, .unset]) X1.here hx (hb hby at_101) rfl rfl ?_
    refine st2 _ ?_
    refine t_dup 107 X2.here hx (hb hby at_106) rfl rfl ?_
    refine t_dload 109 X2.here hx (hb hby at_107) rfl rfl ?_
    refine t_dload 111 X2.here hx (hb hby at_109) rfl rfl ?_
    refine t_dload 113 X2.here hx (hb hby at_111) rfl rfl ?_
    refine t_aload 115 X2.here hx (hb hby at_113) rfl rfl rfl ?_
    refine st3 _ ?_
    refine t_astore (pc' := 120) (L' := #[vi p0, vi p1, vi p2, vi p3, vi p4, vi p5, vi 1, vr st_FLAT, vi 0, vi 1, .val (.double (FP.l2d (p0.toInt64))), .second, .val (.double (FP.l2d (p1.toInt64))), .second, .val (.double (FP.l2d (p2.toInt64))), .second, .val (.double y1), .second, .val (.double y2), .second, vr b2, .unset, .unset, .unset, .unset, .unset, .unset, .unset, .unset, .unset, .unset, .unset, .unset, .unset]) X3.here hx (hb hby at_118) rfl rfl rfl ?_
    refine t_iconst 121 (r := 1) X3.here hx (hb hby at_120) (by decide) rfl ?_
    refine t_istore (pc' := 123) (L' := #[vi p0, vi p1, vi p2, vi p3, vi p4, vi p5, vi 1, vr st_FLAT, vi 0, vi 1, .val (.double (FP.l2d (p0.toInt64))), .second, .val (.double (FP.l2d (p1.toInt64))), .second, .val (.double (FP.l2d (p2.toInt64))), .second, .val (.double y1), .second, .val (.double y2), .second, vr b2, vi 1, .unset, .unset, .unset, .unset, .unset, .unset, .unset, .unset, .unset, .unset, .unset, .unset]) X3.here hx (hb hby at_121) rfl rfl ?_
    refine t_dconst0 124 (r := (FP.l2d (0 : Int64))) X3.here hx (hb hby at_123) own_dconst0 rfl ?_
    refine t_dstore (pc' := 126) (L' := #[vi p0, vi p1, vi p2, vi p3, vi p4, vi p5, vi 1, vr st_FLAT, vi 0, vi 1, .val (.double (FP.l2d (p0.toInt64))), .second, .val (.double (FP.l2d (p1.toInt64))), .second, .val (.double (FP.l2d (p2.toInt64))), .second, .val (.double y1), .second, .val (.double y2), .second, vr b2, vi 1, .val (.double (FP.l2d (0 : Int64))), .second, .unset, .unset, .unset, .unset, .unset, .unset, .unset, .unset, .unset, .unset]) X3.here hx (hb hby at_124) rfl rfl ?_
    refine t_iload 128 X3.here hx (hb hby at_126) rfl rfl ?_
    refine t_ifNo 131 X3.here hx (hb hby at_128) (by decide) rfl ?_
    refine t_aload 133 X3.here hx (hb hby at_131) rfl rfl rfl ?_
    refine t_dload 135 X3.here hx (hb hby at_133) rfl rfl ?_
    refine st4 _ ?_
    refine castTop (g' := (mkF m 138 #[vi p0, vi p1, vi p2, vi p3, vi p4, vi p5, vi 1, vr st_FLAT, vi 0, vi 1, .val (.double (FP.l2d (p0.toInt64))), .second, .val (.double (FP.l2d (p1.toInt64))), .second, .val (.double (FP.l2d (p2.toInt64))), .second, .val (.double y1), .second, .val (.double y2), .second, vr b2, vi 1, .val (.double (FP.l2d (0 : Int64))), .second, .unset, .unset, .unset, .unset, .unset, .unset, .unset, .unset, .unset, .unset] [(.double y10)])) (congrArg (fun z => mkF m 138 #[vi p0, vi p1, vi p2, vi p3, vi p4, vi p5, vi 1, vr st_FLAT, vi 0, vi 1, .val (.double (FP.l2d (p0.toInt64))), .second, .val (.double (FP.l2d (p1.toInt64))), .second, .val (.double (FP.l2d (p2.toInt64))), .second, .val (.double y1), .second, .val (.double y2), .second, vr b2, vi 1, .val (.double (FP.l2d (0 : Int64))), .second, .unset, .unset, .unset, .unset, .unset, .unset, .unset, .unset, .unset, .unset] (Value.double z :: [])) (own_cg2 (f := FP.dadd) (own_cg2 (f := FP.dmul) (own_cg2 (f := FP.ddiv) (own_cg2 (f := FP.dmul) (own_l2dz _) hy3.symm hy4.symm) rfl hy5.symm) rfl hy6.symm) (own_cg2 (f := FP.dmul) (own_cg2 (f := FP.ddiv) hy7.symm rfl hy8.symm) rfl hy9.symm) hy10.symm)) ?_
    refine t_dstore (pc' := 140) (L' := #[vi p0, vi p1, vi p2, vi p3, vi p4, vi p5, vi 1, vr st_FLAT, vi 0, vi 1, .val (.double (FP.l2d (p0.toInt64))), .second, .val (.double (FP.l2d (p1.toInt64))), .second, .val (.double (FP.l2d (p2.toInt64))), .second, .val (.double y1), .second, .val (.double y2), .second, vr b2, vi 1, .val (.double (FP.l2d (0 : Int64))), .second, .val (.double y10), .second, .unset, .unset, .unset, .unset, .unset, .unset, .unset, .unset]) X4.here hx (hb hby at_138) rfl rfl ?_
    refine t_iload 142 X4.here hx (hb hby at_140) rfl rfl ?_
    refine t_ifYes (pc := 142) 159 X4.here hx (hb hby at_142) (by decide) (by decide) (by decide) ?_
    refine t_dload 161 X4.here hx (hb hby at_159) rfl rfl ?_
    refine t_dstore (pc' := 163) (L' := #[vi p0, vi p1, vi p2, vi p3, vi p4, vi p5, vi 1, vr st_FLAT, vi 0, vi 1, .val (.double (FP.l2d (p0.toInt64))), .second, .val (.double (FP.l2d (p1.toInt64))), .second, .val (.double (FP.l2d (p2.toInt64))), .second, .val (.double y1), .second, .val (.double y2), .second, vr b2, vi 1, .val (.double y10), .second, .val (.double y10), .second, .unset, .unset, .unset, .unset, .unset, .unset, .unset, .unset]) X4.here hx (hb hby at_161) rfl rfl ?_
    refine t_aload 165 X4.here hx (hb hby at_163) rfl rfl rfl ?_
    refine st9 _ ?_
    refine t_aload 170 X9.here hx (hb hby at_168) rfl rfl rfl ?_
    refine st12 _ ?_
    refine t_dstore (pc' := 175) (L' := #[vi p0, vi p1, vi p2, vi p3, vi p4, vi p5, vi 1, vr st_FLAT, vi 0, vi 1, .val (.double (FP.l2d (p0.toInt64))), .second, .val (.double (FP.l2d (p1.toInt64))), .second, .val (.double (FP.l2d (p2.toInt64))), .second, .val (.double y1), .second, .val (.double y2), .second, vr b2, vi 1, .val (.double y10), .second, .val (.double y12), .second, .unset, .unset, .unset, .unset, .unset, .unset, .unset, .unset]) X12.here hx (hb hby at_173) rfl rfl ?_
    refine t_iload 177 X12.here hx (hb hby at_175) rfl rfl ?_
    refine t_ifNo 180 X12.here hx (hb hby at_177) (by decide) rfl ?_
    refine t_dload 182 X12.here hx (hb hby at_180) rfl rfl ?_
    refine t_dload 184 X12.here hx (hb hby at_182) rfl rfl ?_
    refine t_dcmp 185 (r := 0) X12.here hx (hb hby at_184) (by rw [hy12, hy11]; exact own_cmp00 ((Jvm.Free.Fl.Mag64.fin mg_y10 (by decide)).noNaN) _) rfl ?_
    refine t_ifNo 188 X12.here hx (hb hby at_185) (by decide) rfl ?_
    refine t_iconst 189 (r := 1) X12.here hx (hb hby at_188) (by decide) rfl ?_
    refine t_goto (pc := 189) 193 X12.here hx (hb hby at_189) (by decide) (by decide) ?_
    refine t_istore (pc' := 195) (L' := #[vi p0, vi p1, vi p2, vi p3, vi p4, vi p5, vi 1, vr st_FLAT, vi 0, vi 1, .val (.double (FP.l2d (p0.toInt64))), .second, .val (.double (FP.l2d (p1.toInt64))), .second, .val (.double (FP.l2d (p2.toInt64))), .second, .val (.double y1), .second, .val (.double y2), .second, vr b2, vi 1, .val (.double y10), .second, .val (.double y12), .second, .unset, .unset, .unset, .unset, .unset, .unset, .unset, .unset]) X12.here hx (hb hby at_193) rfl rfl ?_
    refine t_aload 197 X12.here hx (hb hby at_195) rfl rfl rfl ?_
    refine st14 _ ?_
    refine t_iload 202 X14.here hx (hb hby at_200) rfl rfl ?_
    refine t_ifNo 205 X14.here hx (hb hby at_202) (by decide) rfl ?_
    refine t_aload 207 X14.here hx (hb hby at_205) rfl rfl rfl ?_
    refine st15 _ ?_
    refine t_dload 212 X15.here hx (hb hby at_210) rfl rfl ?_
    refine t_dcmp 213 (r := 0) X15.here hx (hb hby at_212) (dcmpV_self ((Jvm.Free.Fl.Mag64.fin mg_y12 (by decide)).noNaN) _) rfl ?_
    refine t_ifNo 216 X15.here hx (hb hby at_213) (by decide) rfl ?_
    refine t_iconst 217 (r := 1) X15.here hx (hb hby at_216) (by decide) rfl ?_
    refine t_goto (pc := 217) 221 X15.here hx (hb hby at_217) (by decide) (by decide) ?_
    refine t_istore (pc' := 223) (L' := #[vi p0, vi p1, vi p2, vi p3, vi p4, vi p5, vi 1, vr st_FLAT, vi 0, vi 1, .val (.double (FP.l2d (p0.toInt64))), .second, .val (.double (FP.l2d (p1.toInt64))), .second, .val (.double (FP.l2d (p2.toInt64))), .second, .val (.double y1), .second, .val (.double y2), .second, vr b2, vi 1, .val (.double y10), .second, .val (.double y12), .second, .unset, .unset, .unset, .unset, .unset, .unset, .unset, .unset]) X15.here hx (hb hby at_221) rfl rfl ?_
    refine t_aload 225 X15.here hx (hb hby at_223) rfl rfl rfl ?_
    refine t_dload 227 X15.here hx (hb hby at_225) rfl rfl ?_
    refine st17 _ ?_
    refine castTop (g' := (mkF m 230 #[vi p0, vi p1, vi p2, vi p3, vi p4, vi p5, vi 1, vr st_FLAT, vi 0, vi 1, .val (.double (FP.l2d (p0.toInt64))), .second, .val (.double (FP.l2d (p1.toInt64))), .second, .val (.double (FP.l2d (p2.toInt64))), .second, .val (.double y1), .second, .val (.double y2), .second, vr b2, vi 1, .val (.double y10), .second, .val (.double y12), .second, .unset, .unset, .unset, .unset, .unset, .unset, .unset, .unset] [(.double y18)])) (congrArg (fun z => mkF m 230 #[vi p0, vi p1, vi p2, vi p3, vi p4, vi p5, vi 1, vr st_FLAT, vi 0, vi 1, .val (.double (FP.l2d (p0.toInt64))), .second, .val (.double (FP.l2d (p1.toInt64))), .second, .val (.double (FP.l2d (p2.toInt64))), .second, .val (.double y1), .second, .val (.double y2), .second, vr b2, vi 1, .val (.double y10), .second, .val (.double y12), .second, .unset, .unset, .unset, .unset, .unset, .unset, .unset, .unset] (Value.double z :: [])) (own_cg2 (f := FP.dadd) (own_cg2 (f := FP.dmul) (own_cg2 (f := FP.ddiv) (own_cg2 (f := FP.dmul) hy13.symm hy3.symm hy14.symm) rfl hy15.symm) rfl hy16.symm) (own_cg2 (f := FP.dmul) (own_cg2 (f := FP.ddiv) hy7.symm rfl hy8.symm) rfl hy17.symm) hy18.symm)) ?_
    refine t_dstore (pc' := 232) (L' := #[vi p0, vi p1, vi p2, vi p3, vi p4, vi p5, vi 1, vr st_FLAT, vi 0, vi 1, .val (.double (FP.l2d (p0.toInt64))), .second, .val (.double (FP.l2d (p1.toInt64))), .second, .val (.double (FP.l2d (p2.toInt64))), .second, .val (.double y1), .second, .val (.double y2), .second, vr b2, vi 1, .val (.double y10), .second, .val (.double y12), .second, .val (.double y18), .second, .unset, .unset, .unset, .unset, .unset, .unset]) X17.here hx (hb hby at_230) rfl rfl ?_
    refine t_dload 234 X17.here hx (hb hby at_232) rfl rfl ?_
    refine t_dload 236 X17.here hx (hb hby at_234) rfl rfl ?_
    refine t_dadd 237 (r := (FP.dadd (FP.l2d (p0.toInt64)) y12)) X17.here hx (hb hby at_236) (own_nnof hy13.symm (Jvm.Free.Fl.Mag64.fin mg_y13 (by decide)).noNaN) rfl rfl ?_
    refine castTop (g' := (mkF m 237 #[vi p0, vi p1, vi p2, vi p3, vi p4, vi p5, vi 1, vr st_FLAT, vi 0, vi 1, .val (.double (FP.l2d (p0.toInt64))), .second, .val (.double (FP.l2d (p1.toInt64))), .second, .val (.double (FP.l2d (p2.toInt64))), .second, .val (.double y1), .second, .val (.double y2), .second, vr b2, vi 1, .val (.double y10), .second, .val (.double y12), .second, .val (.double y18), .second, .unset, .unset, .unset, .unset, .unset, .unset] [(.double y13)])) (congrArg (fun z => mkF m 237 #[vi p0, vi p1, vi p2, vi p3, vi p4, vi p5, vi 1, vr st_FLAT, vi 0, vi 1, .val (.double (FP.l2d (p0.toInt64))), .second, .val (.double (FP.l2d (p1.toInt64))), .second, .val (.double (FP.l2d (p2.toInt64))), .second, .val (.double y1), .second, .val (.double y2), .second, vr b2, vi 1, .val (.double y10), .second, .val (.double y12), .second, .val (.double y18), .second, .unset, .unset, .unset, .unset, .unset, .unset] (Value.double z :: [])) hy13.symm) ?_
    refine t_dstore (pc' := 239) (L' := #[vi p0, vi p1, vi p2, vi p3, vi p4, vi p5, vi 1, vr st_FLAT, vi 0, vi 1, .val (.double (FP.l2d (p0.toInt64))), .second, .val (.double (FP.l2d (p1.toInt64))), .second, .val (.double (FP.l2d (p2.toInt64))), .second, .val (.double y1), .second, .val (.double y2), .second, vr b2, vi 1, .val (.double y10), .second, .val (.double y12), .second, .val (.double y18), .second, .val (.double y13), .second, .unset, .unset, .unset, .unset]) X17.here hx (hb hby at_237) rfl rfl ?_
    refine t_iload 241 X17.here hx (hb hby at_239) rfl rfl ?_
    refine t_ifYes (pc := 241) 258 X17.here hx (hb hby at_241) (by decide) (by decide) (by decide) ?_
    refine t_dload 260 X17.here hx (hb hby at_258) rfl rfl ?_
    refine t_dstore (pc' := 262) (L' := #[vi p0, vi p1, vi p2, vi p3, vi p4, vi p5, vi 1, vr st_FLAT, vi 0, vi 1, .val (.double (FP.l2d (p0.toInt64))), .second, .val (.double (FP.l2d (p1.toInt64))), .second, .val (.double (FP.l2d (p2.toInt64))), .second, .val (.double y1), .second, .val (.double y2), .second, vr b2, vi 1, .val (.double y10), .second, .val (.double y12), .second, .val (.double y18), .second, .val (.double y13), .second, .val (.double y18), .second, .unset, .unset]) X17.here hx (hb hby at_260) rfl rfl ?_
    refine t_aload 264 X17.here hx (hb hby at_262) rfl rfl rfl ?_
    refine st23 _ ?_
    refine t_aload 269 X23.here hx (hb hby at_267) rfl rfl rfl ?_
    refine st26 _ ?_
    refine t_dstore (pc' := 274) (L' := #[vi p0, vi p1, vi p2, vi p3, vi p4, vi p5, vi 1, vr st_FLAT, vi 0, vi 1, .val (.double (FP.l2d (p0.toInt64))), .second, .val (.double (FP.l2d (p1.toInt64))), .second, .val (.double (FP.l2d (p2.toInt64))), .second, .val (.double y1), .second, .val (.double y2), .second, vr b2, vi 1, .val (.double y10), .second, .val (.double y12), .second, .val (.double y18), .second, .val (.double y13), .second, .val (.double y18), .second, .val (.double y20), .second]) X26.here hx (hb hby at_272) rfl rfl ?_
    refine t_iload 276 X26.here hx (hb hby at_274) rfl rfl ?_
    refine t_ifNo 279 X26.here hx (hb hby at_276) (by decide) rfl ?_
    refine t_dload 281 X26.here hx (hb hby at_279) rfl rfl ?_
    refine t_dload 283 X26.here hx (hb hby at_281) rfl rfl ?_
    refine t_dload 285 X26.here hx (hb hby at_283) rfl rfl ?_
    refine t_dadd 286 (r := (FP.dadd y12 y18)) X26.here hx (hb hby at_285) (own_nnof hy21.symm (Jvm.Free.Fl.Mag64.fin mg_y21 (by decide)).noNaN) rfl rfl ?_
    refine castTop (g' := (mkF m 286 #[vi p0, vi p1, vi p2, vi p3, vi p4, vi p5, vi 1, vr st_FLAT, vi 0, vi 1, .val (.double (FP.l2d (p0.toInt64))), .second, .val (.double (FP.l2d (p1.toInt64))), .second, .val (.double (FP.l2d (p2.toInt64))), .second, .val (.double y1), .second, .val (.double y2), .second, vr b2, vi 1, .val (.double y10), .second, .val (.double y12), .second, .val (.double y18), .second, .val (.double y13), .second, .val (.double y18), .second, .val (.double y20), .second] [(.double y21), (.double y20)])) (congrArg (fun z => mkF m 286 #[vi p0, vi p1, vi p2, vi p3, vi p4, vi p5, vi 1, vr st_FLAT, vi 0, vi 1, .val (.double (FP.l2d (p0.toInt64))), .second, .val (.double (FP.l2d (p1.toInt64))), .second, .val (.double (FP.l2d (p2.toInt64))), .second, .val (.double y1), .second, .val (.double y2), .second, vr b2, vi 1, .val (.double y10), .second, .val (.double y12), .second, .val (.double y18), .second, .val (.double y13), .second, .val (.double y18), .second, .val (.double y20), .second] (Value.double z :: [(.double y20)])) hy21.symm) ?_
    refine t_dcmp 287 (r := 0) X26.here hx (hb hby at_286) (by rw [hy20, hy21, hy19]; exact own_cmp0y ((Jvm.Free.Fl.Mag64.fin mg_y12 (by decide)).noNaN) ((Jvm.Free.Fl.Mag64.fin mg_y18 (by decide)).noNaN) (by rw [← hy21]; exact (Jvm.Free.Fl.Mag64.fin mg_y21 (by decide)).noNaN) _) rfl ?_
    refine t_ifNo 290 X26.here hx (hb hby at_287) (by decide) rfl ?_
    refine t_iconst 291 (r := 1) X26.here hx (hb hby at_290) (by decide) rfl ?_
    refine t_goto (pc := 291) 295 X26.here hx (hb hby at_291) (by decide) (by decide) ?_
    refine t_istore (pc' := 297) (L' := #[vi p0, vi p1, vi p2, vi p3, vi p4, vi p5, vi 1, vr st_FLAT, vi 0, vi 1, .val (.double (FP.l2d (p0.toInt64))), .second, .val (.double (FP.l2d (p1.toInt64))), .second, .val (.double (FP.l2d (p2.toInt64))), .second, .val (.double y1), .second, .val (.double y2), .second, vr b2, vi 1, .val (.double y10), .second, .val (.double y12), .second, .val (.double y18), .second, .val (.double y13), .second, .val (.double y18), .second, .val (.double y20), .second]) X26.here hx (hb hby at_295) rfl rfl ?_
    refine t_iload 299 X26.here hx (hb hby at_297) rfl rfl ?_
    refine t_ifNo 302 X26.here hx (hb hby at_299) (by decide) rfl ?_
    refine t_aload 304 X26.here hx (hb hby at_302) rfl rfl rfl ?_
    refine st28 _ ?_
    refine castTop (g' := (mkF m 307 #[vi p0, vi p1, vi p2, vi p3, vi p4, vi p5, vi 1, vr st_FLAT, vi 0, vi 1, .val (.double (FP.l2d (p0.toInt64))), .second, .val (.double (FP.l2d (p1.toInt64))), .second, .val (.double (FP.l2d (p2.toInt64))), .second, .val (.double y1), .second, .val (.double y2), .second, vr b2, vi 1, .val (.double y10), .second, .val (.double y12), .second, .val (.double y18), .second, .val (.double y13), .second, .val (.double y18), .second, .val (.double y20), .second] [(.double y22)])) (congrArg (fun z => mkF m 307 #[vi p0, vi p1, vi p2, vi p3, vi p4, vi p5, vi 1, vr st_FLAT, vi 0, vi 1, .val (.double (FP.l2d (p0.toInt64))), .second, .val (.double (FP.l2d (p1.toInt64))), .second, .val (.double (FP.l2d (p2.toInt64))), .second, .val (.double y1), .second, .val (.double y2), .second, vr b2, vi 1, .val (.double y10), .second, .val (.double y12), .second, .val (.double y18), .second, .val (.double y13), .second, .val (.double y18), .second, .val (.double y20), .second] (Value.double z :: [])) hy22.symm) ?_
    refine t_dload 309 X28.here hx (hb hby at_307) rfl rfl ?_
    refine t_dload 311 X28.here hx (hb hby at_309) rfl rfl ?_
    refine t_dadd 312 (r := (FP.dadd (FP.l2d (p0.toInt64)) y20)) X28.here hx (hb hby at_311) (own_nnof hy22.symm (Jvm.Free.Fl.Mag64.fin mg_y22 (by decide)).noNaN) rfl rfl ?_
    refine castTop (g' := (mkF m 312 #[vi p0, vi p1, vi p2, vi p3, vi p4, vi p5, vi 1, vr st_FLAT, vi 0, vi 1, .val (.double (FP.l2d (p0.toInt64))), .second, .val (.double (FP.l2d (p1.toInt64))), .second, .val (.double (FP.l2d (p2.toInt64))), .second, .val (.double y1), .second, .val (.double y2), .second, vr b2, vi 1, .val (.double y10), .second, .val (.double y12), .second, .val (.double y18), .second, .val (.double y13), .second, .val (.double y18), .second, .val (.double y20), .second] [(.double y22), (.double y22)])) (congrArg (fun z => mkF m 312 #[vi p0, vi p1, vi p2, vi p3, vi p4, vi p5, vi 1, vr st_FLAT, vi 0, vi 1, .val (.double (FP.l2d (p0.toInt64))), .second, .val (.double (FP.l2d (p1.toInt64))), .second, .val (.double (FP.l2d (p2.toInt64))), .second, .val (.double y1), .second, .val (.double y2), .second, vr b2, vi 1, .val (.double y10), .second, .val (.double y12), .second, .val (.double y18), .second, .val (.double y13), .second, .val (.double y18), .second, .val (.double y20), .second] (Value.double z :: [(.double y22)])) hy22.symm) ?_
    refine t_dcmp 313 (r := 0) X28.here hx (hb hby at_312) (dcmpV_self ((Jvm.Free.Fl.Mag64.fin mg_y22 (by decide)).noNaN) _) rfl ?_
    refine t_ifNo 316 X28.here hx (hb hby at_313) (by decide) rfl ?_
    refine t_iconst 317 (r := 1) X28.here hx (hb hby at_316) (by decide) rfl ?_
    refine t_goto (pc := 317) 321 X28.here hx (hb hby at_317) (by decide) (by decide) ?_
    refine t_istore (pc' := 323) (L' := #[vi p0, vi p1, vi p2, vi p3, vi p4, vi p5, vi 1, vr st_FLAT, vi 0, vi 1, .val (.double (FP.l2d (p0.toInt64))), .second, .val (.double (FP.l2d (p1.toInt64))), .second, .val (.double (FP.l2d (p2.toInt64))), .second, .val (.double y1), .second, .val (.double y2), .second, vr b2, vi 1, .val (.double y10), .second, .val (.double y12), .second, .val (.double y18), .second, .val (.double y13), .second, .val (.double y18), .second, .val (.double y20), .second]) X28.here hx (hb hby at_321) rfl rfl ?_
    refine t_iload 325 X28.here hx (hb hby at_323) rfl rfl ?_
    exact retN X28 hx (t := .boolean) hret (by simp) (hb hby at_325) hr
def w54 (hw : HW Z a0) := ow 54 hw rfl
def w55 (hw : HW Z a0) := ow 55 hw rfl
def w58 (hw : HW Z a0) := ow 58 hw rfl
def w57 (hw : HW Z a0) := ow 57 hw rfl
theorem pd_5 : parseMethodDescriptor "(DDDD)D" = some ⟨[.double, .double, .double, .double], some .double⟩ := by decide +kernel
def w56 (hw : HW Z a0) := ow 56 hw rfl
theorem ef_law_2_0 (p0 p1 p2 p3 p4 p5 : Int32) (m : MethodId) : entryFrame m #[(.int p0), (.int p1), (.int p2), (.int p3), (.int p4), (.int p5)] maxLocals = mkF m 0 #[.val (.int p0), .val (.int p1), .val (.int p2), .val (.int p3), .val (.int p4), .val (.int p5), .unset, .unset, .unset, .unset, .unset, .unset, .unset, .unset, .unset, .unset, .unset, .unset, .unset, .unset, .unset, .unset, .unset, .unset, .unset, .unset, .unset, .unset, .unset, .unset, .unset, .unset, .unset, .unset] [] := by first | (simp [entryFrame, mkF, argsToLocals, Value.category, maxLocals]; done) | rfl
set_option maxRecDepth 65536 in
set_option maxHeartbeats 40000000 in
theorem law_2_0 (l : Launch) (Z : State) (a0 : Array Value) (hw : HW Z a0) (ws : List Jvm.Cond) (p0 p1 p2 p3 p4 p5 : Int32) (st_ALL st_FLAT st_SPREAD_EXCLUSIVE : Addr) (h0 : Heap) (n0 : Nat) (Z0 : n0 ≤ h0.size) (hk : ((p5 &&& (2147483647 : Int32)) - ((p5 &&& (2147483647 : Int32)) / (3 : Int32)) * (3 : Int32)) = (2 : Int32)) (hf1 : (((p5.toUInt32 >>> ((4 : Int32) &&& 31).toUInt32).toInt32) &&& (1 : Int32)) = (0 : Int32)) (S_SPREAD_EXCLUSIVE : Sta Z Z.heap "com/example/rivulet/rivulet/instrument/CompoundMethod" "SPREAD_EXCLUSIVE" "Lcom/example/rivulet/rivulet/instrument/CompoundMethod;" (.ref st_SPREAD_EXCLUSIVE)) (O0 : Old Z n0 h0) (S_ALL : Sta Z Z.heap "com/example/rivulet/rivulet/instrument/CompoundMethod" "ALL" "Lcom/example/rivulet/rivulet/instrument/CompoundMethod;" (.ref st_ALL)) (ne_st_ALL_st_SPREAD_EXCLUSIVE : st_ALL ≠ st_SPREAD_EXCLUSIVE) :
    MetFree l x (head1 (Jvm.Cond.code x code maxLocals ret :: ws) room_1) (fun a U => a = #[(.int p0), (.int p1), (.int p2), (.int p3), (.int p4), (.int p5)] ∧ Z.Warmed39 U.vm ∧ U.heap = h0) (fun _ _ _ _ _ => True) (fun _ U o U' => ∃ v L, o = .returned v ∧ Q_law n0 v L ∧ FrameEnd U o U' L 16 128) := by
  refine own_law (y := x) (k := 1) (n := 6) (plainFor_of_name pn_AccrualCompoundPinLaw114) (ef_law_2_0 p0 p1 p2 p3 p4 p5) (by decide) (by decide) ?_
  intro p e s m below meth c s₁ hx hby hml hown hnm hret hZ hh e0 X0
  have N0 := Fr.nil n0
  obtain ⟨T1, X1, e1, st1⟩ := getS2 X0 hx hZ hown (host := "") (Or.inl (w54 hw)) Via.refl e0 (Sta.ext O0.2 S_SPREAD_EXCLUSIVE) (g := (mkF m 32 #[vi p0, vi p1, vi p2, vi p3, vi p4, vi p5, vi 2, .unset, .unset, .unset, .unset, .unset, .unset, .unset, .unset, .unset, .unset, .unset, .unset, .unset, .unset, .unset, .unset, .unset, .unset, .unset, .unset, .unset, .unset, .unset, .unset, .unset, .unset, .unset] [])) rfl (hb hby at_32)
  obtain ⟨y1, hy1⟩ : ∃ z, z = (FP.ddiv (FP.l2d ((p3 &&& (1023 : Int32)).toInt64)) (4643211215818981376 : UInt64)) := ⟨_, rfl⟩
  have mg_y1 := own_mgk (K := 1081) hy1 (Jvm.RoadKit.ddiv_mag (K := 1088) (L := 1031) (Jvm.Free.Fl.l2d_mag _) (by unfold Big64; decide +kernel) (by decide) (by decide)) (by decide)
  obtain ⟨y2, hy2⟩ : ∃ z, z = (FP.ddiv (FP.l2d ((p4 &&& (1023 : Int32)).toInt64)) (4643211215818981376 : UInt64)) := ⟨_, rfl⟩
  have mg_y2 := own_mgk (K := 1081) hy2 (Jvm.RoadKit.ddiv_mag (K := 1088) (L := 1031) (Jvm.Free.Fl.l2d_mag _) (by unfold Big64; decide +kernel) (by decide) (by decide)) (by decide)
  obtain ⟨T2, h2, X2, e2, E2, A2, D2, -, st2⟩ := newO X1 hx hZ hown (w5 hw) (w6 hw) (w7 hw) e1 (g := (mkF m 103 #[vi p0, vi p1, vi p2, vi p3, vi p4, vi p5, vi 2, vr st_SPREAD_EXCLUSIVE, vi 1, vi 0, .val (.double (FP.l2d (p0.toInt64))), .second, .val (.double (FP.l2d (p1.toInt64))), .second, .val (.double (FP.l2d (p2.toInt64))), .second, .val (.double y1), .second, .val (.double y2), .second, .unset, .unset, .unset, .unset, .unset, .unset, .unset, .unset, .unset, .unset, .unset, .unset, .unset, .unset] [])) rfl (hb hby at_103) (by decide) (by decide)
  obtain ⟨b2, g2⟩ : ∃ z, z = h0.size := ⟨_, rfl⟩
  rw [← g2] at A2 D2 st2
  have ge_b2 : h0.size ≤ b2 := Nat.le_of_eq g2.symm
  have K2 := KL.ofE E2
  have F_b2_balance : Fd0 Z h2 b2 (.double (FP.l2d (0 : Int64))) := Fld.zeroD (D2 (Or.inr (w15 hw)) (ty := .double) (by decide))
  have F_b2_rate : Fd1 Z h2 b2 (.double (FP.l2d (0 : Int64))) := Fld.zeroD (D2 (Or.inr (w17 hw)) (ty := .double) (by decide))
  have F_b2_margin : Fd2 Z h2 b2 (.double (FP.l2d (0 : Int64))) := Fld.zeroD (D2 (Or.inr (w19 hw)) (ty := .double) (by decide))
  have F_b2_method : Fd3 Z h2 b2 .null := D2 (Or.inr (w21 hw)) (ty := (.object "com/example/rivulet/rivulet/instrument/CompoundMethod")) (by decide)
  have F_b2_compounded : Fd4 Z h2 b2 (.double (FP.l2d (0 : Int64))) := Fld.zeroD (D2 (Or.inl (w28 hw)) (ty := .double) (by decide))
  have F_b2_pending : Fd5 Z h2 b2 (.double (FP.l2d (0 : Int64))) := Fld.zeroD (D2 (Or.inl (w30 hw)) (ty := .double) (by decide))
  obtain ⟨_, T3, L3, X3, hQ3, st3⟩ := own_init X2 hx hZ rfl hown (w8 hw) (w9 hw) (w7 hw) (w10 hw) (by decide) (r_init l Z a0 hw [] b2 (FP.l2d (p0.toInt64)) (FP.l2d (p1.toInt64)) (FP.l2d (p2.toInt64)) st_SPREAD_EXCLUSIVE (.double (FP.l2d (0 : Int64))) (.double (FP.l2d (0 : Int64))) (.double (FP.l2d (0 : Int64))) .null h2 n0 (Nat.le_trans Z0 K2.1) F_b2_balance A2 (Nat.le_trans Z0 ge_b2) F_b2_rate F_b2_margin F_b2_method) e2 (W := 1) (by decide) (g := (mkF m 115 #[vi p0, vi p1, vi p2, vi p3, vi p4, vi p5, vi 2, vr st_SPREAD_EXCLUSIVE, vi 1, vi 0, .val (.double (FP.l2d (p0.toInt64))), .second, .val (.double (FP.l2d (p1.toInt64))), .second, .val (.double (FP.l2d (p2.toInt64))), .second, .val (.double y1), .second, .val (.double y2), .second, .unset, .unset, .unset, .unset, .unset, .unset, .unset, .unset, .unset, .unset, .unset, .unset, .unset, .unset] [(.ref st_SPREAD_EXCLUSIVE), (.double (FP.l2d (p2.toInt64))), (.double (FP.l2d (p1.toInt64))), (.double (FP.l2d (p0.toInt64))), (.ref b2), (.ref b2)])) rfl hml.symm (argsL := [(.double (FP.l2d (p0.toInt64))), (.double (FP.l2d (p1.toInt64))), (.double (FP.l2d (p2.toInt64))), (.ref st_SPREAD_EXCLUSIVE)]) (rest := [(.ref b2)]) (lenOf pd_2 rfl) rfl rfl (own_wr rfl rfl) (hb hby at_115)
  obtain ⟨rfl, N3q, K3, Q3_0, Q3_1, Q3_2, Q3_3⟩ := hQ3
  have N3 := Fr.app N0 N3q
  have f5 := (kFld K3 F_b2_compounded (nwS (Or.inr (sn_17 hw)) (nwS (Or.inr (sn_16 hw)) (nwS (Or.inr (sn_15 hw)) (nwS (Or.inr (sn_14 hw)) nw0)))))
  have f6 := (kFld K3 F_b2_pending (nwS (Or.inr (sn_21 hw)) (nwS (Or.inr (sn_20 hw)) (nwS (Or.inr (sn_19 hw)) (nwS (Or.inr (sn_18 hw)) nw0)))))
  have f7 := (kExa K3 A2)
  have sz_0_2 := (Nat.le_trans K2.1 K3.1)
  obtain ⟨_, T4, L4, X4, hQ4, st4⟩ := own_virtual X3 hx hZ hown (w22 hw) (w23 hw) (nfS hZ (w25 hw)) (w25 hw) (w24 hw) (w7 hw) (w26 hw) (by decide) (r_compound l Z a0 hw [] b2 (FP.l2d (0 : Int64)) (FP.l2d (0 : Int64)) T3.heap n0 (Nat.le_trans Z0 sz_0_2) f5 f6 ((own_nnof own_add00 (Jvm.Free.Fl.Mag64.fin (Jvm.Free.Fl.l2d_mag _) (by decide)).noNaN)) f7 (Nat.le_trans Z0 ge_b2)) rfl f7 (W := 0) (by decide) (g := (mkF m 165 #[vi p0, vi p1, vi p2, vi p3, vi p4, vi p5, vi 2, vr st_SPREAD_EXCLUSIVE, vi 1, vi 0, .val (.double (FP.l2d (p0.toInt64))), .second, .val (.double (FP.l2d (p1.toInt64))), .second, .val (.double (FP.l2d (p2.toInt64))), .second, .val (.double y1), .second, .val (.double y2), .second, vr b2, vi 1, .val (.double (FP.l2d (0 : Int64))), .second, .unset, .unset, .unset, .unset, .unset, .unset, .unset, .unset, .unset, .unset] [(.ref b2)])) rfl hml.symm (argsL := []) (rest := []) (lenOf pd_3 rfl) rfl rfl (own_wr rfl rfl) (hb hby at_165)
  obtain ⟨rfl, N4q, K4, Q4_0, Q4_1⟩ := hQ4
  have N4 := Fr.app N3 N4q
  have Q4_0' : Fd4 Z T4.heap b2 (.double (FP.l2d (0 : Int64))) := Eq.mp (congrArg (fun z => Fd4 Z T4.heap b2 (Value.double z)) own_add00) Q4_0
  have sz_0_3 := (Nat.le_trans sz_0_2 K4.1)
  have f9 := (kExa K4 f7)
  obtain ⟨_, T8, L8, X8, hQ8, st8⟩ := own_virtual X4 hx hZ hown (w31 hw) (w32 hw) (nfS hZ (w34 hw)) (w34 hw) (w33 hw) (w7 hw) (w35 hw) (by decide) (r_compounded l Z a0 hw [] b2 (FP.l2d (0 : Int64)) T4.heap n0 (Nat.le_trans Z0 sz_0_3) Q4_0') rfl f9 (W := 0) (by decide) (g := (mkF m 170 #[vi p0, vi p1, vi p2, vi p3, vi p4, vi p5, vi 2, vr st_SPREAD_EXCLUSIVE, vi 1, vi 0, .val (.double (FP.l2d (p0.toInt64))), .second, .val (.double (FP.l2d (p1.toInt64))), .second, .val (.double (FP.l2d (p2.toInt64))), .second, .val (.double y1), .second, .val (.double y2), .second, vr b2, vi 1, .val (.double (FP.l2d (0 : Int64))), .second, .unset, .unset, .unset, .unset, .unset, .unset, .unset, .unset, .unset, .unset] [(.ref b2)])) rfl hml.symm (argsL := []) (rest := []) (lenOf pd_0 rfl) rfl rfl (own_wr rfl rfl) (hb hby at_170)
  obtain ⟨rfl, N8q, e8⟩ := hQ8
  have N8 := Fr.app N4 N8q
  obtain ⟨_, T10, L10, X10, hQ10, st10⟩ := own_virtual X8 hx hZ hown (w22 hw) (w23 hw) (nfS hZ (w25 hw)) (w25 hw) (w24 hw) (w7 hw) (w26 hw) (by decide) (r_compound l Z a0 hw [] b2 (FP.l2d (0 : Int64)) (FP.l2d (0 : Int64)) T4.heap n0 (Nat.le_trans Z0 sz_0_3) Q4_0' Q4_1 ((own_nnof own_add00 (Jvm.Free.Fl.Mag64.fin (Jvm.Free.Fl.l2d_mag _) (by decide)).noNaN)) f9 (Nat.le_trans Z0 ge_b2)) e8 f9 (W := 0) (by decide) (g := (mkF m 197 #[vi p0, vi p1, vi p2, vi p3, vi p4, vi p5, vi 2, vr st_SPREAD_EXCLUSIVE, vi 1, vi 0, .val (.double (FP.l2d (p0.toInt64))), .second, .val (.double (FP.l2d (p1.toInt64))), .second, .val (.double (FP.l2d (p2.toInt64))), .second, .val (.double y1), .second, .val (.double y2), .second, vr b2, vi 1, .val (.double (FP.l2d (0 : Int64))), .second, .val (.double (FP.l2d (0 : Int64))), .second, .unset, .unset, .unset, .unset, .unset, .unset, .unset, .unset] [(.ref b2)])) rfl hml.symm (argsL := []) (rest := []) (lenOf pd_3 rfl) rfl rfl (own_wr rfl rfl) (hb hby at_197)
  obtain ⟨rfl, N10q, K10, Q10_0, Q10_1⟩ := hQ10
  have N10 := Fr.app N8 N10q
  have Q10_0' : Fd4 Z T10.heap b2 (.double (FP.l2d (0 : Int64))) := Eq.mp (congrArg (fun z => Fd4 Z T10.heap b2 (Value.double z)) own_add00) Q10_0
  have sz_0_4 := (Nat.le_trans sz_0_3 K10.1)
  have f12 := (kExa K10 f9)
  obtain ⟨_, T11, L11, X11, hQ11, st11⟩ := own_virtual X10 hx hZ hown (w31 hw) (w32 hw) (nfS hZ (w34 hw)) (w34 hw) (w33 hw) (w7 hw) (w35 hw) (by decide) (r_compounded l Z a0 hw [] b2 (FP.l2d (0 : Int64)) T10.heap n0 (Nat.le_trans Z0 sz_0_4) Q10_0') rfl f12 (W := 0) (by decide) (g := (mkF m 207 #[vi p0, vi p1, vi p2, vi p3, vi p4, vi p5, vi 2, vr st_SPREAD_EXCLUSIVE, vi 1, vi 0, .val (.double (FP.l2d (p0.toInt64))), .second, .val (.double (FP.l2d (p1.toInt64))), .second, .val (.double (FP.l2d (p2.toInt64))), .second, .val (.double y1), .second, .val (.double y2), .second, vr b2, vi 1, .val (.double (FP.l2d (0 : Int64))), .second, .val (.double (FP.l2d (0 : Int64))), .second, .unset, .unset, .unset, .unset, .unset, .unset, .unset, .unset] [(.ref b2)])) rfl hml.symm (argsL := []) (rest := []) (lenOf pd_0 rfl) rfl rfl (own_wr rfl rfl) (hb hby at_207)
  obtain ⟨rfl, N11q, e11⟩ := hQ11
  have N11 := Fr.app N10 N11q
  have f14 := (kFld K10 (kFld K4 Q3_0 (nwS (Or.inr (sn_23 hw)) (nwS (Or.inr (sn_22 hw)) nw0))) (nwS (Or.inr (sn_23 hw)) (nwS (Or.inr (sn_22 hw)) nw0)))
  have f15 := (kFld K10 (kFld K4 Q3_1 (nwS (Or.inr (sn_25 hw)) (nwS (Or.inr (sn_24 hw)) nw0))) (nwS (Or.inr (sn_25 hw)) (nwS (Or.inr (sn_24 hw)) nw0)))
  have f16 := (kFld K10 (kFld K4 Q3_2 (nwS (Or.inr (sn_27 hw)) (nwS (Or.inr (sn_26 hw)) nw0))) (nwS (Or.inr (sn_27 hw)) (nwS (Or.inr (sn_26 hw)) nw0)))
  obtain ⟨y3, hy3⟩ : ∃ z, z = (FP.dsub (FP.l2d (p1.toInt64)) (FP.l2d (p2.toInt64))) := ⟨_, rfl⟩
  have mg_y3 := own_mgk (K := 1090) hy3 (Jvm.Free.Fl.dsub_mag (K := 1088) (Jvm.Free.Fl.Mag64.mono (Jvm.Free.Fl.l2d_mag _) (by decide)) (Jvm.Free.Fl.Mag64.mono (Jvm.Free.Fl.l2d_mag _) (by decide)) (by decide)) (by decide)
  obtain ⟨y4, hy4⟩ : ∃ z, z = (FP.dmul (FP.l2d (p0.toInt64)) y3) := ⟨_, rfl⟩
  have mg_y4 := own_mgk (K := 1156) hy4 (Jvm.Free.Fl.dmul_mag (Jvm.Free.Fl.l2d_mag _) mg_y3 (by decide) (by decide)) (by decide)
  obtain ⟨y5, hy5⟩ : ∃ z, z = (FP.ddiv y4 (4636737291354636288 : UInt64)) := ⟨_, rfl⟩
  have mg_y5 := own_mgk (K := 1151) hy5 (Jvm.RoadKit.ddiv_mag (K := 1156) (L := 1029) mg_y4 (by unfold Big64; decide +kernel) (by decide) (by decide)) (by decide)
  obtain ⟨y6, hy6⟩ : ∃ z, z = (FP.dmul y5 y2) := ⟨_, rfl⟩
  have mg_y6 := own_mgk (K := 1210) hy6 (Jvm.Free.Fl.dmul_mag mg_y5 mg_y2 (by decide) (by decide)) (by decide)
  have f17 := (kFld K10 (kFld K4 Q3_3 (nwS (Or.inr (sn_29 hw)) (nwS (Or.inr (sn_28 hw)) nw0))) (nwS (Or.inr (sn_29 hw)) (nwS (Or.inr (sn_28 hw)) nw0)))
  have f18 := (kOld K10 (kOld K4 (kOld K3 (kOld K2 O0 na0) (naGM 4 rfl (Nat.le_trans Z0 ge_b2) na0)) (naS (P := fun w => n0 ≤ w.1) (Nat.le_trans Z0 ge_b2) (naS (P := fun w => n0 ≤ w.1) (Nat.le_trans Z0 ge_b2) na0))) (naS (P := fun w => n0 ≤ w.1) (Nat.le_trans Z0 ge_b2) (naS (P := fun w => n0 ≤ w.1) (Nat.le_trans Z0 ge_b2) na0)))
  obtain ⟨y7, hy7⟩ : ∃ z, z = (FP.dmul (FP.l2d (p0.toInt64)) (FP.l2d (p2.toInt64))) := ⟨_, rfl⟩
  have mg_y7 := own_mgk (K := 1154) hy7 (Jvm.Free.Fl.dmul_mag (Jvm.Free.Fl.l2d_mag _) (Jvm.Free.Fl.l2d_mag _) (by decide) (by decide)) (by decide)
  obtain ⟨y8, hy8⟩ : ∃ z, z = (FP.ddiv y7 (4636737291354636288 : UInt64)) := ⟨_, rfl⟩
  have mg_y8 := own_mgk (K := 1149) hy8 (Jvm.RoadKit.ddiv_mag (K := 1154) (L := 1029) mg_y7 (by unfold Big64; decide +kernel) (by decide) (by decide)) (by decide)
  obtain ⟨y9, hy9⟩ : ∃ z, z = (FP.dmul y8 y2) := ⟨_, rfl⟩
  have mg_y9 := own_mgk (K := 1208) hy9 (Jvm.Free.Fl.dmul_mag mg_y8 mg_y2 (by decide) (by decide)) (by decide)
  obtain ⟨y10, hy10⟩ : ∃ z, z = (FP.dadd (FP.l2d (0 : Int64)) y6) := ⟨_, rfl⟩
  have mg_y10 := own_mgk (K := 1212) hy10 (Jvm.Free.Fl.dadd_mag (K := 1210) (Jvm.Free.Fl.Mag64.mono (Jvm.Free.Fl.l2d_mag _) (by decide)) (Jvm.Free.Fl.Mag64.mono mg_y6 (by decide)) (by decide)) (by decide)
  obtain ⟨y11, hy11⟩ : ∃ z, z = (FP.dadd y6 y9) := ⟨_, rfl⟩
  have mg_y11 := own_mgk (K := 1212) hy11 (Jvm.Free.Fl.dadd_mag (K := 1210) (Jvm.Free.Fl.Mag64.mono mg_y6 (by decide)) (Jvm.Free.Fl.Mag64.mono mg_y9 (by decide)) (by decide)) (by decide)
  obtain ⟨_, T13, L13, X13, hQ13, st13⟩ := own_virtual X11 hx hZ hown (w36 hw) (w37 hw) (nfS hZ (w39 hw)) (w39 hw) (w38 hw) (w7 hw) (w40 hw) (by decide) (r_accrue_SPREAD_EXCLUSIVE l Z a0 hw [] b2 y2 (FP.l2d (p0.toInt64)) (FP.l2d (0 : Int64)) (FP.l2d (p1.toInt64)) (FP.l2d (p2.toInt64)) st_SPREAD_EXCLUSIVE st_ALL (FP.l2d (0 : Int64)) T10.heap n0 (Nat.le_trans Z0 sz_0_4) f12 f14 Q10_0' ((own_nnof (own_l2dz _) (Jvm.Free.Fl.Mag64.fin (Jvm.Free.Fl.l2d_mag _) (by decide)).noNaN)) f15 f16 ((own_nnof hy3.symm (Jvm.Free.Fl.Mag64.fin mg_y3 (by decide)).noNaN)) ((own_nnof (own_cg2 (f := FP.dmul) (own_l2dz _) hy3.symm hy4.symm) (Jvm.Free.Fl.Mag64.fin mg_y4 (by decide)).noNaN)) ((own_nnof (own_cg2 (f := FP.ddiv) (own_cg2 (f := FP.dmul) (own_l2dz _) hy3.symm hy4.symm) rfl hy5.symm) (Jvm.Free.Fl.Mag64.fin mg_y5 (by decide)).noNaN)) ((own_nnof (own_cg2 (f := FP.dmul) (own_cg2 (f := FP.ddiv) (own_cg2 (f := FP.dmul) (own_l2dz _) hy3.symm hy4.symm) rfl hy5.symm) rfl hy6.symm) (Jvm.Free.Fl.Mag64.fin mg_y6 (by decide)).noNaN)) f17 S_ALL f18 ne_st_ALL_st_SPREAD_EXCLUSIVE ((own_nnof hy7.symm (Jvm.Free.Fl.Mag64.fin mg_y7 (by decide)).noNaN)) ((own_nnof (own_cg2 (f := FP.ddiv) hy7.symm rfl hy8.symm) (Jvm.Free.Fl.Mag64.fin mg_y8 (by decide)).noNaN)) ((own_nnof (own_cg2 (f := FP.dmul) (own_cg2 (f := FP.ddiv) hy7.symm rfl hy8.symm) rfl hy9.symm) (Jvm.Free.Fl.Mag64.fin mg_y9 (by decide)).noNaN)) Q10_1 S_SPREAD_EXCLUSIVE ((own_nnof (own_cg2 (f := FP.dadd) rfl (own_cg2 (f := FP.dmul) (own_cg2 (f := FP.ddiv) (own_cg2 (f := FP.dmul) (own_l2dz _) hy3.symm hy4.symm) rfl hy5.symm) rfl hy6.symm) hy10.symm) (Jvm.Free.Fl.Mag64.fin mg_y10 (by decide)).noNaN)) (Nat.le_trans Z0 ge_b2) ((own_nnof (own_cg2 (f := FP.dadd) (own_cg2 (f := FP.dmul) (own_cg2 (f := FP.ddiv) (own_cg2 (f := FP.dmul) (own_l2dz _) hy3.symm hy4.symm) rfl hy5.symm) rfl hy6.symm) (own_cg2 (f := FP.dmul) (own_cg2 (f := FP.ddiv) hy7.symm rfl hy8.symm) rfl hy9.symm) hy11.symm) (Jvm.Free.Fl.Mag64.fin mg_y11 (by decide)).noNaN))) e11 f12 (W := 0) (by decide) (g := (mkF m 227 #[vi p0, vi p1, vi p2, vi p3, vi p4, vi p5, vi 2, vr st_SPREAD_EXCLUSIVE, vi 1, vi 0, .val (.double (FP.l2d (p0.toInt64))), .second, .val (.double (FP.l2d (p1.toInt64))), .second, .val (.double (FP.l2d (p2.toInt64))), .second, .val (.double y1), .second, .val (.double y2), .second, vr b2, vi 1, .val (.double (FP.l2d (0 : Int64))), .second, .val (.double (FP.l2d (0 : Int64))), .second, .unset, .unset, .unset, .unset, .unset, .unset, .unset, .unset] [(.double y2), (.ref b2)])) rfl hml.symm (argsL := [(.double y2)]) (rest := []) (lenOf pd_4 rfl) rfl rfl (own_wr rfl rfl) (hb hby at_227)
  obtain ⟨rfl, N13q, K13, Q13_0⟩ := hQ13
  have N13 := Fr.app N11 N13q
  have Q13_0' : Fd5 Z T13.heap b2 (.double y10) := Eq.mp (congrArg (fun z => Fd5 Z T13.heap b2 (Value.double z)) (own_cg2 (f := FP.dadd) rfl (own_cg2 (f := FP.dmul) (own_cg2 (f := FP.ddiv) (own_cg2 (f := FP.dmul) (own_l2dz _) hy3.symm hy4.symm) rfl hy5.symm) rfl hy6.symm) hy10.symm)) Q13_0
  have sz_0_5 := (Nat.le_trans sz_0_4 K13.1)
  obtain ⟨_, T19, L19, X19, hQ19, st19⟩ := own_static X13 hx hZ hown (w55 hw) (w56 hw) (w57 hw) (w58 hw) (by decide) (r_index l Z a0 hw [] (FP.l2d (p0.toInt64)) (FP.l2d (p1.toInt64)) (FP.l2d (p2.toInt64)) y2 T13.heap n0 (Nat.le_trans Z0 sz_0_5) ((own_nnof hy3.symm (Jvm.Free.Fl.Mag64.fin mg_y3 (by decide)).noNaN)) ((own_nnof (own_cg2 (f := FP.dmul) rfl hy3.symm hy4.symm) (Jvm.Free.Fl.Mag64.fin mg_y4 (by decide)).noNaN)) ((own_nnof (own_cg2 (f := FP.ddiv) (own_cg2 (f := FP.dmul) rfl hy3.symm hy4.symm) rfl hy5.symm) (Jvm.Free.Fl.Mag64.fin mg_y5 (by decide)).noNaN)) ((own_nnof (own_cg2 (f := FP.dmul) (own_cg2 (f := FP.ddiv) (own_cg2 (f := FP.dmul) rfl hy3.symm hy4.symm) rfl hy5.symm) rfl hy6.symm) (Jvm.Free.Fl.Mag64.fin mg_y6 (by decide)).noNaN))) rfl (W := 0) (by decide) (g := (mkF m 252 #[vi p0, vi p1, vi p2, vi p3, vi p4, vi p5, vi 2, vr st_SPREAD_EXCLUSIVE, vi 1, vi 0, .val (.double (FP.l2d (p0.toInt64))), .second, .val (.double (FP.l2d (p1.toInt64))), .second, .val (.double (FP.l2d (p2.toInt64))), .second, .val (.double y1), .second, .val (.double y2), .second, vr b2, vi 1, .val (.double (FP.l2d (0 : Int64))), .second, .val (.double (FP.l2d (0 : Int64))), .second, .val (.double y11), .second, .val (.double (FP.l2d (p0.toInt64))), .second, .unset, .unset, .unset, .unset] [(.double y2), (.double (FP.l2d (p2.toInt64))), (.double (FP.l2d (p1.toInt64))), (.double (FP.l2d (p0.toInt64)))])) rfl hml.symm (argsL := [(.double (FP.l2d (p0.toInt64))), (.double (FP.l2d (p1.toInt64))), (.double (FP.l2d (p2.toInt64))), (.double y2)]) (rest := []) (lenOf pd_5 rfl) rfl rfl (own_wr rfl rfl) (hb hby at_252)
  obtain ⟨rfl, N19q, e19⟩ := hQ19
  have N19 := Fr.app N13 N19q
  have f21 := (kFld K13 Q10_0' (nwS (Or.inr (sn_13 hw)) nw0))
  obtain ⟨y12, hy12⟩ : ∃ z, z = (FP.dadd (FP.l2d (0 : Int64)) y10) := ⟨_, rfl⟩
  have mg_y12 := own_mgk (K := 1214) hy12 (Jvm.Free.Fl.dadd_mag (K := 1212) (Jvm.Free.Fl.Mag64.mono (Jvm.Free.Fl.l2d_mag _) (by decide)) (Jvm.Free.Fl.Mag64.mono mg_y10 (by decide)) (by decide)) (by decide)
  have f22 := (kExa K13 f12)
  obtain ⟨_, T20, L20, X20, hQ20, st20⟩ := own_virtual X19 hx hZ hown (w22 hw) (w23 hw) (nfS hZ (w25 hw)) (w25 hw) (w24 hw) (w7 hw) (w26 hw) (by decide) (r_compound l Z a0 hw [] b2 (FP.l2d (0 : Int64)) y10 T13.heap n0 (Nat.le_trans Z0 sz_0_5) f21 Q13_0' ((own_nnof hy12.symm (Jvm.Free.Fl.Mag64.fin mg_y12 (by decide)).noNaN)) f22 (Nat.le_trans Z0 ge_b2)) e19 f22 (W := 0) (by decide) (g := (mkF m 264 #[vi p0, vi p1, vi p2, vi p3, vi p4, vi p5, vi 2, vr st_SPREAD_EXCLUSIVE, vi 1, vi 0, .val (.double (FP.l2d (p0.toInt64))), .second, .val (.double (FP.l2d (p1.toInt64))), .second, .val (.double (FP.l2d (p2.toInt64))), .second, .val (.double y1), .second, .val (.double y2), .second, vr b2, vi 1, .val (.double (FP.l2d (0 : Int64))), .second, .val (.double (FP.l2d (0 : Int64))), .second, .val (.double y11), .second, .val (.double (FP.l2d (p0.toInt64))), .second, .val (.double y6), .second, .unset, .unset] [(.ref b2)])) rfl hml.symm (argsL := []) (rest := []) (lenOf pd_3 rfl) rfl rfl (own_wr rfl rfl) (hb hby at_264)
  obtain ⟨rfl, N20q, K20, Q20_0, Q20_1⟩ := hQ20
  have N20 := Fr.app N19 N20q
  have Q20_0' : Fd4 Z T20.heap b2 (.double y12) := Eq.mp (congrArg (fun z => Fd4 Z T20.heap b2 (Value.double z)) hy12.symm) Q20_0
  have sz_0_6 := (Nat.le_trans sz_0_5 K20.1)
  have f24 := (kExa K20 f22)
  obtain ⟨_, T23, L23, X23, hQ23, st23⟩ := own_virtual X20 hx hZ hown (w31 hw) (w32 hw) (nfS hZ (w34 hw)) (w34 hw) (w33 hw) (w7 hw) (w35 hw) (by decide) (r_compounded l Z a0 hw [] b2 y12 T20.heap n0 (Nat.le_trans Z0 sz_0_6) Q20_0') rfl f24 (W := 0) (by decide) (g := (mkF m 269 #[vi p0, vi p1, vi p2, vi p3, vi p4, vi p5, vi 2, vr st_SPREAD_EXCLUSIVE, vi 1, vi 0, .val (.double (FP.l2d (p0.toInt64))), .second, .val (.double (FP.l2d (p1.toInt64))), .second, .val (.double (FP.l2d (p2.toInt64))), .second, .val (.double y1), .second, .val (.double y2), .second, vr b2, vi 1, .val (.double (FP.l2d (0 : Int64))), .second, .val (.double (FP.l2d (0 : Int64))), .second, .val (.double y11), .second, .val (.double (FP.l2d (p0.toInt64))), .second, .val (.double y6), .second, .unset, .unset] [(.ref b2)])) rfl hml.symm (argsL := []) (rest := []) (lenOf pd_0 rfl) rfl rfl (own_wr rfl rfl) (hb hby at_269)
  obtain ⟨rfl, N23q, e23⟩ := hQ23
  have N23 := Fr.app N20 N23q
  have f26 := (kFld K20 (kFld K13 f14 (nwS (Or.inr (sn_22 hw)) nw0)) (nwS (Or.inr (sn_23 hw)) (nwS (Or.inr (sn_22 hw)) nw0)))
  obtain ⟨y13, hy13⟩ : ∃ z, z = (FP.dadd (FP.l2d (p0.toInt64)) y12) := ⟨_, rfl⟩
  have mg_y13 := own_mgk (K := 1216) hy13 (Jvm.Free.Fl.dadd_mag (K := 1214) (Jvm.Free.Fl.Mag64.mono (Jvm.Free.Fl.l2d_mag _) (by decide)) (Jvm.Free.Fl.Mag64.mono mg_y12 (by decide)) (by decide)) (by decide)
  obtain ⟨_, T25, L25, X25, hQ25, st25⟩ := own_virtual X23 hx hZ hown (w53 hw) (w42 hw) (nfS hZ (w44 hw)) (w44 hw) (w43 hw) (w7 hw) (w45 hw) (by decide) (r_base l Z a0 hw [] b2 (FP.l2d (p0.toInt64)) y12 T20.heap n0 (Nat.le_trans Z0 sz_0_6) f26 Q20_0' ((own_nnof hy13.symm (Jvm.Free.Fl.Mag64.fin mg_y13 (by decide)).noNaN))) e23 f24 (W := 0) (by decide) (g := (mkF m 304 #[vi p0, vi p1, vi p2, vi p3, vi p4, vi p5, vi 2, vr st_SPREAD_EXCLUSIVE, vi 1, vi 0, .val (.double (FP.l2d (p0.toInt64))), .second, .val (.double (FP.l2d (p1.toInt64))), .second, .val (.double (FP.l2d (p2.toInt64))), .second, .val (.double y1), .second, .val (.double y2), .second, vr b2, vi 1, .val (.double (FP.l2d (0 : Int64))), .second, .val (.double (FP.l2d (0 : Int64))), .second, .val (.double y11), .second, .val (.double (FP.l2d (p0.toInt64))), .second, .val (.double y6), .second, .val (.double y12), .second] [(.ref b2)])) rfl hml.symm (argsL := []) (rest := []) (lenOf pd_0 rfl) rfl rfl (own_wr rfl rfl) (hb hby at_304)
  obtain ⟨rfl, N25q, e25⟩ := hQ25
  have N25 := Fr.app N23 N25q
  refine ⟨T25, _, some (.int 1), X25, (fun h => by cases h <;> rfl), ?_, fun fs hr => ?_⟩
  · show Q_law n0 _ _
    exact ⟨rfl, N25⟩
  · refine t_iload 2 X0.here hx (hb hby at_0) rfl rfl ?_
    refine X0.ldcInt hx hown (mvT hZ (w0 hw)) (g := (mkF m 2 #[vi p0, vi p1, vi p2, vi p3, vi p4, vi p5, .unset, .unset, .unset, .unset, .unset, .unset, .unset, .unset, .unset, .unset, .unset, .unset, .unset, .unset, .unset, .unset, .unset, .unset, .unset, .unset, .unset, .unset, .unset, .unset, .unset, .unset, .unset, .unset] [(.int p5)])) rfl (hb hby at_2) _ ?_
    refine t_iand 5 X0.here hx (hb hby at_4) rfl rfl ?_
    refine t_iconst 6 (r := 3) X0.here hx (hb hby at_5) (by decide) rfl ?_
    refine t_irem 7 (r := 2) X0.here hx (hb hby at_6) (by decide) hk rfl ?_
    refine t_istore (pc' := 9) (L' := #[vi p0, vi p1, vi p2, vi p3, vi p4, vi p5, vi 2, .unset, .unset, .unset, .unset, .unset, .unset, .unset, .unset, .unset, .unset, .unset, .unset, .unset, .unset, .unset, .unset, .unset, .unset, .unset, .unset, .unset, .unset, .unset, .unset, .unset, .unset, .unset]) X0.here hx (hb hby at_7) rfl rfl ?_
    refine t_iload 11 X0.here hx (hb hby at_9) rfl rfl ?_
    refine t_ifYes (pc := 11) 20 X0.here hx (hb hby at_11) (by decide) (by decide) (by decide) ?_
    refine t_iload 22 X0.here hx (hb hby at_20) rfl rfl ?_
    refine t_iconst 23 (r := 1) X0.here hx (hb hby at_22) (by decide) rfl ?_
    refine t_icmpYes (pc := 23) 32 X0.here hx (hb hby at_23) (by decide) (by decide) (by decide) ?_
    refine st1 _ ?_
    refine t_astore (pc' := 37) (L' := #[vi p0, vi p1, vi p2, vi p3, vi p4, vi p5, vi 2, vr st_SPREAD_EXCLUSIVE, .unset, .unset, .unset, .unset, .unset, .unset, .unset, .unset, .unset, .unset, .unset, .unset, .unset, .unset, .unset, .unset, .unset, .unset, .unset, .unset, .unset, .unset, .unset, .unset, .unset, .unset]) X1.here hx (hb hby at_35) rfl rfl rfl ?_
    refine t_iload 39 X1.here hx (hb hby at_37) rfl rfl ?_
    refine t_iconst 40 (r := 2) X1.here hx (hb hby at_39) (by decide) rfl ?_
    refine t_icmpNo 43 X1.here hx (hb hby at_40) (by decide) rfl ?_
    refine t_iconst 44 (r := 1) X1.here hx (hb hby at_43) (by decide) rfl ?_
    refine t_goto (pc := 44) 48 X1.here hx (hb hby at_44) (by decide) (by decide) ?_
    refine t_istore (pc' := 50) (L' := #[vi p0, vi p1, vi p2, vi p3, vi p4, vi p5, vi 2, vr st_SPREAD_EXCLUSIVE, vi 1, .unset, .unset, .unset, .unset, .unset, .unset, .unset, .unset, .unset, .unset, .unset, .unset, .unset, .unset, .unset, .unset, .unset, .unset, .unset, .unset, .unset, .unset, .unset, .unset, .unset]) X1.here hx (hb hby at_48) rfl rfl ?_
    refine t_iload 52 X1.here hx (hb hby at_50) rfl rfl ?_
    refine t_iconst 53 (r := 4) X1.here hx (hb hby at_52) (by decide) rfl ?_
    refine t_iushr 54 X1.here hx (hb hby at_53) rfl rfl ?_
    refine t_iconst 55 (r := 1) X1.here hx (hb hby at_54) (by decide) rfl ?_
    refine t_iand 56 (r := 0) X1.here hx (hb hby at_55) hf1 rfl ?_
    refine t_ifYes (pc := 56) 63 X1.here hx (hb hby at_56) (by decide) (by decide) (by decide) ?_
    refine t_iconst 64 (r := 0) X1.here hx (hb hby at_63) (by decide) rfl ?_
    refine t_istore (pc' := 66) (L' := #[vi p0, vi p1, vi p2, vi p3, vi p4, vi p5, vi 2, vr st_SPREAD_EXCLUSIVE, vi 1, vi 0, .unset, .unset, .unset, .unset, .unset, .unset, .unset, .unset, .unset, .unset, .unset, .unset, .unset, .unset, .unset, .unset, .unset, .unset, .unset, .unset, .unset, .unset, .unset, .unset]) X1.here hx (hb hby at_64) rfl rfl ?_
    refine t_iloadN 67 X1.here hx (hb hby at_66) rfl rfl ?_
    refine t_i2d 68 (r := (FP.l2d (p0.toInt64))) X1.here hx (hb hby at_67) (i2d_w _) rfl ?_
    refine t_dstore (pc' := 70) (L' := #[vi p0, vi p1, vi p2, vi p3, vi p4, vi p5, vi 2, vr st_SPREAD_EXCLUSIVE, vi 1, vi 0, .val (.double (FP.l2d (p0.toInt64))), .second, .unset, .unset, .unset, .unset, .unset, .unset, .unset, .unset, .unset, .unset, .unset, .unset, .unset, .unset, .unset, .unset, .unset, .unset, .unset, .unset, .unset, .unset]) X1.here hx (hb hby at_68) rfl rfl ?_
    refine t_iloadN 71 X1.here hx (hb hby at_70) rfl rfl ?_
    refine t_i2d 72 (r := (FP.l2d (p1.toInt64))) X1.here hx (hb hby at_71) (i2d_w _) rfl ?_
    refine t_dstore (pc' := 74) (L' := #[vi p0, vi p1, vi p2, vi p3, vi p4, vi p5, vi 2, vr st_SPREAD_EXCLUSIVE, vi 1, vi 0, .val (.double (FP.l2d (p0.toInt64))), .second, .val (.double (FP.l2d (p1.toInt64))), .second, .unset, .unset, .unset, .unset, .unset, .unset, .unset, .unset, .unset, .unset, .unset, .unset, .unset, .unset, .unset, .unset, .unset, .unset, .unset, .unset]) X1.here hx (hb hby at_72) rfl rfl ?_
    refine t_iloadN 75 X1.here hx (hb hby at_74) rfl rfl ?_
    refine t_i2d 76 (r := (FP.l2d (p2.toInt64))) X1.here hx (hb hby at_75) (i2d_w _) rfl ?_
    refine t_dstore (pc' := 78) (L' := #[vi p0, vi p1, vi p2, vi p3, vi p4, vi p5, vi 2, vr st_SPREAD_EXCLUSIVE, vi 1, vi 0, .val (.double (FP.l2d (p0.toInt64))), .second, .val (.double (FP.l2d (p1.toInt64))), .second, .val (.double (FP.l2d (p2.toInt64))), .second, .unset, .unset, .unset, .unset, .unset, .unset, .unset, .unset, .unset, .unset, .unset, .unset, .unset, .unset, .unset, .unset, .unset, .unset]) X1.here hx (hb hby at_76) rfl rfl ?_
    refine t_iloadN 79 X1.here hx (hb hby at_78) rfl rfl ?_
    refine t_sipush 82 (r := 1023) X1.here hx (hb hby at_79) (by decide) rfl ?_
    refine t_iand 83 X1.here hx (hb hby at_82) rfl rfl ?_
    refine t_i2d 84 (r := (FP.l2d ((p3 &&& (1023 : Int32)).toInt64))) X1.here hx (hb hby at_83) (i2d_w _) rfl ?_
    refine X1.ldc2DoubleC hx hown (mvT hZ (w4 hw)) (g := (mkF m 84 #[vi p0, vi p1, vi p2, vi p3, vi p4, vi p5, vi 2, vr st_SPREAD_EXCLUSIVE, vi 1, vi 0, .val (.double (FP.l2d (p0.toInt64))), .second, .val (.double (FP.l2d (p1.toInt64))), .second, .val (.double (FP.l2d (p2.toInt64))), .second, .unset, .unset, .unset, .unset, .unset, .unset, .unset, .unset, .unset, .unset, .unset, .unset, .unset, .unset, .unset, .unset, .unset, .unset] [(.double (FP.l2d ((p3 &&& (1023 : Int32)).toInt64)))])) rfl (hb hby at_84) _ ?_
    refine t_ddiv 88 (r := (FP.ddiv (FP.l2d ((p3 &&& (1023 : Int32)).toInt64)) (4643211215818981376 : UInt64))) X1.here hx (hb hby at_87) (own_nnof hy1.symm (Jvm.Free.Fl.Mag64.fin mg_y1 (by decide)).noNaN) rfl rfl ?_
    refine castTop (g' := (mkF m 88 #[vi p0, vi p1, vi p2, vi p3, vi p4, vi p5, vi 2, vr st_SPREAD_EXCLUSIVE, vi 1, vi 0, .val (.double (FP.l2d (p0.toInt64))), .second, .val (.double (FP.l2d (p1.toInt64))), .second, .val (.double (FP.l2d (p2.toInt64))), .second, .unset, .unset, .unset, .unset, .unset, .unset, .unset, .unset, .unset, .unset, .unset, .unset, .unset, .unset, .unset, .unset, .unset, .unset] [(.double y1)])) (congrArg (fun z => mkF m 88 #[vi p0, vi p1, vi p2, vi p3, vi p4, vi p5, vi 2, vr st_SPREAD_EXCLUSIVE, vi 1, vi 0, .val (.double (FP.l2d (p0.toInt64))), .second, .val (.double (FP.l2d (p1.toInt64))), .second, .val (.double (FP.l2d (p2.toInt64))), .second, .unset, .unset, .unset, .unset, .unset, .unset, .unset, .unset, .unset, .unset, .unset, .unset, .unset, .unset, .unset, .unset, .unset, .unset] (Value.double z :: [])) hy1.symm) ?_
    refine t_dstore (pc' := 90) (L' := #[vi p0, vi p1, vi p2, vi p3, vi p4, vi p5, vi 2, vr st_SPREAD_EXCLUSIVE, vi 1, vi 0, .val (.double (FP.l2d (p0.toInt64))), .second, .val (.double (FP.l2d (p1.toInt64))), .second, .val (.double (FP.l2d (p2.toInt64))), .second, .val (.double y1), .second, .unset, .unset, .unset, .unset, .unset, .unset, .unset, .unset, .unset, .unset, .unset, .unset, .unset, .unset, .unset, .unset]) X1.here hx (hb hby at_88) rfl rfl ?_
    refine t_iload 92 X1.here hx (hb hby at_90) rfl rfl ?_
    refine t_sipush 95 (r := 1023) X1.here hx (hb hby at_92) (by decide) rfl ?_
    refine t_iand 96 X1.here hx (hb hby at_95) rfl rfl ?_
    refine t_i2d 97 (r := (FP.l2d ((p4 &&& (1023 : Int32)).toInt64))) X1.here hx (hb hby at_96) (i2d_w _) rfl ?_
    refine X1.ldc2DoubleC hx hown (mvT hZ (w4 hw)) (g := (mkF m 97 #[vi p0, vi p1, vi p2, vi p3, vi p4, vi p5, vi 2, vr st_SPREAD_EXCLUSIVE, vi 1, vi 0, .val (.double (FP.l2d (p0.toInt64))), .second, .val (.double (FP.l2d (p1.toInt64))), .second, .val (.double (FP.l2d (p2.toInt64))), .second, .val (.double y1), .second, .unset, .unset, .unset, .unset, .unset, .unset, .unset, .unset, .unset, .unset, .unset, .unset, .unset, .unset, .unset, .unset] [(.double (FP.l2d ((p4 &&& (1023 : Int32)).toInt64)))])) rfl (hb hby at_97) _ ?_
    refine t_ddiv 101 (r := (FP.ddiv (FP.l2d ((p4 &&& (1023 : Int32)).toInt64)) (4643211215818981376 : UInt64))) X1.here hx (hb hby at_100) (own_nnof hy2.symm (Jvm.Free.Fl.Mag64.fin mg_y2 (by decide)).noNaN) rfl rfl ?_
    refine castTop (g' := (mkF m 101 #[vi p0, vi p1, vi p2, vi p3, vi p4, vi p5, vi 2, vr st_SPREAD_EXCLUSIVE, vi 1, vi 0, .val (.double (FP.l2d (p0.toInt64))), .second, .val (.double (FP.l2d (p1.toInt64))), .second, .val (.double (FP.l2d (p2.toInt64))), .second, .val (.double y1), .second, .unset, .unset, .unset, .unset, .unset, .unset, .unset, .unset, .unset, .unset, .unset, .unset, .unset, .unset, .unset, .unset] [(.double y2)])) (congrArg (fun z => mkF m 101 #[vi p0, vi p1, vi p2, vi p3, vi p4, vi p5, vi 2, vr st_SPREAD_EXCLUSIVE, vi 1, vi 0, .val (.double (FP.l2d (p0.toInt64))), .second, .val (.double (FP.l2d (p1.toInt64))), .second, .val (.double (FP.l2d (p2.toInt64))), .second, .val (.double y1), .second, .unset, .unset, .unset, .unset, .unset, .unset, .unset, .unset, .unset, .unset, .unset, .unset, .unset, .unset, .unset, .unset] (Value.double z :: [])) hy2.symm) ?_
    refine t_dstore (pc' := 103) (L' := #[vi p0, vi p1, vi p2, vi p3, vi p4, vi p5, vi 2, vr st_SPREAD_EXCLUSIVE, vi 1, vi 0, .val (.double (FP.l2d (p0.toInt64))), .second, .val (.double (FP.l2d (p1.toInt64))), .second, .val (.double (FP.l2d (p2.toInt64))), .second, .val (.double y1), .second, .val (.double y2), .second, .unset, .unset, .unset, .unset, .unset, .unset, .unset, .unset, .unset, .unset, .unset, .unset, .unset, .unset]) X1.here hx (hb hby at_101) rfl rfl ?_
    refine st2 _ ?_
    refine t_dup 107 X2.here hx (hb hby at_106) rfl rfl ?_
    refine t_dload 109 X2.here hx (hb hby at_107) rfl rfl ?_
    refine t_dload 111 X2.here hx (hb hby at_109) rfl rfl ?_
    refine t_dload 113 X2.here hx (hb hby at_111) rfl rfl ?_
    refine t_aload 115 X2.here hx (hb hby at_113) rfl rfl rfl ?_
    refine st3 _ ?_
    refine t_astore (pc' := 120) (L' := #[vi p0, vi p1, vi p2, vi p3, vi p4, vi p5, vi 2, vr st_SPREAD_EXCLUSIVE, vi 1, vi 0, .val (.double (FP.l2d (p0.toInt64))), .second, .val (.double (FP.l2d (p1.toInt64))), .second, .val (.double (FP.l2d (p2.toInt64))), .second, .val (.double y1), .second, .val (.double y2), .second, vr b2, .unset, .unset, .unset, .unset, .unset, .unset, .unset, .unset, .unset, .unset, .unset, .unset, .unset]) X3.here hx (hb hby at_118) rfl rfl rfl ?_
    refine t_iconst 121 (r := 1) X3.here hx (hb hby at_120) (by decide) rfl ?_
    refine t_istore (pc' := 123) (L' := #[vi p0, vi p1, vi p2, vi p3, vi p4, vi p5, vi 2, vr st_SPREAD_EXCLUSIVE, vi 1, vi 0, .val (.double (FP.l2d (p0.toInt64))), .second, .val (.double (FP.l2d (p1.toInt64))), .second, .val (.double (FP.l2d (p2.toInt64))), .second, .val (.double y1), .second, .val (.double y2), .second, vr b2, vi 1, .unset, .unset, .unset, .unset, .unset, .unset, .unset, .unset, .unset, .unset, .unset, .unset]) X3.here hx (hb hby at_121) rfl rfl ?_
    refine t_dconst0 124 (r := (FP.l2d (0 : Int64))) X3.here hx (hb hby at_123) own_dconst0 rfl ?_
    refine t_dstore (pc' := 126) (L' := #[vi p0, vi p1, vi p2, vi p3, vi p4, vi p5, vi 2, vr st_SPREAD_EXCLUSIVE, vi 1, vi 0, .val (.double (FP.l2d (p0.toInt64))), .second, .val (.double (FP.l2d (p1.toInt64))), .second, .val (.double (FP.l2d (p2.toInt64))), .second, .val (.double y1), .second, .val (.double y2), .second, vr b2, vi 1, .val (.double (FP.l2d (0 : Int64))), .second, .unset, .unset, .unset, .unset, .unset, .unset, .unset, .unset, .unset, .unset]) X3.here hx (hb hby at_124) rfl rfl ?_
    refine t_iload 128 X3.here hx (hb hby at_126) rfl rfl ?_
    refine t_ifYes (pc := 128) 163 X3.here hx (hb hby at_128) (by decide) (by decide) (by decide) ?_
    refine t_aload 165 X3.here hx (hb hby at_163) rfl rfl rfl ?_
    refine st4 _ ?_
    refine t_aload 170 X4.here hx (hb hby at_168) rfl rfl rfl ?_
    refine st8 _ ?_
    refine t_dstore (pc' := 175) (L' := #[vi p0, vi p1, vi p2, vi p3, vi p4, vi p5, vi 2, vr st_SPREAD_EXCLUSIVE, vi 1, vi 0, .val (.double (FP.l2d (p0.toInt64))), .second, .val (.double (FP.l2d (p1.toInt64))), .second, .val (.double (FP.l2d (p2.toInt64))), .second, .val (.double y1), .second, .val (.double y2), .second, vr b2, vi 1, .val (.double (FP.l2d (0 : Int64))), .second, .val (.double (FP.l2d (0 : Int64))), .second, .unset, .unset, .unset, .unset, .unset, .unset, .unset, .unset]) X8.here hx (hb hby at_173) rfl rfl ?_
    refine t_iload 177 X8.here hx (hb hby at_175) rfl rfl ?_
    refine t_ifNo 180 X8.here hx (hb hby at_177) (by decide) rfl ?_
    refine t_dload 182 X8.here hx (hb hby at_180) rfl rfl ?_
    refine t_dload 184 X8.here hx (hb hby at_182) rfl rfl ?_
    refine t_dcmp 185 (r := 0) X8.here hx (hb hby at_184) (dcmpV_self ((Jvm.Free.Fl.Mag64.fin (Jvm.Free.Fl.l2d_mag _) (by decide)).noNaN) _) rfl ?_
    refine t_ifNo 188 X8.here hx (hb hby at_185) (by decide) rfl ?_
    refine t_iconst 189 (r := 1) X8.here hx (hb hby at_188) (by decide) rfl ?_
    refine t_goto (pc := 189) 193 X8.here hx (hb hby at_189) (by decide) (by decide) ?_
    refine t_istore (pc' := 195) (L' := #[vi p0, vi p1, vi p2, vi p3, vi p4, vi p5, vi 2, vr st_SPREAD_EXCLUSIVE, vi 1, vi 0, .val (.double (FP.l2d (p0.toInt64))), .second, .val (.double (FP.l2d (p1.toInt64))), .second, .val (.double (FP.l2d (p2.toInt64))), .second, .val (.double y1), .second, .val (.double y2), .second, vr b2, vi 1, .val (.double (FP.l2d (0 : Int64))), .second, .val (.double (FP.l2d (0 : Int64))), .second, .unset, .unset, .unset, .unset, .unset, .unset, .unset, .unset]) X8.here hx (hb hby at_193) rfl rfl ?_
    refine t_aload 197 X8.here hx (hb hby at_195) rfl rfl rfl ?_
    refine st10 _ ?_
    refine t_iload 202 X10.here hx (hb hby at_200) rfl rfl ?_
    refine t_ifNo 205 X10.here hx (hb hby at_202) (by decide) rfl ?_
    refine t_aload 207 X10.here hx (hb hby at_205) rfl rfl rfl ?_
    refine st11 _ ?_
    refine t_dload 212 X11.here hx (hb hby at_210) rfl rfl ?_
    refine t_dcmp 213 (r := 0) X11.here hx (hb hby at_212) (dcmpV_self ((Jvm.Free.Fl.Mag64.fin (Jvm.Free.Fl.l2d_mag _) (by decide)).noNaN) _) rfl ?_
    refine t_ifNo 216 X11.here hx (hb hby at_213) (by decide) rfl ?_
    refine t_iconst 217 (r := 1) X11.here hx (hb hby at_216) (by decide) rfl ?_
    refine t_goto (pc := 217) 221 X11.here hx (hb hby at_217) (by decide) (by decide) ?_
    refine t_istore (pc' := 223) (L' := #[vi p0, vi p1, vi p2, vi p3, vi p4, vi p5, vi 2, vr st_SPREAD_EXCLUSIVE, vi 1, vi 0, .val (.double (FP.l2d (p0.toInt64))), .second, .val (.double (FP.l2d (p1.toInt64))), .second, .val (.double (FP.l2d (p2.toInt64))), .second, .val (.double y1), .second, .val (.double y2), .second, vr b2, vi 1, .val (.double (FP.l2d (0 : Int64))), .second, .val (.double (FP.l2d (0 : Int64))), .second, .unset, .unset, .unset, .unset, .unset, .unset, .unset, .unset]) X11.here hx (hb hby at_221) rfl rfl ?_
    refine t_aload 225 X11.here hx (hb hby at_223) rfl rfl rfl ?_
    refine t_dload 227 X11.here hx (hb hby at_225) rfl rfl ?_
    refine st13 _ ?_
    refine castTop (g' := (mkF m 230 #[vi p0, vi p1, vi p2, vi p3, vi p4, vi p5, vi 2, vr st_SPREAD_EXCLUSIVE, vi 1, vi 0, .val (.double (FP.l2d (p0.toInt64))), .second, .val (.double (FP.l2d (p1.toInt64))), .second, .val (.double (FP.l2d (p2.toInt64))), .second, .val (.double y1), .second, .val (.double y2), .second, vr b2, vi 1, .val (.double (FP.l2d (0 : Int64))), .second, .val (.double (FP.l2d (0 : Int64))), .second, .unset, .unset, .unset, .unset, .unset, .unset, .unset, .unset] [(.double y11)])) (congrArg (fun z => mkF m 230 #[vi p0, vi p1, vi p2, vi p3, vi p4, vi p5, vi 2, vr st_SPREAD_EXCLUSIVE, vi 1, vi 0, .val (.double (FP.l2d (p0.toInt64))), .second, .val (.double (FP.l2d (p1.toInt64))), .second, .val (.double (FP.l2d (p2.toInt64))), .second, .val (.double y1), .second, .val (.double y2), .second, vr b2, vi 1, .val (.double (FP.l2d (0 : Int64))), .second, .val (.double (FP.l2d (0 : Int64))), .second, .unset, .unset, .unset, .unset, .unset, .unset, .unset, .unset] (Value.double z :: [])) (own_cg2 (f := FP.dadd) (own_cg2 (f := FP.dmul) (own_cg2 (f := FP.ddiv) (own_cg2 (f := FP.dmul) (own_l2dz _) hy3.symm hy4.symm) rfl hy5.symm) rfl hy6.symm) (own_cg2 (f := FP.dmul) (own_cg2 (f := FP.ddiv) hy7.symm rfl hy8.symm) rfl hy9.symm) hy11.symm)) ?_
    refine t_dstore (pc' := 232) (L' := #[vi p0, vi p1, vi p2, vi p3, vi p4, vi p5, vi 2, vr st_SPREAD_EXCLUSIVE, vi 1, vi 0, .val (.double (FP.l2d (p0.toInt64))), .second, .val (.double (FP.l2d (p1.toInt64))), .second, .val (.double (FP.l2d (p2.toInt64))), .second, .val (.double y1), .second, .val (.double y2), .second, vr b2, vi 1, .val (.double (FP.l2d (0 : Int64))), .second, .val (.double (FP.l2d (0 : Int64))), .second, .val (.double y11), .second, .unset, .unset, .unset, .unset, .unset, .unset]) X13.here hx (hb hby at_230) rfl rfl ?_
    refine t_dload 234 X13.here hx (hb hby at_232) rfl rfl ?_
    refine t_dload 236 X13.here hx (hb hby at_234) rfl rfl ?_
    refine t_dadd 237 (r := (FP.dadd (FP.l2d (p0.toInt64)) (FP.l2d (0 : Int64)))) X13.here hx (hb hby at_236) (own_nnof (own_l2dz _) (Jvm.Free.Fl.Mag64.fin (Jvm.Free.Fl.l2d_mag _) (by decide)).noNaN) rfl rfl ?_
    refine castTop (g' := (mkF m 237 #[vi p0, vi p1, vi p2, vi p3, vi p4, vi p5, vi 2, vr st_SPREAD_EXCLUSIVE, vi 1, vi 0, .val (.double (FP.l2d (p0.toInt64))), .second, .val (.double (FP.l2d (p1.toInt64))), .second, .val (.double (FP.l2d (p2.toInt64))), .second, .val (.double y1), .second, .val (.double y2), .second, vr b2, vi 1, .val (.double (FP.l2d (0 : Int64))), .second, .val (.double (FP.l2d (0 : Int64))), .second, .val (.double y11), .second, .unset, .unset, .unset, .unset, .unset, .unset] [(.double (FP.l2d (p0.toInt64)))])) (congrArg (fun z => mkF m 237 #[vi p0, vi p1, vi p2, vi p3, vi p4, vi p5, vi 2, vr st_SPREAD_EXCLUSIVE, vi 1, vi 0, .val (.double (FP.l2d (p0.toInt64))), .second, .val (.double (FP.l2d (p1.toInt64))), .second, .val (.double (FP.l2d (p2.toInt64))), .second, .val (.double y1), .second, .val (.double y2), .second, vr b2, vi 1, .val (.double (FP.l2d (0 : Int64))), .second, .val (.double (FP.l2d (0 : Int64))), .second, .val (.double y11), .second, .unset, .unset, .unset, .unset, .unset, .unset] (Value.double z :: [])) (own_l2dz _)) ?_
    refine t_dstore (pc' := 239) (L' := #[vi p0, vi p1, vi p2, vi p3, vi p4, vi p5, vi 2, vr st_SPREAD_EXCLUSIVE, vi 1, vi 0, .val (.double (FP.l2d (p0.toInt64))), .second, .val (.double (FP.l2d (p1.toInt64))), .second, .val (.double (FP.l2d (p2.toInt64))), .second, .val (.double y1), .second, .val (.double y2), .second, vr b2, vi 1, .val (.double (FP.l2d (0 : Int64))), .second, .val (.double (FP.l2d (0 : Int64))), .second, .val (.double y11), .second, .val (.double (FP.l2d (p0.toInt64))), .second, .unset, .unset, .unset, .unset]) X13.here hx (hb hby at_237) rfl rfl ?_
    refine t_iload 241 X13.here hx (hb hby at_239) rfl rfl ?_
    refine t_ifNo 244 X13.here hx (hb hby at_241) (by decide) rfl ?_
    refine t_dload 246 X13.here hx (hb hby at_244) rfl rfl ?_
    refine t_dload 248 X13.here hx (hb hby at_246) rfl rfl ?_
    refine t_dload 250 X13.here hx (hb hby at_248) rfl rfl ?_
    refine t_dload 252 X13.here hx (hb hby at_250) rfl rfl ?_
    refine st19 _ ?_
    refine castTop (g' := (mkF m 255 #[vi p0, vi p1, vi p2, vi p3, vi p4, vi p5, vi 2, vr st_SPREAD_EXCLUSIVE, vi 1, vi 0, .val (.double (FP.l2d (p0.toInt64))), .second, .val (.double (FP.l2d (p1.toInt64))), .second, .val (.double (FP.l2d (p2.toInt64))), .second, .val (.double y1), .second, .val (.double y2), .second, vr b2, vi 1, .val (.double (FP.l2d (0 : Int64))), .second, .val (.double (FP.l2d (0 : Int64))), .second, .val (.double y11), .second, .val (.double (FP.l2d (p0.toInt64))), .second, .unset, .unset, .unset, .unset] [(.double y6)])) (congrArg (fun z => mkF m 255 #[vi p0, vi p1, vi p2, vi p3, vi p4, vi p5, vi 2, vr st_SPREAD_EXCLUSIVE, vi 1, vi 0, .val (.double (FP.l2d (p0.toInt64))), .second, .val (.double (FP.l2d (p1.toInt64))), .second, .val (.double (FP.l2d (p2.toInt64))), .second, .val (.double y1), .second, .val (.double y2), .second, vr b2, vi 1, .val (.double (FP.l2d (0 : Int64))), .second, .val (.double (FP.l2d (0 : Int64))), .second, .val (.double y11), .second, .val (.double (FP.l2d (p0.toInt64))), .second, .unset, .unset, .unset, .unset] (Value.double z :: [])) (own_cg2 (f := FP.dmul) (own_cg2 (f := FP.ddiv) (own_cg2 (f := FP.dmul) rfl hy3.symm hy4.symm) rfl hy5.symm) rfl hy6.symm)) ?_
    refine t_goto (pc := 255) 260 X19.here hx (hb hby at_255) (by decide) (by decide) ?_
    refine t_dstore (pc' := 262) (L' := #[vi p0, vi p1, vi p2, vi p3, vi p4, vi p5, vi 2, vr st_SPREAD_EXCLUSIVE, vi 1, vi 0, .val (.double (FP.l2d (p0.toInt64))), .second, .val (.double (FP.l2d (p1.toInt64))), .second, .val (.double (FP.l2d (p2.toInt64))), .second, .val (.double y1), .second, .val (.double y2), .second, vr b2, vi 1, .val (.double (FP.l2d (0 : Int64))), .second, .val (.double (FP.l2d (0 : Int64))), .second, .val (.double y11), .second, .val (.double (FP.l2d (p0.toInt64))), .second, .val (.double y6), .second, .unset, .unset]) X19.here hx (hb hby at_260) rfl rfl ?_
    refine t_aload 264 X19.here hx (hb hby at_262) rfl rfl rfl ?_
    refine st20 _ ?_
    refine t_aload 269 X20.here hx (hb hby at_267) rfl rfl rfl ?_
    refine st23 _ ?_
    refine t_dstore (pc' := 274) (L' := #[vi p0, vi p1, vi p2, vi p3, vi p4, vi p5, vi 2, vr st_SPREAD_EXCLUSIVE, vi 1, vi 0, .val (.double (FP.l2d (p0.toInt64))), .second, .val (.double (FP.l2d (p1.toInt64))), .second, .val (.double (FP.l2d (p2.toInt64))), .second, .val (.double y1), .second, .val (.double y2), .second, vr b2, vi 1, .val (.double (FP.l2d (0 : Int64))), .second, .val (.double (FP.l2d (0 : Int64))), .second, .val (.double y11), .second, .val (.double (FP.l2d (p0.toInt64))), .second, .val (.double y6), .second, .val (.double y12), .second]) X23.here hx (hb hby at_272) rfl rfl ?_
    refine t_iload 276 X23.here hx (hb hby at_274) rfl rfl ?_
    refine t_ifNo 279 X23.here hx (hb hby at_276) (by decide) rfl ?_
    refine t_dload 281 X23.here hx (hb hby at_279) rfl rfl ?_
    refine t_dload 283 X23.here hx (hb hby at_281) rfl rfl ?_
    refine t_dload 285 X23.here hx (hb hby at_283) rfl rfl ?_
    refine t_dadd 286 (r := (FP.dadd (FP.l2d (0 : Int64)) y6)) X23.here hx (hb hby at_285) (own_nnof hy10.symm (Jvm.Free.Fl.Mag64.fin mg_y10 (by decide)).noNaN) rfl rfl ?_
    refine castTop (g' := (mkF m 286 #[vi p0, vi p1, vi p2, vi p3, vi p4, vi p5, vi 2, vr st_SPREAD_EXCLUSIVE, vi 1, vi 0, .val (.double (FP.l2d (p0.toInt64))), .second, .val (.double (FP.l2d (p1.toInt64))), .second, .val (.double (FP.l2d (p2.toInt64))), .second, .val (.double y1), .second, .val (.double y2), .second, vr b2, vi 1, .val (.double (FP.l2d (0 : Int64))), .second, .val (.double (FP.l2d (0 : Int64))), .second, .val (.double y11), .second, .val (.double (FP.l2d (p0.toInt64))), .second, .val (.double y6), .second, .val (.double y12), .second] [(.double y10), (.double y12)])) (congrArg (fun z => mkF m 286 #[vi p0, vi p1, vi p2, vi p3, vi p4, vi p5, vi 2, vr st_SPREAD_EXCLUSIVE, vi 1, vi 0, .val (.double (FP.l2d (p0.toInt64))), .second, .val (.double (FP.l2d (p1.toInt64))), .second, .val (.double (FP.l2d (p2.toInt64))), .second, .val (.double y1), .second, .val (.double y2), .second, vr b2, vi 1, .val (.double (FP.l2d (0 : Int64))), .second, .val (.double (FP.l2d (0 : Int64))), .second, .val (.double y11), .second, .val (.double (FP.l2d (p0.toInt64))), .second, .val (.double y6), .second, .val (.double y12), .second] (Value.double z :: [(.double y12)])) hy10.symm) ?_
    refine t_dcmp 287 (r := 0) X23.here hx (hb hby at_286) (by rw [hy12, hy10]; exact own_cmp0y ((Jvm.Free.Fl.Mag64.fin (Jvm.Free.Fl.l2d_mag _) (by decide)).noNaN) ((Jvm.Free.Fl.Mag64.fin mg_y6 (by decide)).noNaN) (by rw [← hy10]; exact (Jvm.Free.Fl.Mag64.fin mg_y10 (by decide)).noNaN) _) rfl ?_
    refine t_ifNo 290 X23.here hx (hb hby at_287) (by decide) rfl ?_
    refine t_iconst 291 (r := 1) X23.here hx (hb hby at_290) (by decide) rfl ?_
    refine t_goto (pc := 291) 295 X23.here hx (hb hby at_291) (by decide) (by decide) ?_
    refine t_istore (pc' := 297) (L' := #[vi p0, vi p1, vi p2, vi p3, vi p4, vi p5, vi 2, vr st_SPREAD_EXCLUSIVE, vi 1, vi 0, .val (.double (FP.l2d (p0.toInt64))), .second, .val (.double (FP.l2d (p1.toInt64))), .second, .val (.double (FP.l2d (p2.toInt64))), .second, .val (.double y1), .second, .val (.double y2), .second, vr b2, vi 1, .val (.double (FP.l2d (0 : Int64))), .second, .val (.double (FP.l2d (0 : Int64))), .second, .val (.double y11), .second, .val (.double (FP.l2d (p0.toInt64))), .second, .val (.double y6), .second, .val (.double y12), .second]) X23.here hx (hb hby at_295) rfl rfl ?_
    refine t_iload 299 X23.here hx (hb hby at_297) rfl rfl ?_
    refine t_ifNo 302 X23.here hx (hb hby at_299) (by decide) rfl ?_
    refine t_aload 304 X23.here hx (hb hby at_302) rfl rfl rfl ?_
    refine st25 _ ?_
    refine castTop (g' := (mkF m 307 #[vi p0, vi p1, vi p2, vi p3, vi p4, vi p5, vi 2, vr st_SPREAD_EXCLUSIVE, vi 1, vi 0, .val (.double (FP.l2d (p0.toInt64))), .second, .val (.double (FP.l2d (p1.toInt64))), .second, .val (.double (FP.l2d (p2.toInt64))), .second, .val (.double y1), .second, .val (.double y2), .second, vr b2, vi 1, .val (.double (FP.l2d (0 : Int64))), .second, .val (.double (FP.l2d (0 : Int64))), .second, .val (.double y11), .second, .val (.double (FP.l2d (p0.toInt64))), .second, .val (.double y6), .second, .val (.double y12), .second] [(.double y13)])) (congrArg (fun z => mkF m 307 #[vi p0, vi p1, vi p2, vi p3, vi p4, vi p5, vi 2, vr st_SPREAD_EXCLUSIVE, vi 1, vi 0, .val (.double (FP.l2d (p0.toInt64))), .second, .val (.double (FP.l2d (p1.toInt64))), .second, .val (.double (FP.l2d (p2.toInt64))), .second, .val (.double y1), .second, .val (.double y2), .second, vr b2, vi 1, .val (.double (FP.l2d (0 : Int64))), .second, .val (.double (FP.l2d (0 : Int64))), .second, .val (.double y11), .second, .val (.double (FP.l2d (p0.toInt64))), .second, .val (.double y6), .second, .val (.double y12), .second] (Value.double z :: [])) hy13.symm) ?_
    refine t_dload 309 X25.here hx (hb hby at_307) rfl rfl ?_
    refine t_dload 311 X25.here hx (hb hby at_309) rfl rfl ?_
    refine t_dadd 312 (r := (FP.dadd (FP.l2d (p0.toInt64)) y12)) X25.here hx (hb hby at_311) (own_nnof hy13.symm (Jvm.Free.Fl.Mag64.fin mg_y13 (by decide)).noNaN) rfl rfl ?_
    refine castTop (g' := (mkF m 312 #[vi p0, vi p1, vi p2, vi p3, vi p4, vi p5, vi 2, vr st_SPREAD_EXCLUSIVE, vi 1, vi 0, .val (.double (FP.l2d (p0.toInt64))), .second, .val (.double (FP.l2d (p1.toInt64))), .second, .val (.double (FP.l2d (p2.toInt64))), .second, .val (.double y1), .second, .val (.double y2), .second, vr b2, vi 1, .val (.double (FP.l2d (0 : Int64))), .second, .val (.double (FP.l2d (0 : Int64))), .second, .val (.double y11), .second, .val (.double (FP.l2d (p0.toInt64))), .second, .val (.double y6), .second, .val (.double y12), .second] [(.double y13), (.double y13)])) (congrArg (fun z => mkF m 312 #[vi p0, vi p1, vi p2, vi p3, vi p4, vi p5, vi 2, vr st_SPREAD_EXCLUSIVE, vi 1, vi 0, .val (.double (FP.l2d (p0.toInt64))), .second, .val (.double (FP.l2d (p1.toInt64))), .second, .val (.double (FP.l2d (p2.toInt64))), .second, .val (.double y1), .second, .val (.double y2), .second, vr b2, vi 1, .val (.double (FP.l2d (0 : Int64))), .second, .val (.double (FP.l2d (0 : Int64))), .second, .val (.double y11), .second, .val (.double (FP.l2d (p0.toInt64))), .second, .val (.double y6), .second, .val (.double y12), .second] (Value.double z :: [(.double y13)])) hy13.symm) ?_
    refine t_dcmp 313 (r := 0) X25.here hx (hb hby at_312) (dcmpV_self ((Jvm.Free.Fl.Mag64.fin mg_y13 (by decide)).noNaN) _) rfl ?_
    refine t_ifNo 316 X25.here hx (hb hby at_313) (by decide) rfl ?_
    refine t_iconst 317 (r := 1) X25.here hx (hb hby at_316) (by decide) rfl ?_
    refine t_goto (pc := 317) 321 X25.here hx (hb hby at_317) (by decide) (by decide) ?_
    refine t_istore (pc' := 323) (L' := #[vi p0, vi p1, vi p2, vi p3, vi p4, vi p5, vi 2, vr st_SPREAD_EXCLUSIVE, vi 1, vi 0, .val (.double (FP.l2d (p0.toInt64))), .second, .val (.double (FP.l2d (p1.toInt64))), .second, .val (.double (FP.l2d (p2.toInt64))), .second, .val (.double y1), .second, .val (.double y2), .second, vr b2, vi 1, .val (.double (FP.l2d (0 : Int64))), .second, .val (.double (FP.l2d (0 : Int64))), .second, .val (.double y11), .second, .val (.double (FP.l2d (p0.toInt64))), .second, .val (.double y6), .second, .val (.double y12), .second]) X25.here hx (hb hby at_321) rfl rfl ?_
    refine t_iload 325 X25.here hx (hb hby at_323) rfl rfl ?_
    exact retN X25 hx (t := .boolean) hret (by simp) (hb hby at_325) hr
theorem ef_law_2_1 (p0 p1 p2 p3 p4 p5 : Int32) (m : MethodId) : entryFrame m #[(.int p0), (.int p1), (.int p2), (.int p3), (.int p4), (.int p5)] maxLocals = mkF m 0 #[.val (.int p0), .val (.int p1), .val (.int p2), .val (.int p3), .val (.int p4), .val (.int p5), .unset, .unset, .unset, .unset, .unset, .unset, .unset, .unset, .unset, .unset, .unset, .unset, .unset, .unset, .unset, .unset, .unset, .unset, .unset, .unset, .unset, .unset, .unset, .unset, .unset, .unset, .unset, .unset] [] := by first | (simp [entryFrame, mkF, argsToLocals, Value.category, maxLocals]; done) | rfl
set_option maxRecDepth 65536 in
set_option maxHeartbeats 40000000 in
theorem law_2_1 (l : Launch) (Z : State) (a0 : Array Value) (hw : HW Z a0) (ws : List Jvm.Cond) (p0 p1 p2 p3 p4 p5 : Int32) (st_ALL st_FLAT st_SPREAD_EXCLUSIVE : Addr) (h0 : Heap) (n0 : Nat) (Z0 : n0 ≤ h0.size) (hk : ((p5 &&& (2147483647 : Int32)) - ((p5 &&& (2147483647 : Int32)) / (3 : Int32)) * (3 : Int32)) = (2 : Int32)) (hf1 : (((p5.toUInt32 >>> ((4 : Int32) &&& 31).toUInt32).toInt32) &&& (1 : Int32)) = (1 : Int32)) (S_SPREAD_EXCLUSIVE : Sta Z Z.heap "com/example/rivulet/rivulet/instrument/CompoundMethod" "SPREAD_EXCLUSIVE" "Lcom/example/rivulet/rivulet/instrument/CompoundMethod;" (.ref st_SPREAD_EXCLUSIVE)) (O0 : Old Z n0 h0) (S_ALL : Sta Z Z.heap "com/example/rivulet/rivulet/instrument/CompoundMethod" "ALL" "Lcom/example/rivulet/rivulet/instrument/CompoundMethod;" (.ref st_ALL)) (ne_st_ALL_st_SPREAD_EXCLUSIVE : st_ALL ≠ st_SPREAD_EXCLUSIVE) :
    MetFree l x (head1 (Jvm.Cond.code x code maxLocals ret :: ws) room_1) (fun a U => a = #[(.int p0), (.int p1), (.int p2), (.int p3), (.int p4), (.int p5)] ∧ Z.Warmed39 U.vm ∧ U.heap = h0) (fun _ _ _ _ _ => True) (fun _ U o U' => ∃ v L, o = .returned v ∧ Q_law n0 v L ∧ FrameEnd U o U' L 16 128) := by
  refine own_law (y := x) (k := 1) (n := 6) (plainFor_of_name pn_AccrualCompoundPinLaw114) (ef_law_2_1 p0 p1 p2 p3 p4 p5) (by decide) (by decide) ?_
  intro p e s m below meth c s₁ hx hby hml hown hnm hret hZ hh e0 X0
  have N0 := Fr.nil n0
  obtain ⟨T1, X1, e1, st1⟩ := getS2 X0 hx hZ hown (host := "") (Or.inl (w54 hw)) Via.refl e0 (Sta.ext O0.2 S_SPREAD_EXCLUSIVE) (g := (mkF m 32 #[vi p0, vi p1, vi p2, vi p3, vi p4, vi p5, vi 2, .unset, .unset, .unset, .unset, .unset, .unset, .unset, .unset, .unset, .unset, .unset, .unset, .unset, .unset, .unset, .unset, .unset, .unset, .unset, .unset, .unset, .unset, .unset, .unset, .unset, .unset, .unset] [])) rfl (hb hby at_32)
  obtain ⟨y1, hy1⟩ : ∃ z, z = (FP.ddiv (FP.l2d ((p3 &&& (1023 : Int32)).toInt64)) (4643211215818981376 : UInt64)) := ⟨_, rfl⟩
  have mg_y1 := own_mgk (K := 1081) hy1 (Jvm.RoadKit.ddiv_mag (K := 1088) (L := 1031) (Jvm.Free.Fl.l2d_mag _) (by unfold Big64; decide +kernel) (by decide) (by decide)) (by decide)
  obtain ⟨y2, hy2⟩ : ∃ z, z = (FP.ddiv (FP.l2d ((p4 &&& (1023 : Int32)).toInt64)) (4643211215818981376 : UInt64)) := ⟨_, rfl⟩
  have mg_y2 := own_mgk (K := 1081) hy2 (Jvm.RoadKit.ddiv_mag (K := 1088) (L := 1031) (Jvm.Free.Fl.l2d_mag _) (by unfold Big64; decide +kernel) (by decide) (by decide)) (by decide)
  obtain ⟨T2, h2, X2, e2, E2, A2, D2, -, st2⟩ := newO X1 hx hZ hown (w5 hw) (w6 hw) (w7 hw) e1 (g := (mkF m 103 #[vi p0, vi p1, vi p2, vi p3, vi p4, vi p5, vi 2, vr st_SPREAD_EXCLUSIVE, vi 1, vi 1, .val (.double (FP.l2d (p0.toInt64))), .second, .val (.double (FP.l2d (p1.toInt64))), .second, .val (.double (FP.l2d (p2.toInt64))), .second, .val (.double y1), .second, .val (.double y2), .second, .unset, .unset, .unset, .unset, .unset, .unset, .unset, .unset, .unset, .unset, .unset, .unset, .unset, .unset] [])) rfl (hb hby at_103) (by decide) (by decide)
  obtain ⟨b2, g2⟩ : ∃ z, z = h0.size := ⟨_, rfl⟩
  rw [← g2] at A2 D2 st2
  have ge_b2 : h0.size ≤ b2 := Nat.le_of_eq g2.symm
  have K2 := KL.ofE E2
  have F_b2_balance : Fd0 Z h2 b2 (.double (FP.l2d (0 : Int64))) := Fld.zeroD (D2 (Or.inr (w15 hw)) (ty := .double) (by decide))
  have F_b2_rate : Fd1 Z h2 b2 (.double (FP.l2d (0 : Int64))) := Fld.zeroD (D2 (Or.inr (w17 hw)) (ty := .double) (by decide))
  have F_b2_margin : Fd2 Z h2 b2 (.double (FP.l2d (0 : Int64))) := Fld.zeroD (D2 (Or.inr (w19 hw)) (ty := .double) (by decide))
  have F_b2_method : Fd3 Z h2 b2 .null := D2 (Or.inr (w21 hw)) (ty := (.object "com/example/rivulet/rivulet/instrument/CompoundMethod")) (by decide)
  have F_b2_compounded : Fd4 Z h2 b2 (.double (FP.l2d (0 : Int64))) := Fld.zeroD (D2 (Or.inl (w28 hw)) (ty := .double) (by decide))
  have F_b2_pending : Fd5 Z h2 b2 (.double (FP.l2d (0 : Int64))) := Fld.zeroD (D2 (Or.inl (w30 hw)) (ty := .double) (by decide))
  obtain ⟨_, T3, L3, X3, hQ3, st3⟩ := own_init X2 hx hZ rfl hown (w8 hw) (w9 hw) (w7 hw) (w10 hw) (by decide) (r_init l Z a0 hw [] b2 (FP.l2d (p0.toInt64)) (FP.l2d (p1.toInt64)) (FP.l2d (p2.toInt64)) st_SPREAD_EXCLUSIVE (.double (FP.l2d (0 : Int64))) (.double (FP.l2d (0 : Int64))) (.double (FP.l2d (0 : Int64))) .null h2 n0 (Nat.le_trans Z0 K2.1) F_b2_balance A2 (Nat.le_trans Z0 ge_b2) F_b2_rate F_b2_margin F_b2_method) e2 (W := 1) (by decide) (g := (mkF m 115 #[vi p0, vi p1, vi p2, vi p3, vi p4, vi p5, vi 2, vr st_SPREAD_EXCLUSIVE, vi 1, vi 1, .val (.double (FP.l2d (p0.toInt64))), .second, .val (.double (FP.l2d (p1.toInt64))), .second, .val (.double (FP.l2d (p2.toInt64))), .second, .val (.double y1), .second, .val (.double y2), .second, .unset, .unset, .unset, .unset, .unset, .unset, .unset, .unset, .unset, .unset, .unset, .unset, .unset, .unset] [(.ref st_SPREAD_EXCLUSIVE), (.double (FP.l2d (p2.toInt64))), (.double (FP.l2d (p1.toInt64))), (.double (FP.l2d (p0.toInt64))), (.ref b2), (.ref b2)])) rfl hml.symm (argsL := [(.double (FP.l2d (p0.toInt64))), (.double (FP.l2d (p1.toInt64))), (.double (FP.l2d (p2.toInt64))), (.ref st_SPREAD_EXCLUSIVE)]) (rest := [(.ref b2)]) (lenOf pd_2 rfl) rfl rfl (own_wr rfl rfl) (hb hby at_115)
  obtain ⟨rfl, N3q, K3, Q3_0, Q3_1, Q3_2, Q3_3⟩ := hQ3
  have N3 := Fr.app N0 N3q
  have f5 := (kExa K3 A2)
  have f6 := (kFld K3 F_b2_compounded (nwS (Or.inr (sn_17 hw)) (nwS (Or.inr (sn_16 hw)) (nwS (Or.inr (sn_15 hw)) (nwS (Or.inr (sn_14 hw)) nw0)))))
  obtain ⟨y3, hy3⟩ : ∃ z, z = (FP.dsub (FP.l2d (p1.toInt64)) (FP.l2d (p2.toInt64))) := ⟨_, rfl⟩
  have mg_y3 := own_mgk (K := 1090) hy3 (Jvm.Free.Fl.dsub_mag (K := 1088) (Jvm.Free.Fl.Mag64.mono (Jvm.Free.Fl.l2d_mag _) (by decide)) (Jvm.Free.Fl.Mag64.mono (Jvm.Free.Fl.l2d_mag _) (by decide)) (by decide)) (by decide)
  obtain ⟨y4, hy4⟩ : ∃ z, z = (FP.dmul (FP.l2d (p0.toInt64)) y3) := ⟨_, rfl⟩
  have mg_y4 := own_mgk (K := 1156) hy4 (Jvm.Free.Fl.dmul_mag (Jvm.Free.Fl.l2d_mag _) mg_y3 (by decide) (by decide)) (by decide)
  obtain ⟨y5, hy5⟩ : ∃ z, z = (FP.ddiv y4 (4636737291354636288 : UInt64)) := ⟨_, rfl⟩
  have mg_y5 := own_mgk (K := 1151) hy5 (Jvm.RoadKit.ddiv_mag (K := 1156) (L := 1029) mg_y4 (by unfold Big64; decide +kernel) (by decide) (by decide)) (by decide)
  obtain ⟨y6, hy6⟩ : ∃ z, z = (FP.dmul y5 y1) := ⟨_, rfl⟩
  have mg_y6 := own_mgk (K := 1210) hy6 (Jvm.Free.Fl.dmul_mag mg_y5 mg_y1 (by decide) (by decide)) (by decide)
  have f7 := (kOld K3 (kOld K2 O0 na0) (naGM 4 rfl (Nat.le_trans Z0 ge_b2) na0))
  obtain ⟨y7, hy7⟩ : ∃ z, z = (FP.dmul (FP.l2d (p0.toInt64)) (FP.l2d (p2.toInt64))) := ⟨_, rfl⟩
  have mg_y7 := own_mgk (K := 1154) hy7 (Jvm.Free.Fl.dmul_mag (Jvm.Free.Fl.l2d_mag _) (Jvm.Free.Fl.l2d_mag _) (by decide) (by decide)) (by decide)
  obtain ⟨y8, hy8⟩ : ∃ z, z = (FP.ddiv y7 (4636737291354636288 : UInt64)) := ⟨_, rfl⟩
  have mg_y8 := own_mgk (K := 1149) hy8 (Jvm.RoadKit.ddiv_mag (K := 1154) (L := 1029) mg_y7 (by unfold Big64; decide +kernel) (by decide) (by decide)) (by decide)
  obtain ⟨y9, hy9⟩ : ∃ z, z = (FP.dmul y8 y1) := ⟨_, rfl⟩
  have mg_y9 := own_mgk (K := 1208) hy9 (Jvm.Free.Fl.dmul_mag mg_y8 mg_y1 (by decide) (by decide)) (by decide)
  have f8 := (kFld K3 F_b2_pending (nwS (Or.inr (sn_21 hw)) (nwS (Or.inr (sn_20 hw)) (nwS (Or.inr (sn_19 hw)) (nwS (Or.inr (sn_18 hw)) nw0)))))
  obtain ⟨y10, hy10⟩ : ∃ z, z = (FP.dadd (FP.l2d (0 : Int64)) y6) := ⟨_, rfl⟩
  have mg_y10 := own_mgk (K := 1212) hy10 (Jvm.Free.Fl.dadd_mag (K := 1210) (Jvm.Free.Fl.Mag64.mono (Jvm.Free.Fl.l2d_mag _) (by decide)) (Jvm.Free.Fl.Mag64.mono mg_y6 (by decide)) (by decide)) (by decide)
  obtain ⟨y11, hy11⟩ : ∃ z, z = (FP.dadd y6 y9) := ⟨_, rfl⟩
  have mg_y11 := own_mgk (K := 1212) hy11 (Jvm.Free.Fl.dadd_mag (K := 1210) (Jvm.Free.Fl.Mag64.mono mg_y6 (by decide)) (Jvm.Free.Fl.Mag64.mono mg_y9 (by decide)) (by decide)) (by decide)
  have sz_0_2 := (Nat.le_trans K2.1 K3.1)
  obtain ⟨_, T4, L4, X4, hQ4, st4⟩ := own_virtual X3 hx hZ hown (w36 hw) (w37 hw) (nfS hZ (w39 hw)) (w39 hw) (w38 hw) (w7 hw) (w40 hw) (by decide) (r_accrue_SPREAD_EXCLUSIVE l Z a0 hw [] b2 y1 (FP.l2d (p0.toInt64)) (FP.l2d (0 : Int64)) (FP.l2d (p1.toInt64)) (FP.l2d (p2.toInt64)) st_SPREAD_EXCLUSIVE st_ALL (FP.l2d (0 : Int64)) T3.heap n0 (Nat.le_trans Z0 sz_0_2) f5 Q3_0 f6 ((own_nnof (own_l2dz _) (Jvm.Free.Fl.Mag64.fin (Jvm.Free.Fl.l2d_mag _) (by decide)).noNaN)) Q3_1 Q3_2 ((own_nnof hy3.symm (Jvm.Free.Fl.Mag64.fin mg_y3 (by decide)).noNaN)) ((own_nnof (own_cg2 (f := FP.dmul) (own_l2dz _) hy3.symm hy4.symm) (Jvm.Free.Fl.Mag64.fin mg_y4 (by decide)).noNaN)) ((own_nnof (own_cg2 (f := FP.ddiv) (own_cg2 (f := FP.dmul) (own_l2dz _) hy3.symm hy4.symm) rfl hy5.symm) (Jvm.Free.Fl.Mag64.fin mg_y5 (by decide)).noNaN)) ((own_nnof (own_cg2 (f := FP.dmul) (own_cg2 (f := FP.ddiv) (own_cg2 (f := FP.dmul) (own_l2dz _) hy3.symm hy4.symm) rfl hy5.symm) rfl hy6.symm) (Jvm.Free.Fl.Mag64.fin mg_y6 (by decide)).noNaN)) Q3_3 S_ALL f7 ne_st_ALL_st_SPREAD_EXCLUSIVE ((own_nnof hy7.symm (Jvm.Free.Fl.Mag64.fin mg_y7 (by decide)).noNaN)) ((own_nnof (own_cg2 (f := FP.ddiv) hy7.symm rfl hy8.symm) (Jvm.Free.Fl.Mag64.fin mg_y8 (by decide)).noNaN)) ((own_nnof (own_cg2 (f := FP.dmul) (own_cg2 (f := FP.ddiv) hy7.symm rfl hy8.symm) rfl hy9.symm) (Jvm.Free.Fl.Mag64.fin mg_y9 (by decide)).noNaN)) f8 S_SPREAD_EXCLUSIVE ((own_nnof (own_cg2 (f := FP.dadd) rfl (own_cg2 (f := FP.dmul) (own_cg2 (f := FP.ddiv) (own_cg2 (f := FP.dmul) (own_l2dz _) hy3.symm hy4.symm) rfl hy5.symm) rfl hy6.symm) hy10.symm) (Jvm.Free.Fl.Mag64.fin mg_y10 (by decide)).noNaN)) (Nat.le_trans Z0 ge_b2) ((own_nnof (own_cg2 (f := FP.dadd) (own_cg2 (f := FP.dmul) (own_cg2 (f := FP.ddiv) (own_cg2 (f := FP.dmul) (own_l2dz _) hy3.symm hy4.symm) rfl hy5.symm) rfl hy6.symm) (own_cg2 (f := FP.dmul) (own_cg2 (f := FP.ddiv) hy7.symm rfl hy8.symm) rfl hy9.symm) hy11.symm) (Jvm.Free.Fl.Mag64.fin mg_y11 (by decide)).noNaN))) rfl f5 (W := 0) (by decide) (g := (mkF m 135 #[vi p0, vi p1, vi p2, vi p3, vi p4, vi p5, vi 2, vr st_SPREAD_EXCLUSIVE, vi 1, vi 1, .val (.double (FP.l2d (p0.toInt64))), .second, .val (.double (FP.l2d (p1.toInt64))), .second, .val (.double (FP.l2d (p2.toInt64))), .second, .val (.double y1), .second, .val (.double y2), .second, vr b2, vi 1, .val (.double (FP.l2d (0 : Int64))), .second, .unset, .unset, .unset, .unset, .unset, .unset, .unset, .unset, .unset, .unset] [(.double y1), (.ref b2)])) rfl hml.symm (argsL := [(.double y1)]) (rest := []) (lenOf pd_4 rfl) rfl rfl (own_wr rfl rfl) (hb hby at_135)
  obtain ⟨rfl, N4q, K4, Q4_0⟩ := hQ4
  have N4 := Fr.app N3 N4q
  have Q4_0' : Fd5 Z T4.heap b2 (.double y10) := Eq.mp (congrArg (fun z => Fd5 Z T4.heap b2 (Value.double z)) (own_cg2 (f := FP.dadd) rfl (own_cg2 (f := FP.dmul) (own_cg2 (f := FP.ddiv) (own_cg2 (f := FP.dmul) (own_l2dz _) hy3.symm hy4.symm) rfl hy5.symm) rfl hy6.symm) hy10.symm)) Q4_0
  have sz_0_3 := (Nat.le_trans sz_0_2 K4.1)
  obtain ⟨_, T9, L9, X9, hQ9, st9⟩ := own_static X4 hx hZ hown (w55 hw) (w56 hw) (w57 hw) (w58 hw) (by decide) (r_index l Z a0 hw [] (FP.l2d (p0.toInt64)) (FP.l2d (p1.toInt64)) (FP.l2d (p2.toInt64)) y1 T4.heap n0 (Nat.le_trans Z0 sz_0_3) ((own_nnof hy3.symm (Jvm.Free.Fl.Mag64.fin mg_y3 (by decide)).noNaN)) ((own_nnof (own_cg2 (f := FP.dmul) rfl hy3.symm hy4.symm) (Jvm.Free.Fl.Mag64.fin mg_y4 (by decide)).noNaN)) ((own_nnof (own_cg2 (f := FP.ddiv) (own_cg2 (f := FP.dmul) rfl hy3.symm hy4.symm) rfl hy5.symm) (Jvm.Free.Fl.Mag64.fin mg_y5 (by decide)).noNaN)) ((own_nnof (own_cg2 (f := FP.dmul) (own_cg2 (f := FP.ddiv) (own_cg2 (f := FP.dmul) rfl hy3.symm hy4.symm) rfl hy5.symm) rfl hy6.symm) (Jvm.Free.Fl.Mag64.fin mg_y6 (by decide)).noNaN))) rfl (W := 0) (by decide) (g := (mkF m 153 #[vi p0, vi p1, vi p2, vi p3, vi p4, vi p5, vi 2, vr st_SPREAD_EXCLUSIVE, vi 1, vi 1, .val (.double (FP.l2d (p0.toInt64))), .second, .val (.double (FP.l2d (p1.toInt64))), .second, .val (.double (FP.l2d (p2.toInt64))), .second, .val (.double y1), .second, .val (.double y2), .second, vr b2, vi 1, .val (.double (FP.l2d (0 : Int64))), .second, .val (.double y11), .second, .unset, .unset, .unset, .unset, .unset, .unset, .unset, .unset] [(.double y1), (.double (FP.l2d (p2.toInt64))), (.double (FP.l2d (p1.toInt64))), (.double (FP.l2d (p0.toInt64)))])) rfl hml.symm (argsL := [(.double (FP.l2d (p0.toInt64))), (.double (FP.l2d (p1.toInt64))), (.double (FP.l2d (p2.toInt64))), (.double y1)]) (rest := []) (lenOf pd_5 rfl) rfl rfl (own_wr rfl rfl) (hb hby at_153)
  obtain ⟨rfl, N9q, e9⟩ := hQ9
  have N9 := Fr.app N4 N9q
  have f11 := (kFld K4 f6 (nwS (Or.inr (sn_13 hw)) nw0))
  obtain ⟨y12, hy12⟩ : ∃ z, z = (FP.dadd (FP.l2d (0 : Int64)) y10) := ⟨_, rfl⟩
  have mg_y12 := own_mgk (K := 1214) hy12 (Jvm.Free.Fl.dadd_mag (K := 1212) (Jvm.Free.Fl.Mag64.mono (Jvm.Free.Fl.l2d_mag _) (by decide)) (Jvm.Free.Fl.Mag64.mono mg_y10 (by decide)) (by decide)) (by decide)
  have f12 := (kExa K4 f5)
  obtain ⟨_, T10, L10, X10, hQ10, st10⟩ := own_virtual X9 hx hZ hown (w22 hw) (w23 hw) (nfS hZ (w25 hw)) (w25 hw) (w24 hw) (w7 hw) (w26 hw) (by decide) (r_compound l Z a0 hw [] b2 (FP.l2d (0 : Int64)) y10 T4.heap n0 (Nat.le_trans Z0 sz_0_3) f11 Q4_0' ((own_nnof hy12.symm (Jvm.Free.Fl.Mag64.fin mg_y12 (by decide)).noNaN)) f12 (Nat.le_trans Z0 ge_b2)) e9 f12 (W := 0) (by decide) (g := (mkF m 165 #[vi p0, vi p1, vi p2, vi p3, vi p4, vi p5, vi 2, vr st_SPREAD_EXCLUSIVE, vi 1, vi 1, .val (.double (FP.l2d (p0.toInt64))), .second, .val (.double (FP.l2d (p1.toInt64))), .second, .val (.double (FP.l2d (p2.toInt64))), .second, .val (.double y1), .second, .val (.double y2), .second, vr b2, vi 1, .val (.double y6), .second, .val (.double y11), .second, .unset, .unset, .unset, .unset, .unset, .unset, .unset, .unset] [(.ref b2)])) rfl hml.symm (argsL := []) (rest := []) (lenOf pd_3 rfl) rfl rfl (own_wr rfl rfl) (hb hby at_165)
  obtain ⟨rfl, N10q, K10, Q10_0, Q10_1⟩ := hQ10
  have N10 := Fr.app N9 N10q
  have Q10_0' : Fd4 Z T10.heap b2 (.double y12) := Eq.mp (congrArg (fun z => Fd4 Z T10.heap b2 (Value.double z)) hy12.symm) Q10_0
  have sz_0_4 := (Nat.le_trans sz_0_3 K10.1)
  have f14 := (kExa K10 f12)
  obtain ⟨_, T13, L13, X13, hQ13, st13⟩ := own_virtual X10 hx hZ hown (w31 hw) (w32 hw) (nfS hZ (w34 hw)) (w34 hw) (w33 hw) (w7 hw) (w35 hw) (by decide) (r_compounded l Z a0 hw [] b2 y12 T10.heap n0 (Nat.le_trans Z0 sz_0_4) Q10_0') rfl f14 (W := 0) (by decide) (g := (mkF m 170 #[vi p0, vi p1, vi p2, vi p3, vi p4, vi p5, vi 2, vr st_SPREAD_EXCLUSIVE, vi 1, vi 1, .val (.double (FP.l2d (p0.toInt64))), .second, .val (.double (FP.l2d (p1.toInt64))), .second, .val (.double (FP.l2d (p2.toInt64))), .second, .val (.double y1), .second, .val (.double y2), .second, vr b2, vi 1, .val (.double y6), .second, .val (.double y11), .second, .unset, .unset, .unset, .unset, .unset, .unset, .unset, .unset] [(.ref b2)])) rfl hml.symm (argsL := []) (rest := []) (lenOf pd_0 rfl) rfl rfl (own_wr rfl rfl) (hb hby at_170)
  obtain ⟨rfl, N13q, e13⟩ := hQ13
  have N13 := Fr.app N10 N13q
  obtain ⟨_, T15, L15, X15, hQ15, st15⟩ := own_virtual X13 hx hZ hown (w22 hw) (w23 hw) (nfS hZ (w25 hw)) (w25 hw) (w24 hw) (w7 hw) (w26 hw) (by decide) (r_compound l Z a0 hw [] b2 y12 (FP.l2d (0 : Int64)) T10.heap n0 (Nat.le_trans Z0 sz_0_4) Q10_0' Q10_1 ((own_nnof (by rw [hy12]; exact own_zr ((Jvm.Free.Fl.Mag64.fin mg_y10 (by decide)).noNaN)) (Jvm.Free.Fl.Mag64.fin mg_y12 (by decide)).noNaN)) f14 (Nat.le_trans Z0 ge_b2)) e13 f14 (W := 0) (by decide) (g := (mkF m 197 #[vi p0, vi p1, vi p2, vi p3, vi p4, vi p5, vi 2, vr st_SPREAD_EXCLUSIVE, vi 1, vi 1, .val (.double (FP.l2d (p0.toInt64))), .second, .val (.double (FP.l2d (p1.toInt64))), .second, .val (.double (FP.l2d (p2.toInt64))), .second, .val (.double y1), .second, .val (.double y2), .second, vr b2, vi 1, .val (.double y6), .second, .val (.double y12), .second, .unset, .unset, .unset, .unset, .unset, .unset, .unset, .unset] [(.ref b2)])) rfl hml.symm (argsL := []) (rest := []) (lenOf pd_3 rfl) rfl rfl (own_wr rfl rfl) (hb hby at_197)
  obtain ⟨rfl, N15q, K15, Q15_0, Q15_1⟩ := hQ15
  have N15 := Fr.app N13 N15q
  have Q15_0' : Fd4 Z T15.heap b2 (.double y12) := Eq.mp (congrArg (fun z => Fd4 Z T15.heap b2 (Value.double z)) (by rw [hy12]; exact own_zr ((Jvm.Free.Fl.Mag64.fin mg_y10 (by decide)).noNaN))) Q15_0
  have sz_0_5 := (Nat.le_trans sz_0_4 K15.1)
  have f17 := (kExa K15 f14)
  obtain ⟨_, T16, L16, X16, hQ16, st16⟩ := own_virtual X15 hx hZ hown (w31 hw) (w32 hw) (nfS hZ (w34 hw)) (w34 hw) (w33 hw) (w7 hw) (w35 hw) (by decide) (r_compounded l Z a0 hw [] b2 y12 T15.heap n0 (Nat.le_trans Z0 sz_0_5) Q15_0') rfl f17 (W := 0) (by decide) (g := (mkF m 207 #[vi p0, vi p1, vi p2, vi p3, vi p4, vi p5, vi 2, vr st_SPREAD_EXCLUSIVE, vi 1, vi 1, .val (.double (FP.l2d (p0.toInt64))), .second, .val (.double (FP.l2d (p1.toInt64))), .second, .val (.double (FP.l2d (p2.toInt64))), .second, .val (.double y1), .second, .val (.double y2), .second, vr b2, vi 1, .val (.double y6), .second, .val (.double y12), .second, .unset, .unset, .unset, .unset, .unset, .unset, .unset, .unset] [(.ref b2)])) rfl hml.symm (argsL := []) (rest := []) (lenOf pd_0 rfl) rfl rfl (own_wr rfl rfl) (hb hby at_207)
  obtain ⟨rfl, N16q, e16⟩ := hQ16
  have N16 := Fr.app N15 N16q
  have f19 := (kFld K15 (kFld K10 (kFld K4 Q3_0 (nwS (Or.inr (sn_22 hw)) nw0)) (nwS (Or.inr (sn_23 hw)) (nwS (Or.inr (sn_22 hw)) nw0))) (nwS (Or.inr (sn_23 hw)) (nwS (Or.inr (sn_22 hw)) nw0)))
  obtain ⟨y13, hy13⟩ : ∃ z, z = (FP.dadd (FP.l2d (p0.toInt64)) y12) := ⟨_, rfl⟩
  have mg_y13 := own_mgk (K := 1216) hy13 (Jvm.Free.Fl.dadd_mag (K := 1214) (Jvm.Free.Fl.Mag64.mono (Jvm.Free.Fl.l2d_mag _) (by decide)) (Jvm.Free.Fl.Mag64.mono mg_y12 (by decide)) (by decide)) (by decide)
  have f20 := (kFld K15 (kFld K10 (kFld K4 Q3_1 (nwS (Or.inr (sn_24 hw)) nw0)) (nwS (Or.inr (sn_25 hw)) (nwS (Or.inr (sn_24 hw)) nw0))) (nwS (Or.inr (sn_25 hw)) (nwS (Or.inr (sn_24 hw)) nw0)))
  have f21 := (kFld K15 (kFld K10 (kFld K4 Q3_2 (nwS (Or.inr (sn_26 hw)) nw0)) (nwS (Or.inr (sn_27 hw)) (nwS (Or.inr (sn_26 hw)) nw0))) (nwS (Or.inr (sn_27 hw)) (nwS (Or.inr (sn_26 hw)) nw0)))
  obtain ⟨y14, hy14⟩ : ∃ z, z = (FP.dmul y13 y3) := ⟨_, rfl⟩
  have mg_y14 := own_mgk (K := 1284) hy14 (Jvm.Free.Fl.dmul_mag mg_y13 mg_y3 (by decide) (by decide)) (by decide)
  obtain ⟨y15, hy15⟩ : ∃ z, z = (FP.ddiv y14 (4636737291354636288 : UInt64)) := ⟨_, rfl⟩
  have mg_y15 := own_mgk (K := 1279) hy15 (Jvm.RoadKit.ddiv_mag (K := 1284) (L := 1029) mg_y14 (by unfold Big64; decide +kernel) (by decide) (by decide)) (by decide)
  obtain ⟨y16, hy16⟩ : ∃ z, z = (FP.dmul y15 y2) := ⟨_, rfl⟩
  have mg_y16 := own_mgk (K := 1338) hy16 (Jvm.Free.Fl.dmul_mag mg_y15 mg_y2 (by decide) (by decide)) (by decide)
  have f22 := (kFld K15 (kFld K10 (kFld K4 Q3_3 (nwS (Or.inr (sn_28 hw)) nw0)) (nwS (Or.inr (sn_29 hw)) (nwS (Or.inr (sn_28 hw)) nw0))) (nwS (Or.inr (sn_29 hw)) (nwS (Or.inr (sn_28 hw)) nw0)))
  have f23 := (kOld K15 (kOld K10 (kOld K4 f7 (naS (P := fun w => n0 ≤ w.1) (Nat.le_trans Z0 ge_b2) na0)) (naS (P := fun w => n0 ≤ w.1) (Nat.le_trans Z0 ge_b2) (naS (P := fun w => n0 ≤ w.1) (Nat.le_trans Z0 ge_b2) na0))) (naS (P := fun w => n0 ≤ w.1) (Nat.le_trans Z0 ge_b2) (naS (P := fun w => n0 ≤ w.1) (Nat.le_trans Z0 ge_b2) na0)))
  obtain ⟨y17, hy17⟩ : ∃ z, z = (FP.dmul y8 y2) := ⟨_, rfl⟩
  have mg_y17 := own_mgk (K := 1208) hy17 (Jvm.Free.Fl.dmul_mag mg_y8 mg_y2 (by decide) (by decide)) (by decide)
  obtain ⟨y18, hy18⟩ : ∃ z, z = (FP.dadd (FP.l2d (0 : Int64)) y16) := ⟨_, rfl⟩
  have mg_y18 := own_mgk (K := 1340) hy18 (Jvm.Free.Fl.dadd_mag (K := 1338) (Jvm.Free.Fl.Mag64.mono (Jvm.Free.Fl.l2d_mag _) (by decide)) (Jvm.Free.Fl.Mag64.mono mg_y16 (by decide)) (by decide)) (by decide)
  obtain ⟨y19, hy19⟩ : ∃ z, z = (FP.dadd y16 y17) := ⟨_, rfl⟩
  have mg_y19 := own_mgk (K := 1340) hy19 (Jvm.Free.Fl.dadd_mag (K := 1338) (Jvm.Free.Fl.Mag64.mono mg_y16 (by decide)) (Jvm.Free.Fl.Mag64.mono mg_y17 (by decide)) (by decide)) (by decide)
  obtain ⟨_, T18, L18, X18, hQ18, st18⟩ := own_virtual X16 hx hZ hown (w36 hw) (w37 hw) (nfS hZ (w39 hw)) (w39 hw) (w38 hw) (w7 hw) (w40 hw) (by decide) (r_accrue_SPREAD_EXCLUSIVE l Z a0 hw [] b2 y2 (FP.l2d (p0.toInt64)) y12 (FP.l2d (p1.toInt64)) (FP.l2d (p2.toInt64)) st_SPREAD_EXCLUSIVE st_ALL (FP.l2d (0 : Int64)) T15.heap n0 (Nat.le_trans Z0 sz_0_5) f17 f19 Q15_0' ((own_nnof hy13.symm (Jvm.Free.Fl.Mag64.fin mg_y13 (by decide)).noNaN)) f20 f21 ((own_nnof hy3.symm (Jvm.Free.Fl.Mag64.fin mg_y3 (by decide)).noNaN)) ((own_nnof (own_cg2 (f := FP.dmul) hy13.symm hy3.symm hy14.symm) (Jvm.Free.Fl.Mag64.fin mg_y14 (by decide)).noNaN)) ((own_nnof (own_cg2 (f := FP.ddiv) (own_cg2 (f := FP.dmul) hy13.symm hy3.symm hy14.symm) rfl hy15.symm) (Jvm.Free.Fl.Mag64.fin mg_y15 (by decide)).noNaN)) ((own_nnof (own_cg2 (f := FP.dmul) (own_cg2 (f := FP.ddiv) (own_cg2 (f := FP.dmul) hy13.symm hy3.symm hy14.symm) rfl hy15.symm) rfl hy16.symm) (Jvm.Free.Fl.Mag64.fin mg_y16 (by decide)).noNaN)) f22 S_ALL f23 ne_st_ALL_st_SPREAD_EXCLUSIVE ((own_nnof hy7.symm (Jvm.Free.Fl.Mag64.fin mg_y7 (by decide)).noNaN)) ((own_nnof (own_cg2 (f := FP.ddiv) hy7.symm rfl hy8.symm) (Jvm.Free.Fl.Mag64.fin mg_y8 (by decide)).noNaN)) ((own_nnof (own_cg2 (f := FP.dmul) (own_cg2 (f := FP.ddiv) hy7.symm rfl hy8.symm) rfl hy17.symm) (Jvm.Free.Fl.Mag64.fin mg_y17 (by decide)).noNaN)) Q15_1 S_SPREAD_EXCLUSIVE ((own_nnof (own_cg2 (f := FP.dadd) rfl (own_cg2 (f := FP.dmul) (own_cg2 (f := FP.ddiv) (own_cg2 (f := FP.dmul) hy13.symm hy3.symm hy14.symm) rfl hy15.symm) rfl hy16.symm) hy18.symm) (Jvm.Free.Fl.Mag64.fin mg_y18 (by decide)).noNaN)) (Nat.le_trans Z0 ge_b2) ((own_nnof (own_cg2 (f := FP.dadd) (own_cg2 (f := FP.dmul) (own_cg2 (f := FP.ddiv) (own_cg2 (f := FP.dmul) hy13.symm hy3.symm hy14.symm) rfl hy15.symm) rfl hy16.symm) (own_cg2 (f := FP.dmul) (own_cg2 (f := FP.ddiv) hy7.symm rfl hy8.symm) rfl hy17.symm) hy19.symm) (Jvm.Free.Fl.Mag64.fin mg_y19 (by decide)).noNaN))) e16 f17 (W := 0) (by decide) (g := (mkF m 227 #[vi p0, vi p1, vi p2, vi p3, vi p4, vi p5, vi 2, vr st_SPREAD_EXCLUSIVE, vi 1, vi 1, .val (.double (FP.l2d (p0.toInt64))), .second, .val (.double (FP.l2d (p1.toInt64))), .second, .val (.double (FP.l2d (p2.toInt64))), .second, .val (.double y1), .second, .val (.double y2), .second, vr b2, vi 1, .val (.double y6), .second, .val (.double y12), .second, .unset, .unset, .unset, .unset, .unset, .unset, .unset, .unset] [(.double y2), (.ref b2)])) rfl hml.symm (argsL := [(.double y2)]) (rest := []) (lenOf pd_4 rfl) rfl rfl (own_wr rfl rfl) (hb hby at_227)
  obtain ⟨rfl, N18q, K18, Q18_0⟩ := hQ18
  have N18 := Fr.app N16 N18q
  have Q18_0' : Fd5 Z T18.heap b2 (.double y18) := Eq.mp (congrArg (fun z => Fd5 Z T18.heap b2 (Value.double z)) (own_cg2 (f := FP.dadd) rfl (own_cg2 (f := FP.dmul) (own_cg2 (f := FP.ddiv) (own_cg2 (f := FP.dmul) hy13.symm hy3.symm hy14.symm) rfl hy15.symm) rfl hy16.symm) hy18.symm)) Q18_0
  have sz_0_6 := (Nat.le_trans sz_0_5 K18.1)
  obtain ⟨_, T24, L24, X24, hQ24, st24⟩ := own_static X18 hx hZ hown (w55 hw) (w56 hw) (w57 hw) (w58 hw) (by decide) (r_index l Z a0 hw [] y13 (FP.l2d (p1.toInt64)) (FP.l2d (p2.toInt64)) y2 T18.heap n0 (Nat.le_trans Z0 sz_0_6) ((own_nnof hy3.symm (Jvm.Free.Fl.Mag64.fin mg_y3 (by decide)).noNaN)) ((own_nnof (own_cg2 (f := FP.dmul) rfl hy3.symm hy14.symm) (Jvm.Free.Fl.Mag64.fin mg_y14 (by decide)).noNaN)) ((own_nnof (own_cg2 (f := FP.ddiv) (own_cg2 (f := FP.dmul) rfl hy3.symm hy14.symm) rfl hy15.symm) (Jvm.Free.Fl.Mag64.fin mg_y15 (by decide)).noNaN)) ((own_nnof (own_cg2 (f := FP.dmul) (own_cg2 (f := FP.ddiv) (own_cg2 (f := FP.dmul) rfl hy3.symm hy14.symm) rfl hy15.symm) rfl hy16.symm) (Jvm.Free.Fl.Mag64.fin mg_y16 (by decide)).noNaN))) rfl (W := 0) (by decide) (g := (mkF m 252 #[vi p0, vi p1, vi p2, vi p3, vi p4, vi p5, vi 2, vr st_SPREAD_EXCLUSIVE, vi 1, vi 1, .val (.double (FP.l2d (p0.toInt64))), .second, .val (.double (FP.l2d (p1.toInt64))), .second, .val (.double (FP.l2d (p2.toInt64))), .second, .val (.double y1), .second, .val (.double y2), .second, vr b2, vi 1, .val (.double y6), .second, .val (.double y12), .second, .val (.double y19), .second, .val (.double y13), .second, .unset, .unset, .unset, .unset] [(.double y2), (.double (FP.l2d (p2.toInt64))), (.double (FP.l2d (p1.toInt64))), (.double y13)])) rfl hml.symm (argsL := [(.double y13), (.double (FP.l2d (p1.toInt64))), (.double (FP.l2d (p2.toInt64))), (.double y2)]) (rest := []) (lenOf pd_5 rfl) rfl rfl (own_wr rfl rfl) (hb hby at_252)
  obtain ⟨rfl, N24q, e24⟩ := hQ24
  have N24 := Fr.app N18 N24q
  have f26 := (kFld K18 Q15_0' (nwS (Or.inr (sn_13 hw)) nw0))
  obtain ⟨y20, hy20⟩ : ∃ z, z = (FP.dadd y12 y18) := ⟨_, rfl⟩
  have mg_y20 := own_mgk (K := 1342) hy20 (Jvm.Free.Fl.dadd_mag (K := 1340) (Jvm.Free.Fl.Mag64.mono mg_y12 (by decide)) (Jvm.Free.Fl.Mag64.mono mg_y18 (by decide)) (by decide)) (by decide)
  have f27 := (kExa K18 f17)
  obtain ⟨_, T25, L25, X25, hQ25, st25⟩ := own_virtual X24 hx hZ hown (w22 hw) (w23 hw) (nfS hZ (w25 hw)) (w25 hw) (w24 hw) (w7 hw) (w26 hw) (by decide) (r_compound l Z a0 hw [] b2 y12 y18 T18.heap n0 (Nat.le_trans Z0 sz_0_6) f26 Q18_0' ((own_nnof hy20.symm (Jvm.Free.Fl.Mag64.fin mg_y20 (by decide)).noNaN)) f27 (Nat.le_trans Z0 ge_b2)) e24 f27 (W := 0) (by decide) (g := (mkF m 264 #[vi p0, vi p1, vi p2, vi p3, vi p4, vi p5, vi 2, vr st_SPREAD_EXCLUSIVE, vi 1, vi 1, .val (.double (FP.l2d (p0.toInt64))), .second, .val (.double (FP.l2d (p1.toInt64))), .second, .val (.double (FP.l2d (p2.toInt64))), .second, .val (.double y1), .second, .val (.double y2), .second, vr b2, vi 1, .val (.double y6), .second, .val (.double y12), .second, .val (.double y19), .second, .val (.double y13), .second, .val (.double y16), .second, .unset, .unset] [(.ref b2)])) rfl hml.symm (argsL := []) (rest := []) (lenOf pd_3 rfl) rfl rfl (own_wr rfl rfl) (hb hby at_264)
  obtain ⟨rfl, N25q, K25, Q25_0, Q25_1⟩ := hQ25
  have N25 := Fr.app N24 N25q
  have Q25_0' : Fd4 Z T25.heap b2 (.double y20) := Eq.mp (congrArg (fun z => Fd4 Z T25.heap b2 (Value.double z)) hy20.symm) Q25_0
  have sz_0_7 := (Nat.le_trans sz_0_6 K25.1)
  have f29 := (kExa K25 f27)
  obtain ⟨_, T28, L28, X28, hQ28, st28⟩ := own_virtual X25 hx hZ hown (w31 hw) (w32 hw) (nfS hZ (w34 hw)) (w34 hw) (w33 hw) (w7 hw) (w35 hw) (by decide) (r_compounded l Z a0 hw [] b2 y20 T25.heap n0 (Nat.le_trans Z0 sz_0_7) Q25_0') rfl f29 (W := 0) (by decide) (g := (mkF m 269 #[vi p0, vi p1, vi p2, vi p3, vi p4, vi p5, vi 2, vr st_SPREAD_EXCLUSIVE, vi 1, vi 1, .val (.double (FP.l2d (p0.toInt64))), .second, .val (.double (FP.l2d (p1.toInt64))), .second, .val (.double (FP.l2d (p2.toInt64))), .second, .val (.double y1), .second, .val (.double y2), .second, vr b2, vi 1, .val (.double y6), .second, .val (.double y12), .second, .val (.double y19), .second, .val (.double y13), .second, .val (.double y16), .second, .unset, .unset] [(.ref b2)])) rfl hml.symm (argsL := []) (rest := []) (lenOf pd_0 rfl) rfl rfl (own_wr rfl rfl) (hb hby at_269)
  obtain ⟨rfl, N28q, e28⟩ := hQ28
  have N28 := Fr.app N25 N28q
  obtain ⟨y21, hy21⟩ : ∃ z, z = (FP.dadd y12 y16) := ⟨_, rfl⟩
  have mg_y21 := own_mgk (K := 1340) hy21 (Jvm.Free.Fl.dadd_mag (K := 1338) (Jvm.Free.Fl.Mag64.mono mg_y12 (by decide)) (Jvm.Free.Fl.Mag64.mono mg_y16 (by decide)) (by decide)) (by decide)
  have f31 := (kFld K25 (kFld K18 f19 (nwS (Or.inr (sn_22 hw)) nw0)) (nwS (Or.inr (sn_23 hw)) (nwS (Or.inr (sn_22 hw)) nw0)))
  obtain ⟨y22, hy22⟩ : ∃ z, z = (FP.dadd (FP.l2d (p0.toInt64)) y20) := ⟨_, rfl⟩
  have mg_y22 := own_mgk (K := 1344) hy22 (Jvm.Free.Fl.dadd_mag (K := 1342) (Jvm.Free.Fl.Mag64.mono (Jvm.Free.Fl.l2d_mag _) (by decide)) (Jvm.Free.Fl.Mag64.mono mg_y20 (by decide)) (by decide)) (by decide)
  obtain ⟨_, T30, L30, X30, hQ30, st30⟩ := own_virtual X28 hx hZ hown (w53 hw) (w42 hw) (nfS hZ (w44 hw)) (w44 hw) (w43 hw) (w7 hw) (w45 hw) (by decide) (r_base l Z a0 hw [] b2 (FP.l2d (p0.toInt64)) y20 T25.heap n0 (Nat.le_trans Z0 sz_0_7) f31 Q25_0' ((own_nnof hy22.symm (Jvm.Free.Fl.Mag64.fin mg_y22 (by decide)).noNaN))) e28 f29 (W := 0) (by decide) (g := (mkF m 304 #[vi p0, vi p1, vi p2, vi p3, vi p4, vi p5, vi 2, vr st_SPREAD_EXCLUSIVE, vi 1, vi 1, .val (.double (FP.l2d (p0.toInt64))), .second, .val (.double (FP.l2d (p1.toInt64))), .second, .val (.double (FP.l2d (p2.toInt64))), .second, .val (.double y1), .second, .val (.double y2), .second, vr b2, vi 1, .val (.double y6), .second, .val (.double y12), .second, .val (.double y19), .second, .val (.double y13), .second, .val (.double y16), .second, .val (.double y20), .second] [(.ref b2)])) rfl hml.symm (argsL := []) (rest := []) (lenOf pd_0 rfl) rfl rfl (own_wr rfl rfl) (hb hby at_304)
  obtain ⟨rfl, N30q, e30⟩ := hQ30
  have N30 := Fr.app N28 N30q
  refine ⟨T30, _, some (.int 1), X30, (fun h => by cases h <;> rfl), ?_, fun fs hr => ?_⟩
  · show Q_law n0 _ _
    exact ⟨rfl, N30⟩
  · refine t_iload 2 X0.here hx (hb hby at_0) rfl rfl ?_
    refine X0.ldcInt hx hown (mvT hZ (w0 hw)) (g := (mkF m 2 #[vi p0, vi p1, vi p2, vi p3, vi p4, vi p5, .unset, .unset, .unset, .unset, .unset, .unset, .unset, .unset, .unset, .unset, .unset, .unset, .unset, .unset, .unset, .unset, .unset, .unset, .unset, .unset, .unset, .unset, .unset, .unset, .unset, .unset, .unset, .unset] [(.int p5)])) rfl (hb hby at_2) _ ?_
    refine t_iand 5 X0.here hx (hb hby at_4) rfl rfl ?_
    refine t_iconst 6 (r := 3) X0.here hx (hb hby at_5) (by decide) rfl ?_
    refine t_irem 7 (r := 2) X0.here hx (hb hby at_6) (by decide) hk rfl ?_
    refine t_istore (pc' := 9) (L' := #[vi p0, vi p1, vi p2, vi p3, vi p4, vi p5, vi 2, .unset, .unset, .unset, .unset, .unset, .unset, .unset, .unset, .unset, .unset, .unset, .unset, .unset, .unset, .unset, .unset, .unset, .unset, .unset, .unset, .unset, .unset, .unset, .unset, .unset, .unset, .unset]) X0.here hx (hb hby at_7) rfl rfl ?_
    refine t_iload 11 X0.here hx (hb hby at_9) rfl rfl ?_
    refine t_ifYes (pc := 11) 20 X0.here hx (hb hby at_11) (by decide) (by decide) (by decide) ?_
    refine t_iload 22 X0.here hx (hb hby at_20) rfl rfl ?_
    refine t_iconst 23 (r := 1) X0.here hx (hb hby at_22) (by decide) rfl ?_
    refine t_icmpYes (pc := 23) 32 X0.here hx (hb hby at_23) (by decide) (by decide) (by decide) ?_
    refine st1 _ ?_
    refine t_astore (pc' := 37) (L' := #[vi p0, vi p1, vi p2, vi p3, vi p4, vi p5, vi 2, vr st_SPREAD_EXCLUSIVE, .unset, .unset, .unset, .unset, .unset, .unset, .unset, .unset, .unset, .unset, .unset, .unset, .unset, .unset, .unset, .unset, .unset, .unset, .unset, .unset, .unset, .unset, .unset, .unset, .unset, .unset]) X1.here hx (hb hby at_35) rfl rfl rfl ?_
    refine t_iload 39 X1.here hx (hb hby at_37) rfl rfl ?_
    refine t_iconst 40 (r := 2) X1.here hx (hb hby at_39) (by decide) rfl ?_
    refine t_icmpNo 43 X1.here hx (hb hby at_40) (by decide) rfl ?_
    refine t_iconst 44 (r := 1) X1.here hx (hb hby at_43) (by decide) rfl ?_
    refine t_goto (pc := 44) 48 X1.here hx (hb hby at_44) (by decide) (by decide) ?_
    refine t_istore (pc' := 50) (L' := #[vi p0, vi p1, vi p2, vi p3, vi p4, vi p5, vi 2, vr st_SPREAD_EXCLUSIVE, vi 1, .unset, .unset, .unset, .unset, .unset, .unset, .unset, .unset, .unset, .unset, .unset, .unset, .unset, .unset, .unset, .unset, .unset, .unset, .unset, .unset, .unset, .unset, .unset, .unset, .unset]) X1.here hx (hb hby at_48) rfl rfl ?_
    refine t_iload 52 X1.here hx (hb hby at_50) rfl rfl ?_
    refine t_iconst 53 (r := 4) X1.here hx (hb hby at_52) (by decide) rfl ?_
    refine t_iushr 54 X1.here hx (hb hby at_53) rfl rfl ?_
    refine t_iconst 55 (r := 1) X1.here hx (hb hby at_54) (by decide) rfl ?_
    refine t_iand 56 (r := 1) X1.here hx (hb hby at_55) hf1 rfl ?_
    refine t_ifNo 59 X1.here hx (hb hby at_56) (by decide) rfl ?_
    refine t_iconst 60 (r := 1) X1.here hx (hb hby at_59) (by decide) rfl ?_
    refine t_goto (pc := 60) 64 X1.here hx (hb hby at_60) (by decide) (by decide) ?_
    refine t_istore (pc' := 66) (L' := #[vi p0, vi p1, vi p2, vi p3, vi p4, vi p5, vi 2, vr st_SPREAD_EXCLUSIVE, vi 1, vi 1, .unset, .unset, .unset, .unset, .unset, .unset, .unset, .unset, .unset, .unset, .unset, .unset, .unset, .unset, .unset, .unset, .unset, .unset, .unset, .unset, .unset, .unset, .unset, .unset]) X1.here hx (hb hby at_64) rfl rfl ?_
    refine t_iloadN 67 X1.here hx (hb hby at_66) rfl rfl ?_
    refine t_i2d 68 (r := (FP.l2d (p0.toInt64))) X1.here hx (hb hby at_67) (i2d_w _) rfl ?_
    refine t_dstore (pc' := 70) (L' := #[vi p0, vi p1, vi p2, vi p3, vi p4, vi p5, vi 2, vr st_SPREAD_EXCLUSIVE, vi 1, vi 1, .val (.double (FP.l2d (p0.toInt64))), .second, .unset, .unset, .unset, .unset, .unset, .unset, .unset, .unset, .unset, .unset, .unset, .unset, .unset, .unset, .unset, .unset, .unset, .unset, .unset, .unset, .unset, .unset]) X1.here hx (hb hby at_68) rfl rfl ?_
    refine t_iloadN 71 X1.here hx (hb hby at_70) rfl rfl ?_
    refine t_i2d 72 (r := (FP.l2d (p1.toInt64))) X1.here hx (hb hby at_71) (i2d_w _) rfl ?_
    refine t_dstore (pc' := 74) (L' := #[vi p0, vi p1, vi p2, vi p3, vi p4, vi p5, vi 2, vr st_SPREAD_EXCLUSIVE, vi 1, vi 1, .val (.double (FP.l2d (p0.toInt64))), .second, .val (.double (FP.l2d (p1.toInt64))), .second, .unset, .unset, .unset, .unset, .unset, .unset, .unset, .unset, .unset, .unset, .unset, .unset, .unset, .unset, .unset, .unset, .unset, .unset, .unset, .unset]) X1.here hx (hb hby at_72) rfl rfl ?_
    refine t_iloadN 75 X1.here hx (hb hby at_74) rfl rfl ?_
    refine t_i2d 76 (r := (FP.l2d (p2.toInt64))) X1.here hx (hb hby at_75) (i2d_w _) rfl ?_
    refine t_dstore (pc' := 78) (L' := #[vi p0, vi p1, vi p2, vi p3, vi p4, vi p5, vi 2, vr st_SPREAD_EXCLUSIVE, vi 1, vi 1, .val (.double (FP.l2d (p0.toInt64))), .second, .val (.double (FP.l2d (p1.toInt64))), .second, .val (.double (FP.l2d (p2.toInt64))), .second, .unset, .unset, .unset, .unset, .unset, .unset, .unset, .unset, .unset, .unset, .unset, .unset, .unset, .unset, .unset, .unset, .unset, .unset]) X1.here hx (hb hby at_76) rfl rfl ?_
    refine t_iloadN 79 X1.here hx (hb hby at_78) rfl rfl ?_
    refine t_sipush 82 (r := 1023) X1.here hx (hb hby at_79) (by decide) rfl ?_
    refine t_iand 83 X1.here hx (hb hby at_82) rfl rfl ?_
    refine t_i2d 84 (r := (FP.l2d ((p3 &&& (1023 : Int32)).toInt64))) X1.here hx (hb hby at_83) (i2d_w _) rfl ?_
    refine X1.ldc2DoubleC hx hown (mvT hZ (w4 hw)) (g := (mkF m 84 #[vi p0, vi p1, vi p2, vi p3, vi p4, vi p5, vi 2, vr st_SPREAD_EXCLUSIVE, vi 1, vi 1, .val (.double (FP.l2d (p0.toInt64))), .second, .val (.double (FP.l2d (p1.toInt64))), .second, .val (.double (FP.l2d (p2.toInt64))), .second, .unset, .unset, .unset, .unset, .unset, .unset, .unset, .unset, .unset, .unset, .unset, .unset, .unset, .unset, .unset, .unset, .unset, .unset] [(.double (FP.l2d ((p3 &&& (1023 : Int32)).toInt64)))])) rfl (hb hby at_84) _ ?_
    refine t_ddiv 88 (r := (FP.ddiv (FP.l2d ((p3 &&& (1023 : Int32)).toInt64)) (4643211215818981376 : UInt64))) X1.here hx (hb hby at_87) (own_nnof hy1.symm (Jvm.Free.Fl.Mag64.fin mg_y1 (by decide)).noNaN) rfl rfl ?_
    refine castTop (g' := (mkF m 88 #[vi p0, vi p1, vi p2, vi p3, vi p4, vi p5, vi 2, vr st_SPREAD_EXCLUSIVE, vi 1, vi 1, .val (.double (FP.l2d (p0.toInt64))), .second, .val (.double (FP.l2d (p1.toInt64))), .second, .val (.double (FP.l2d (p2.toInt64))), .second, .unset, .unset, .unset, .unset, .unset, .unset, .unset, .unset, .unset, .unset, .unset, .unset, .unset, .unset, .unset, .unset, .unset, .unset] [(.double y1)])) (congrArg (fun z => mkF m 88 #[vi p0, vi p1, vi p2, vi p3, vi p4, vi p5, vi 2, vr st_SPREAD_EXCLUSIVE, vi 1, vi 1, .val (.double (FP.l2d (p0.toInt64))), .second, .val (.double (FP.l2d (p1.toInt64))), .second, .val (.double (FP.l2d (p2.toInt64))), .second, .unset, .unset, .unset, .unset, .unset, .unset, .unset, .unset, .unset, .unset, .unset, .unset, .unset, .unset, .unset, .unset, .unset, .unset] (Value.double z :: [])) hy1.symm) ?_
    refine t_dstore (pc' := 90) (L' := #[vi p0, vi p1, vi p2, vi p3, vi p4, vi p5, vi 2, vr st_SPREAD_EXCLUSIVE, vi 1, vi 1, .val (.double (FP.l2d (p0.toInt64))), .second, .val (.double (FP.l2d (p1.toInt64))), .second, .val (.double (FP.l2d (p2.toInt64))), .second, .val (.double y1), .second, .unset, .unset, .unset, .unset, .unset, .unset, .unset, .unset, .unset, .unset, .unset, .unset, .unset, .unset, .unset, .unset]) X1.here hx (hb hby at_88) rfl rfl ?_
    refine t_iload 92 X1.here hx (hb hby at_90) rfl rfl ?_
    refine t_sipush 95 (r := 1023) X1.here hx (hb hby at_92) (by decide) rfl ?_
    refine t_iand 96 X1.here hx (hb hby at_95) rfl rfl ?_
    refine t_i2d 97 (r := (FP.l2d ((p4 &&& (1023 : Int32)).toInt64))) X1.here hx (hb hby at_96) (i2d_w _) rfl ?_
    refine X1.ldc2DoubleC hx hown (mvT hZ (w4 hw)) (g := (mkF m 97 #[vi p0, vi p1, vi p2, vi p3, vi p4, vi p5, vi 2, vr st_SPREAD_EXCLUSIVE, vi 1, vi 1, .val (.double (FP.l2d (p0.toInt64))), .second, .val (.double (FP.l2d (p1.toInt64))), .second, .val (.double (FP.l2d (p2.toInt64))), .second, .val (.double y1), .second, .unset, .unset, .unset, .unset, .unset, .unset, .unset, .unset, .unset, .unset, .unset, .unset, .unset, .unset, .unset, .unset] [(.double (FP.l2d ((p4 &&& (1023 : Int32)).toInt64)))])) rfl (hb hby at_97) _ ?_
    refine t_ddiv 101 (r := (FP.ddiv (FP.l2d ((p4 &&& (1023 : Int32)).toInt64)) (4643211215818981376 : UInt64))) X1.here hx (hb hby at_100) (own_nnof hy2.symm (Jvm.Free.Fl.Mag64.fin mg_y2 (by decide)).noNaN) rfl rfl ?_
    refine castTop (g' := (mkF m 101 #[vi p0, vi p1, vi p2, vi p3, vi p4, vi p5, vi 2, vr st_SPREAD_EXCLUSIVE, vi 1, vi 1, .val (.double (FP.l2d (p0.toInt64))), .second, .val (.double (FP.l2d (p1.toInt64))), .second, .val (.double (FP.l2d (p2.toInt64))), .second, .val (.double y1), .second, .unset, .unset, .unset, .unset, .unset, .unset, .unset, .unset, .unset, .unset, .unset, .unset, .unset, .unset, .unset, .unset] [(.double y2)])) (congrArg (fun z => mkF m 101 #[vi p0, vi p1, vi p2, vi p3, vi p4, vi p5, vi 2, vr st_SPREAD_EXCLUSIVE, vi 1, vi 1, .val (.double (FP.l2d (p0.toInt64))), .second, .val (.double (FP.l2d (p1.toInt64))), .second, .val (.double (FP.l2d (p2.toInt64))), .second, .val (.double y1), .second, .unset, .unset, .unset, .unset, .unset, .unset, .unset, .unset, .unset, .unset, .unset, .unset, .unset, .unset, .unset, .unset] (Value.double z :: [])) hy2.symm) ?_
    refine t_dstore (pc' := 103) (L' := #[vi p0, vi p1, vi p2, vi p3, vi p4, vi p5, vi 2, vr st_SPREAD_EXCLUSIVE, vi 1, vi 1, .val (.double (FP.l2d (p0.toInt64))), .second, .val (.double (FP.l2d (p1.toInt64))), .second, .val (.double (FP.l2d (p2.toInt64))), .second, .val (.double y1), .second, .val (.double y2), .second, .unset, .unset, .unset, .unset, .unset, .unset, .unset, .unset, .unset, .unset, .unset, .unset, .unset, .unset]) X1.here hx (hb hby at_101) rfl rfl ?_
    refine st2 _ ?_
    refine t_dup 107 X2.here hx (hb hby at_106) rfl rfl ?_
    refine t_dload 109 X2.here hx (hb hby at_107) rfl rfl ?_
    refine t_dload 111 X2.here hx (hb hby at_109) rfl rfl ?_
    refine t_dload 113 X2.here hx (hb hby at_111) rfl rfl ?_
    refine t_aload 115 X2.here hx (hb hby at_113) rfl rfl rfl ?_
    refine st3 _ ?_
    refine t_astore (pc' := 120) (L' := #[vi p0, vi p1, vi p2, vi p3, vi p4, vi p5, vi 2, vr st_SPREAD_EXCLUSIVE, vi 1, vi 1, .val (.double (FP.l2d (p0.toInt64))), .second, .val (.double (FP.l2d (p1.toInt64))), .second, .val (.double (FP.l2d (p2.toInt64))), .second, .val (.double y1), .second, .val (.double y2), .second, vr b2, .unset, .unset, .unset, .unset, .unset, .unset, .unset, .unset, .unset, .unset, .unset, .unset, .unset]) X3.here hx (hb hby at_118) rfl rfl rfl ?_
    refine t_iconst 121 (r := 1) X3.here hx (hb hby at_120) (by decide) rfl ?_
    refine t_istore (pc' := 123) (L' := #[vi p0, vi p1, vi p2, vi p3, vi p4, vi p5, vi 2, vr st_SPREAD_EXCLUSIVE, vi 1, vi 1, .val (.double (FP.l2d (p0.toInt64))), .second, .val (.double (FP.l2d (p1.toInt64))), .second, .val (.double (FP.l2d (p2.toInt64))), .second, .val (.double y1), .second, .val (.double y2), .second, vr b2, vi 1, .unset, .unset, .unset, .unset, .unset, .unset, .unset, .unset, .unset, .unset, .unset, .unset]) X3.here hx (hb hby at_121) rfl rfl ?_
    refine t_dconst0 124 (r := (FP.l2d (0 : Int64))) X3.here hx (hb hby at_123) own_dconst0 rfl ?_
    refine t_dstore (pc' := 126) (L' := #[vi p0, vi p1, vi p2, vi p3, vi p4, vi p5, vi 2, vr st_SPREAD_EXCLUSIVE, vi 1, vi 1, .val (.double (FP.l2d (p0.toInt64))), .second, .val (.double (FP.l2d (p1.toInt64))), .second, .val (.double (FP.l2d (p2.toInt64))), .second, .val (.double y1), .second, .val (.double y2), .second, vr b2, vi 1, .val (.double (FP.l2d (0 : Int64))), .second, .unset, .unset, .unset, .unset, .unset, .unset, .unset, .unset, .unset, .unset]) X3.here hx (hb hby at_124) rfl rfl ?_
    refine t_iload 128 X3.here hx (hb hby at_126) rfl rfl ?_
    refine t_ifNo 131 X3.here hx (hb hby at_128) (by decide) rfl ?_
    refine t_aload 133 X3.here hx (hb hby at_131) rfl rfl rfl ?_
    refine t_dload 135 X3.here hx (hb hby at_133) rfl rfl ?_
    refine st4 _ ?_
    refine castTop (g' := (mkF m 138 #[vi p0, vi p1, vi p2, vi p3, vi p4, vi p5, vi 2, vr st_SPREAD_EXCLUSIVE, vi 1, vi 1, .val (.double (FP.l2d (p0.toInt64))), .second, .val (.double (FP.l2d (p1.toInt64))), .second, .val (.double (FP.l2d (p2.toInt64))), .second, .val (.double y1), .second, .val (.double y2), .second, vr b2, vi 1, .val (.double (FP.l2d (0 : Int64))), .second, .unset, .unset, .unset, .unset, .unset, .unset, .unset, .unset, .unset, .unset] [(.double y11)])) (congrArg (fun z => mkF m 138 #[vi p0, vi p1, vi p2, vi p3, vi p4, vi p5, vi 2, vr st_SPREAD_EXCLUSIVE, vi 1, vi 1, .val (.double (FP.l2d (p0.toInt64))), .second, .val (.double (FP.l2d (p1.toInt64))), .second, .val (.double (FP.l2d (p2.toInt64))), .second, .val (.double y1), .second, .val (.double y2), .second, vr b2, vi 1, .val (.double (FP.l2d (0 : Int64))), .second, .unset, .unset, .unset, .unset, .unset, .unset, .unset, .unset, .unset, .unset] (Value.double z :: [])) (own_cg2 (f := FP.dadd) (own_cg2 (f := FP.dmul) (own_cg2 (f := FP.ddiv) (own_cg2 (f := FP.dmul) (own_l2dz _) hy3.symm hy4.symm) rfl hy5.symm) rfl hy6.symm) (own_cg2 (f := FP.dmul) (own_cg2 (f := FP.ddiv) hy7.symm rfl hy8.symm) rfl hy9.symm) hy11.symm)) ?_
    refine t_dstore (pc' := 140) (L' := #[vi p0, vi p1, vi p2, vi p3, vi p4, vi p5, vi 2, vr st_SPREAD_EXCLUSIVE, vi 1, vi 1, .val (.double (FP.l2d (p0.toInt64))), .second, .val (.double (FP.l2d (p1.toInt64))), .second, .val (.double (FP.l2d (p2.toInt64))), .second, .val (.double y1), .second, .val (.double y2), .second, vr b2, vi 1, .val (.double (FP.l2d (0 : Int64))), .second, .val (.double y11), .second, .unset, .unset, .unset, .unset, .unset, .unset, .unset, .unset]) X4.here hx (hb hby at_138) rfl rfl ?_
    refine t_iload 142 X4.here hx (hb hby at_140) rfl rfl ?_
    refine t_ifNo 145 X4.here hx (hb hby at_142) (by decide) rfl ?_
    refine t_dload 147 X4.here hx (hb hby at_145) rfl rfl ?_
    refine t_dload 149 X4.here hx (hb hby at_147) rfl rfl ?_
    refine t_dload 151 X4.here hx (hb hby at_149) rfl rfl ?_
    refine t_dload 153 X4.here hx (hb hby at_151) rfl rfl ?_
    refine st9 _ ?_
    refine castTop (g' := (mkF m 156 #[vi p0, vi p1, vi p2, vi p3, vi p4, vi p5, vi 2, vr st_SPREAD_EXCLUSIVE, vi 1, vi 1, .val (.double (FP.l2d (p0.toInt64))), .second, .val (.double (FP.l2d (p1.toInt64))), .second, .val (.double (FP.l2d (p2.toInt64))), .second, .val (.double y1), .second, .val (.double y2), .second, vr b2, vi 1, .val (.double (FP.l2d (0 : Int64))), .second, .val (.double y11), .second, .unset, .unset, .unset, .unset, .unset, .unset, .unset, .unset] [(.double y6)])) (congrArg (fun z => mkF m 156 #[vi p0, vi p1, vi p2, vi p3, vi p4, vi p5, vi 2, vr st_SPREAD_EXCLUSIVE, vi 1, vi 1, .val (.double (FP.l2d (p0.toInt64))), .second, .val (.double (FP.l2d (p1.toInt64))), .second, .val (.double (FP.l2d (p2.toInt64))), .second, .val (.double y1), .second, .val (.double y2), .second, vr b2, vi 1, .val (.double (FP.l2d (0 : Int64))), .second, .val (.double y11), .second, .unset, .unset, .unset, .unset, .unset, .unset, .unset, .unset] (Value.double z :: [])) (own_cg2 (f := FP.dmul) (own_cg2 (f := FP.ddiv) (own_cg2 (f := FP.dmul) rfl hy3.symm hy4.symm) rfl hy5.symm) rfl hy6.symm)) ?_
    refine t_goto (pc := 156) 161 X9.here hx (hb hby at_156) (by decide) (by decide) ?_
    refine t_dstore (pc' := 163) (L' := #[vi p0, vi p1, vi p2, vi p3, vi p4, vi p5, vi 2, vr st_SPREAD_EXCLUSIVE, vi 1, vi 1, .val (.double (FP.l2d (p0.toInt64))), .second, .val (.double (FP.l2d (p1.toInt64))), .second, .val (.double (FP.l2d (p2.toInt64))), .second, .val (.double y1), .second, .val (.double y2), .second, vr b2, vi 1, .val (.double y6), .second, .val (.double y11), .second, .unset, .unset, .unset, .unset, .unset, .unset, .unset, .unset]) X9.here hx (hb hby at_161) rfl rfl ?_
    refine t_aload 165 X9.here hx (hb hby at_163) rfl rfl rfl ?_
    refine st10 _ ?_
    refine t_aload 170 X10.here hx (hb hby at_168) rfl rfl rfl ?_
    refine st13 _ ?_
    refine t_dstore (pc' := 175) (L' := #[vi p0, vi p1, vi p2, vi p3, vi p4, vi p5, vi 2, vr st_SPREAD_EXCLUSIVE, vi 1, vi 1, .val (.double (FP.l2d (p0.toInt64))), .second, .val (.double (FP.l2d (p1.toInt64))), .second, .val (.double (FP.l2d (p2.toInt64))), .second, .val (.double y1), .second, .val (.double y2), .second, vr b2, vi 1, .val (.double y6), .second, .val (.double y12), .second, .unset, .unset, .unset, .unset, .unset, .unset, .unset, .unset]) X13.here hx (hb hby at_173) rfl rfl ?_
    refine t_iload 177 X13.here hx (hb hby at_175) rfl rfl ?_
    refine t_ifNo 180 X13.here hx (hb hby at_177) (by decide) rfl ?_
    refine t_dload 182 X13.here hx (hb hby at_180) rfl rfl ?_
    refine t_dload 184 X13.here hx (hb hby at_182) rfl rfl ?_
    refine t_dcmp 185 (r := 0) X13.here hx (hb hby at_184) (by rw [hy12, hy10]; exact own_cmp00 ((Jvm.Free.Fl.Mag64.fin mg_y6 (by decide)).noNaN) _) rfl ?_
    refine t_ifNo 188 X13.here hx (hb hby at_185) (by decide) rfl ?_
    refine t_iconst 189 (r := 1) X13.here hx (hb hby at_188) (by decide) rfl ?_
    refine t_goto (pc := 189) 193 X13.here hx (hb hby at_189) (by decide) (by decide) ?_
    refine t_istore (pc' := 195) (L' := #[vi p0, vi p1, vi p2, vi p3, vi p4, vi p5, vi 2, vr st_SPREAD_EXCLUSIVE, vi 1, vi 1, .val (.double (FP.l2d (p0.toInt64))), .second, .val (.double (FP.l2d (p1.toInt64))), .second, .val (.double (FP.l2d (p2.toInt64))), .second, .val (.double y1), .second, .val (.double y2), .second, vr b2, vi 1, .val (.double y6), .second, .val (.double y12), .second, .unset, .unset, .unset, .unset, .unset, .unset, .unset, .unset]) X13.here hx (hb hby at_193) rfl rfl ?_
    refine t_aload 197 X13.here hx (hb hby at_195) rfl rfl rfl ?_
    refine st15 _ ?_
    refine t_iload 202 X15.here hx (hb hby at_200) rfl rfl ?_
    refine t_ifNo 205 X15.here hx (hb hby at_202) (by decide) rfl ?_
    refine t_aload 207 X15.here hx (hb hby at_205) rfl rfl rfl ?_
    refine st16 _ ?_
    refine t_dload 212 X16.here hx (hb hby at_210) rfl rfl ?_
    refine t_dcmp 213 (r := 0) X16.here hx (hb hby at_212) (dcmpV_self ((Jvm.Free.Fl.Mag64.fin mg_y12 (by decide)).noNaN) _) rfl ?_
    refine t_ifNo 216 X16.here hx (hb hby at_213) (by decide) rfl ?_
    refine t_iconst 217 (r := 1) X16.here hx (hb hby at_216) (by decide) rfl ?_
    refine t_goto (pc := 217) 221 X16.here hx (hb hby at_217) (by decide) (by decide) ?_
    refine t_istore (pc' := 223) (L' := #[vi p0, vi p1, vi p2, vi p3, vi p4, vi p5, vi 2, vr st_SPREAD_EXCLUSIVE, vi 1, vi 1, .val (.double (FP.l2d (p0.toInt64))), .second, .val (.double (FP.l2d (p1.toInt64))), .second, .val (.double (FP.l2d (p2.toInt64))), .second, .val (.double y1), .second, .val (.double y2), .second, vr b2, vi 1, .val (.double y6), .second, .val (.double y12), .second, .unset, .unset, .unset, .unset, .unset, .unset, .unset, .unset]) X16.here hx (hb hby at_221) rfl rfl ?_
    refine t_aload 225 X16.here hx (hb hby at_223) rfl rfl rfl ?_
    refine t_dload 227 X16.here hx (hb hby at_225) rfl rfl ?_
    refine st18 _ ?_
    refine castTop (g' := (mkF m 230 #[vi p0, vi p1, vi p2, vi p3, vi p4, vi p5, vi 2, vr st_SPREAD_EXCLUSIVE, vi 1, vi 1, .val (.double (FP.l2d (p0.toInt64))), .second, .val (.double (FP.l2d (p1.toInt64))), .second, .val (.double (FP.l2d (p2.toInt64))), .second, .val (.double y1), .second, .val (.double y2), .second, vr b2, vi 1, .val (.double y6), .second, .val (.double y12), .second, .unset, .unset, .unset, .unset, .unset, .unset, .unset, .unset] [(.double y19)])) (congrArg (fun z => mkF m 230 #[vi p0, vi p1, vi p2, vi p3, vi p4, vi p5, vi 2, vr st_SPREAD_EXCLUSIVE, vi 1, vi 1, .val (.double (FP.l2d (p0.toInt64))), .second, .val (.double (FP.l2d (p1.toInt64))), .second, .val (.double (FP.l2d (p2.toInt64))), .second, .val (.double y1), .second, .val (.double y2), .second, vr b2, vi 1, .val (.double y6), .second, .val (.double y12), .second, .unset, .unset, .unset, .unset, .unset, .unset, .unset, .unset] (Value.double z :: [])) (own_cg2 (f := FP.dadd) (own_cg2 (f := FP.dmul) (own_cg2 (f := FP.ddiv) (own_cg2 (f := FP.dmul) hy13.symm hy3.symm hy14.symm) rfl hy15.symm) rfl hy16.symm) (own_cg2 (f := FP.dmul) (own_cg2 (f := FP.ddiv) hy7.symm rfl hy8.symm) rfl hy17.symm) hy19.symm)) ?_
    refine t_dstore (pc' := 232) (L' := #[vi p0, vi p1, vi p2, vi p3, vi p4, vi p5, vi 2, vr st_SPREAD_EXCLUSIVE, vi 1, vi 1, .val (.double (FP.l2d (p0.toInt64))), .second, .val (.double (FP.l2d (p1.toInt64))), .second, .val (.double (FP.l2d (p2.toInt64))), .second, .val (.double y1), .second, .val (.double y2), .second, vr b2, vi 1, .val (.double y6), .second, .val (.double y12), .second, .val (.double y19), .second, .unset, .unset, .unset, .unset, .unset, .unset]) X18.here hx (hb hby at_230) rfl rfl ?_
    refine t_dload 234 X18.here hx (hb hby at_232) rfl rfl ?_
    refine t_dload 236 X18.here hx (hb hby at_234) rfl rfl ?_
    refine t_dadd 237 (r := (FP.dadd (FP.l2d (p0.toInt64)) y12)) X18.here hx (hb hby at_236) (own_nnof hy13.symm (Jvm.Free.Fl.Mag64.fin mg_y13 (by decide)).noNaN) rfl rfl ?_
    refine castTop (g' := (mkF m 237 #[vi p0, vi p1, vi p2, vi p3, vi p4, vi p5, vi 2, vr st_SPREAD_EXCLUSIVE, vi 1, vi 1, .val (.double (FP.l2d (p0.toInt64))), .second, .val (.double (FP.l2d (p1.toInt64))), .second, .val (.double (FP.l2d (p2.toInt64))), .second, .val (.double y1), .second, .val (.double y2), .second, vr b2, vi 1, .val (.double y6), .second, .val (.double y12), .second, .val (.double y19), .second, .unset, .unset, .unset, .unset, .unset, .unset] [(.double y13)])) (congrArg (fun z => mkF m 237 #[vi p0, vi p1, vi p2, vi p3, vi p4, vi p5, vi 2, vr st_SPREAD_EXCLUSIVE, vi 1, vi 1, .val (.double (FP.l2d (p0.toInt64))), .second, .val (.double (FP.l2d (p1.toInt64))), .second, .val (.double (FP.l2d (p2.toInt64))), .second, .val (.double y1), .second, .val (.double y2), .second, vr b2, vi 1, .val (.double y6), .second, .val (.double y12), .second, .val (.double y19), .second, .unset, .unset, .unset, .unset, .unset, .unset] (Value.double z :: [])) hy13.symm) ?_
    refine t_dstore (pc' := 239) (L' := #[vi p0, vi p1, vi p2, vi p3, vi p4, vi p5, vi 2, vr st_SPREAD_EXCLUSIVE, vi 1, vi 1, .val (.double (FP.l2d (p0.toInt64))), .second, .val (.double (FP.l2d (p1.toInt64))), .second, .val (.double (FP.l2d (p2.toInt64))), .second, .val (.double y1), .second, .val (.double y2), .second, vr b2, vi 1, .val (.double y6), .second, .val (.double y12), .second, .val (.double y19), .second, .val (.double y13), .second, .unset, .unset, .unset, .unset]) X18.here hx (hb hby at_237) rfl rfl ?_
    refine t_iload 241 X18.here hx (hb hby at_239) rfl rfl ?_
    refine t_ifNo 244 X18.here hx (hb hby at_241) (by decide) rfl ?_
    refine t_dload 246 X18.here hx (hb hby at_244) rfl rfl ?_
    refine t_dload 248 X18.here hx (hb hby at_246) rfl rfl ?_
    refine t_dload 250 X18.here hx (hb hby at_248) rfl rfl ?_
    refine t_dload 252 X18.here hx (hb hby at_250) rfl rfl ?_
    refine st24 _ ?_
    refine castTop (g' := (mkF m 255 #[vi p0, vi p1, vi p2, vi p3, vi p4, vi p5, vi 2, vr st_SPREAD_EXCLUSIVE, vi 1, vi 1, .val (.double (FP.l2d (p0.toInt64))), .second, .val (.double (FP.l2d (p1.toInt64))), .second, .val (.double (FP.l2d (p2.toInt64))), .second, .val (.double y1), .second, .val (.double y2), .second, vr b2, vi 1, .val (.double y6), .second, .val (.double y12), .second, .val (.double y19), .second, .val (.double y13), .second, .unset, .unset, .unset, .unset] [(.double y16)])) (congrArg (fun z => mkF m 255 #[vi p0, vi p1, vi p2, vi p3, vi p4, vi p5, vi 2, vr st_SPREAD_EXCLUSIVE, vi 1, vi 1, .val (.double (FP.l2d (p0.toInt64))), .second, .val (.double (FP.l2d (p1.toInt64))), .second, .val (.double (FP.l2d (p2.toInt64))), .second, .val (.double y1), .second, .val (.double y2), .second, vr b2, vi 1, .val (.double y6), .second, .val (.double y12), .second, .val (.double y19), .second, .val (.double y13), .second, .unset, .unset, .unset, .unset] (Value.double z :: [])) (own_cg2 (f := FP.dmul) (own_cg2 (f := FP.ddiv) (own_cg2 (f := FP.dmul) rfl hy3.symm hy14.symm) rfl hy15.symm) rfl hy16.symm)) ?_
    refine t_goto (pc := 255) 260 X24.here hx (hb hby at_255) (by decide) (by decide) ?_
    refine t_dstore (pc' := 262) (L' := #[vi p0, vi p1, vi p2, vi p3, vi p4, vi p5, vi 2, vr st_SPREAD_EXCLUSIVE, vi 1, vi 1, .val (.double (FP.l2d (p0.toInt64))), .second, .val (.double (FP.l2d (p1.toInt64))), .second, .val (.double (FP.l2d (p2.toInt64))), .second, .val (.double y1), .second, .val (.double y2), .second, vr b2, vi 1, .val (.double y6), .second, .val (.double y12), .second, .val (.double y19), .second, .val (.double y13), .second, .val (.double y16), .second, .unset, .unset]) X24.here hx (hb hby at_260) rfl rfl ?_
    refine t_aload 264 X24.here hx (hb hby at_262) rfl rfl rfl ?_
    refine st25 _ ?_
    refine t_aload 269 X25.here hx (hb hby at_267) rfl rfl rfl ?_
    refine st28 _ ?_
    refine t_dstore (pc' := 274) (L' := #[vi p0, vi p1, vi p2, vi p3, vi p4, vi p5, vi 2, vr st_SPREAD_EXCLUSIVE, vi 1, vi 1, .val (.double (FP.l2d (p0.toInt64))), .second, .val (.double (FP.l2d (p1.toInt64))), .second, .val (.double (FP.l2d (p2.toInt64))), .second, .val (.double y1), .second, .val (.double y2), .second, vr b2, vi 1, .val (.double y6), .second, .val (.double y12), .second, .val (.double y19), .second, .val (.double y13), .second, .val (.double y16), .second, .val (.double y20), .second]) X28.here hx (hb hby at_272) rfl rfl ?_
    refine t_iload 276 X28.here hx (hb hby at_274) rfl rfl ?_
    refine t_ifNo 279 X28.here hx (hb hby at_276) (by decide) rfl ?_
    refine t_dload 281 X28.here hx (hb hby at_279) rfl rfl ?_
    refine t_dload 283 X28.here hx (hb hby at_281) rfl rfl ?_
    refine t_dload 285 X28.here hx (hb hby at_283) rfl rfl ?_
    refine t_dadd 286 (r := (FP.dadd y12 y16)) X28.here hx (hb hby at_285) (own_nnof hy21.symm (Jvm.Free.Fl.Mag64.fin mg_y21 (by decide)).noNaN) rfl rfl ?_
    refine castTop (g' := (mkF m 286 #[vi p0, vi p1, vi p2, vi p3, vi p4, vi p5, vi 2, vr st_SPREAD_EXCLUSIVE, vi 1, vi 1, .val (.double (FP.l2d (p0.toInt64))), .second, .val (.double (FP.l2d (p1.toInt64))), .second, .val (.double (FP.l2d (p2.toInt64))), .second, .val (.double y1), .second, .val (.double y2), .second, vr b2, vi 1, .val (.double y6), .second, .val (.double y12), .second, .val (.double y19), .second, .val (.double y13), .second, .val (.double y16), .second, .val (.double y20), .second] [(.double y21), (.double y20)])) (congrArg (fun z => mkF m 286 #[vi p0, vi p1, vi p2, vi p3, vi p4, vi p5, vi 2, vr st_SPREAD_EXCLUSIVE, vi 1, vi 1, .val (.double (FP.l2d (p0.toInt64))), .second, .val (.double (FP.l2d (p1.toInt64))), .second, .val (.double (FP.l2d (p2.toInt64))), .second, .val (.double y1), .second, .val (.double y2), .second, vr b2, vi 1, .val (.double y6), .second, .val (.double y12), .second, .val (.double y19), .second, .val (.double y13), .second, .val (.double y16), .second, .val (.double y20), .second] (Value.double z :: [(.double y20)])) hy21.symm) ?_
    refine t_dcmp 287 (r := 0) X28.here hx (hb hby at_286) (by rw [hy20, hy21, hy18]; exact own_cmp0y ((Jvm.Free.Fl.Mag64.fin mg_y12 (by decide)).noNaN) ((Jvm.Free.Fl.Mag64.fin mg_y16 (by decide)).noNaN) (by rw [← hy21]; exact (Jvm.Free.Fl.Mag64.fin mg_y21 (by decide)).noNaN) _) rfl ?_
    refine t_ifNo 290 X28.here hx (hb hby at_287) (by decide) rfl ?_
    refine t_iconst 291 (r := 1) X28.here hx (hb hby at_290) (by decide) rfl ?_
    refine t_goto (pc := 291) 295 X28.here hx (hb hby at_291) (by decide) (by decide) ?_
    refine t_istore (pc' := 297) (L' := #[vi p0, vi p1, vi p2, vi p3, vi p4, vi p5, vi 2, vr st_SPREAD_EXCLUSIVE, vi 1, vi 1, .val (.double (FP.l2d (p0.toInt64))), .second, .val (.double (FP.l2d (p1.toInt64))), .second, .val (.double (FP.l2d (p2.toInt64))), .second, .val (.double y1), .second, .val (.double y2), .second, vr b2, vi 1, .val (.double y6), .second, .val (.double y12), .second, .val (.double y19), .second, .val (.double y13), .second, .val (.double y16), .second, .val (.double y20), .second]) X28.here hx (hb hby at_295) rfl rfl ?_
    refine t_iload 299 X28.here hx (hb hby at_297) rfl rfl ?_
    refine t_ifNo 302 X28.here hx (hb hby at_299) (by decide) rfl ?_
    refine t_aload 304 X28.here hx (hb hby at_302) rfl rfl rfl ?_
    refine st30 _ ?_
    refine castTop (g' := (mkF m 307 #[vi p0, vi p1, vi p2, vi p3, vi p4, vi p5, vi 2, vr st_SPREAD_EXCLUSIVE, vi 1, vi 1, .val (.double (FP.l2d (p0.toInt64))), .second, .val (.double (FP.l2d (p1.toInt64))), .second, .val (.double (FP.l2d (p2.toInt64))), .second, .val (.double y1), .second, .val (.double y2), .second, vr b2, vi 1, .val (.double y6), .second, .val (.double y12), .second, .val (.double y19), .second, .val (.double y13), .second, .val (.double y16), .second, .val (.double y20), .second] [(.double y22)])) (congrArg (fun z => mkF m 307 #[vi p0, vi p1, vi p2, vi p3, vi p4, vi p5, vi 2, vr st_SPREAD_EXCLUSIVE, vi 1, vi 1, .val (.double (FP.l2d (p0.toInt64))), .second, .val (.double (FP.l2d (p1.toInt64))), .second, .val (.double (FP.l2d (p2.toInt64))), .second, .val (.double y1), .second, .val (.double y2), .second, vr b2, vi 1, .val (.double y6), .second, .val (.double y12), .second, .val (.double y19), .second, .val (.double y13), .second, .val (.double y16), .second, .val (.double y20), .second] (Value.double z :: [])) hy22.symm) ?_
    refine t_dload 309 X30.here hx (hb hby at_307) rfl rfl ?_
    refine t_dload 311 X30.here hx (hb hby at_309) rfl rfl ?_
    refine t_dadd 312 (r := (FP.dadd (FP.l2d (p0.toInt64)) y20)) X30.here hx (hb hby at_311) (own_nnof hy22.symm (Jvm.Free.Fl.Mag64.fin mg_y22 (by decide)).noNaN) rfl rfl ?_
    refine castTop (g' := (mkF m 312 #[vi p0, vi p1, vi p2, vi p3, vi p4, vi p5, vi 2, vr st_SPREAD_EXCLUSIVE, vi 1, vi 1, .val (.double (FP.l2d (p0.toInt64))), .second, .val (.double (FP.l2d (p1.toInt64))), .second, .val (.double (FP.l2d (p2.toInt64))), .second, .val (.double y1), .second, .val (.double y2), .second, vr b2, vi 1, .val (.double y6), .second, .val (.double y12), .second, .val (.double y19), .second, .val (.double y13), .second, .val (.double y16), .second, .val (.double y20), .second] [(.double y22), (.double y22)])) (congrArg (fun z => mkF m 312 #[vi p0, vi p1, vi p2, vi p3, vi p4, vi p5, vi 2, vr st_SPREAD_EXCLUSIVE, vi 1, vi 1, .val (.double (FP.l2d (p0.toInt64))), .second, .val (.double (FP.l2d (p1.toInt64))), .second, .val (.double (FP.l2d (p2.toInt64))), .second, .val (.double y1), .second, .val (.double y2), .second, vr b2, vi 1, .val (.double y6), .second, .val (.double y12), .second, .val (.double y19), .second, .val (.double y13), .second, .val (.double y16), .second, .val (.double y20), .second] (Value.double z :: [(.double y22)])) hy22.symm) ?_
    refine t_dcmp 313 (r := 0) X30.here hx (hb hby at_312) (dcmpV_self ((Jvm.Free.Fl.Mag64.fin mg_y22 (by decide)).noNaN) _) rfl ?_
    refine t_ifNo 316 X30.here hx (hb hby at_313) (by decide) rfl ?_
    refine t_iconst 317 (r := 1) X30.here hx (hb hby at_316) (by decide) rfl ?_
    refine t_goto (pc := 317) 321 X30.here hx (hb hby at_317) (by decide) (by decide) ?_
    refine t_istore (pc' := 323) (L' := #[vi p0, vi p1, vi p2, vi p3, vi p4, vi p5, vi 2, vr st_SPREAD_EXCLUSIVE, vi 1, vi 1, .val (.double (FP.l2d (p0.toInt64))), .second, .val (.double (FP.l2d (p1.toInt64))), .second, .val (.double (FP.l2d (p2.toInt64))), .second, .val (.double y1), .second, .val (.double y2), .second, vr b2, vi 1, .val (.double y6), .second, .val (.double y12), .second, .val (.double y19), .second, .val (.double y13), .second, .val (.double y16), .second, .val (.double y20), .second]) X30.here hx (hb hby at_321) rfl rfl ?_
    refine t_iload 325 X30.here hx (hb hby at_323) rfl rfl ?_
    exact retN X30 hx (t := .boolean) hret (by simp) (hb hby at_325) hr
def w2 (hw : HW Z a0) := ow 2 hw rfl
def w3 (hw : HW Z a0) := ow 3 hw rfl
def w61 (hw : HW Z a0) := ow 61 hw rfl
def w52 (hw : HW Z a0) := ow 52 hw rfl
set_option maxRecDepth 65536 in
set_option maxHeartbeats 40000000 in
theorem rm_law (l : Launch) (Z : State) (a0 : Array Value) (hw : HW Z a0) (ws : List Jvm.Cond) (p0 p1 p2 p3 p4 p5 : Int32) (h0 : Heap) (n0 : Nat) (Z0 : n0 ≤ h0.size) (st_ALL st_FLAT st_SPREAD_EXCLUSIVE : Addr) (S_ALL : Sta Z Z.heap "com/example/rivulet/rivulet/instrument/CompoundMethod" "ALL" "Lcom/example/rivulet/rivulet/instrument/CompoundMethod;" (.ref st_ALL)) (S_FLAT : Sta Z Z.heap "com/example/rivulet/rivulet/instrument/CompoundMethod" "FLAT" "Lcom/example/rivulet/rivulet/instrument/CompoundMethod;" (.ref st_FLAT)) (S_SPREAD_EXCLUSIVE : Sta Z Z.heap "com/example/rivulet/rivulet/instrument/CompoundMethod" "SPREAD_EXCLUSIVE" "Lcom/example/rivulet/rivulet/instrument/CompoundMethod;" (.ref st_SPREAD_EXCLUSIVE)) (ne_st_ALL_st_FLAT : st_ALL ≠ st_FLAT) (ne_st_ALL_st_SPREAD_EXCLUSIVE : st_ALL ≠ st_SPREAD_EXCLUSIVE) (ne_st_FLAT_st_SPREAD_EXCLUSIVE : st_FLAT ≠ st_SPREAD_EXCLUSIVE) (O0 : Old Z n0 h0) :
    MetFree l x (head1 (Jvm.Cond.code x code maxLocals ret :: ws) room_1) (fun a U => a = #[(.int p0), (.int p1), (.int p2), (.int p3), (.int p4), (.int p5)] ∧ Z.Warmed39 U.vm ∧ U.heap = h0) (fun _ _ _ _ _ => True) (fun _ U o U' => ∃ v L, o = .returned v ∧ Q_law n0 v L ∧ FrameEnd U o U' L 16 128) := by
  rcases own_rem3 p5 with hk | hk | hk <;> rcases and_one ((p5.toUInt32 >>> ((4 : Int32) &&& 31).toUInt32).toInt32) with hf1 | hf1
  · exact law_0_0 l Z a0 hw ws p0 p1 p2 p3 p4 p5 st_ALL st_FLAT st_SPREAD_EXCLUSIVE h0 n0 Z0 hk hf1 S_ALL O0 S_SPREAD_EXCLUSIVE ne_st_ALL_st_SPREAD_EXCLUSIVE
  · exact law_0_1 l Z a0 hw ws p0 p1 p2 p3 p4 p5 st_ALL st_FLAT st_SPREAD_EXCLUSIVE h0 n0 Z0 hk hf1 S_ALL O0 S_SPREAD_EXCLUSIVE ne_st_ALL_st_SPREAD_EXCLUSIVE
  · exact law_1_0 l Z a0 hw ws p0 p1 p2 p3 p4 p5 st_ALL st_FLAT st_SPREAD_EXCLUSIVE h0 n0 Z0 hk hf1 S_FLAT O0 S_ALL S_SPREAD_EXCLUSIVE ne_st_ALL_st_FLAT ne_st_FLAT_st_SPREAD_EXCLUSIVE
  · exact law_1_1 l Z a0 hw ws p0 p1 p2 p3 p4 p5 st_ALL st_FLAT st_SPREAD_EXCLUSIVE h0 n0 Z0 hk hf1 S_FLAT O0 S_ALL S_SPREAD_EXCLUSIVE ne_st_ALL_st_FLAT ne_st_FLAT_st_SPREAD_EXCLUSIVE
  · exact law_2_0 l Z a0 hw ws p0 p1 p2 p3 p4 p5 st_ALL st_FLAT st_SPREAD_EXCLUSIVE h0 n0 Z0 hk hf1 S_SPREAD_EXCLUSIVE O0 S_ALL ne_st_ALL_st_SPREAD_EXCLUSIVE
  · exact law_2_1 l Z a0 hw ws p0 p1 p2 p3 p4 p5 st_ALL st_FLAT st_SPREAD_EXCLUSIVE h0 n0 Z0 hk hf1 S_SPREAD_EXCLUSIVE O0 S_ALL ne_st_ALL_st_SPREAD_EXCLUSIVE
set_option maxRecDepth 65536 in
set_option maxHeartbeats 40000000 in
theorem comes_1 {Post : Tables → Env → Array Value → State → Outcome → State → Prop} (hpost : ∀ tb e args s v u, (limb_1_1.after args s (.returned v) u = true ∧ limb_1_2.after args s (.returned v) u = true ∧ True) → FrameEnd s (.returned v) u (Jvm.fieldLocs frame_1_writes args s ++ Jvm.arrayLocs frame_1_arrays args s ++ Jvm.staticLocs frame_1_statics s) 16 128 → Post tb e args s (.returned v) u) :
    ArmFor flags0 classFile x code maxLocals ret World_1 tables_1 room_1 Calls_1 rest_1 Pre_1 Post := by
  intro l hfl _ _ p e ha hc hk s m args below hf hA hF happ hP
  obtain ⟨hcalls, hrest, hpre⟩ := hP
  obtain ⟨-, -, -, hnamed, -, -, -, hat⟩ := (Spec.applies_iff hf).mp happ
  obtain ⟨hg, hn⟩ := and_e (Cond.before_iff.mp (show (Jvm.Cond.and given_1 narrow_1).before args s = true from hpre))
  obtain ⟨g1, g2⟩ := and_e hg
  obtain ⟨g3, g4⟩ := and_e g2
  obtain ⟨g5, g6⟩ := and_e g4
  obtain ⟨g7, g8⟩ := and_e g6
  obtain ⟨g9, g10⟩ := and_e g8
  obtain ⟨g11, g12⟩ := and_e g10
  obtain ⟨w0, w1, w2, w3, w4, w5, rfl⟩ : ∃ w0 w1 w2 w3 w4 w5 : Value, args = #[w0, w1, w2, w3, w4, w5] := by
    have hs : args.size = 6 := by simpa [Cond.value, given_1] using g1
    obtain ⟨L⟩ := args
    match L, hs with
    | [w0, w1, w2, w3, w4, w5], _ => exact ⟨w0, w1, w2, w3, w4, w5, rfl⟩
  have hw := fun d (hd : d ∈ tables_1) => atoms_spec (ws := Jvm.Cond.code x code maxLocals ret :: tables_1) hat d (List.mem_cons_of_mem _ hd)
  have hfit : Fit s := fun {y c} hc i hi => by
    obtain ⟨ha, rfl⟩ := Array.getElem?_eq_some_iff.mp hc
    have q := List.all_eq_true.mp ((Array.all_eq_true_iff_forall_mem.mp hF) _ (Array.getElem_mem ha)) i (List.mem_range.mpr hi)
    simpa [Array.getElem?_eq_getElem hi] using q
  obtain ⟨i0, ei0⟩ := is_v g3
  obtain rfl : w0 = (.int i0) := Option.some.inj ei0
  obtain ⟨i1, ei1⟩ := is_v g5
  obtain rfl : w1 = (.int i1) := Option.some.inj ei1
  obtain ⟨i2, ei2⟩ := is_v g7
  obtain rfl : w2 = (.int i2) := Option.some.inj ei2
  obtain ⟨i3, ei3⟩ := is_v g9
  obtain rfl : w3 = (.int i3) := Option.some.inj ei3
  obtain ⟨i4, ei4⟩ := is_v g11
  obtain rfl : w4 = (.int i4) := Option.some.inj ei4
  obtain ⟨i5, ei5⟩ := is_v g12
  obtain rfl : w5 = (.int i5) := Option.some.inj ei5
  obtain ⟨c1, r1⟩ := and_e hn
  obtain ⟨c2, r2⟩ := and_e r1
  obtain ⟨c3, r3⟩ := and_e r2
  obtain ⟨c4, r4⟩ := and_e r3
  obtain ⟨c5, r5⟩ := and_e r4
  obtain ⟨st_ALL, ev_ALL⟩ := exa_v c1
  have S_ALL := Sta.start ev_ALL (Or.inr ⟨(w2 hw), (w3 hw)⟩)
  have od_ALL := eqv_i (Term.int_eval (0)) c3
  rw [fld_at ev_ALL] at od_ALL
  have Fo_ALL := Fld.start od_ALL
  obtain ⟨st_FLAT, ev_FLAT⟩ := exa_v c5
  have S_FLAT := Sta.start ev_FLAT (Or.inr ⟨(w2 hw), (w61 hw)⟩)
  have od_FLAT := eqv_i (Term.int_eval (1)) r5
  rw [fld_at ev_FLAT] at od_FLAT
  have Fo_FLAT := Fld.start od_FLAT
  obtain ⟨st_SPREAD_EXCLUSIVE, ev_SPREAD_EXCLUSIVE⟩ := exa_v c2
  have S_SPREAD_EXCLUSIVE := Sta.start ev_SPREAD_EXCLUSIVE (Or.inr ⟨(w2 hw), (w52 hw)⟩)
  have od_SPREAD_EXCLUSIVE := eqv_i (Term.int_eval (2)) c4
  rw [fld_at ev_SPREAD_EXCLUSIVE] at od_SPREAD_EXCLUSIVE
  have Fo_SPREAD_EXCLUSIVE := Fld.start od_SPREAD_EXCLUSIVE
  have ne_st_ALL_st_FLAT : st_ALL ≠ st_FLAT := Fld.ne Fo_ALL Fo_FLAT (by simp)
  have ne_st_ALL_st_SPREAD_EXCLUSIVE : st_ALL ≠ st_SPREAD_EXCLUSIVE := Fld.ne Fo_ALL Fo_SPREAD_EXCLUSIVE (by simp)
  have ne_st_FLAT_st_SPREAD_EXCLUSIVE : st_FLAT ≠ st_SPREAD_EXCLUSIVE := Fld.ne Fo_FLAT Fo_SPREAD_EXCLUSIVE (by simp)
  obtain ⟨n, o, h1, h2, h3, _, L, rfl, ⟨rfl, N⟩, hq⟩ := rm_law l s _ hw tables_1 i0 i1 i2 i3 i4 i5 s.heap s.heap.size (Nat.le_refl _) st_ALL st_FLAT st_SPREAD_EXCLUSIVE S_ALL S_FLAT S_SPREAD_EXCLUSIVE ne_st_ALL_st_FLAT ne_st_ALL_st_SPREAD_EXCLUSIVE ne_st_FLAT_st_SPREAD_EXCLUSIVE (Old.start s) p e ha hc hk s m _ below hf ((Spec.applies_iff_loose hf).mp happ).1 ⟨rfl, State.Warmed39.refl s, rfl⟩ trivial
  refine ⟨n, _, h1, h2, h3, hpost _ _ _ _ _ _ ⟨Cond.after_iff.mpr rfl, Cond.after_iff.mpr (eq_i res_at (Term.int_eval (1)) rfl), trivial⟩ ⟨hq.1, hq.2.1, (hq.2.2.sift fun y hy => Or.inr (N y hy)).mono (by decide) (by decide)⟩⟩
theorem main_1_1 : Claimed_1_1 := comes_1 fun _ _ _ _ _ _ h hF => ⟨h.1, hF⟩
theorem main_1_2 : Claimed_1_2 := comes_1 fun _ _ _ _ _ _ h hF => ⟨h.2.1, hF⟩
end Jvm.Pilot.@@N@@
namespace Jvm.Pilot.@@N@@
open Jvm Jvm.ClassFile Sem Op Lib Jvm.Free Jvm.Stand Jvm.Pilot.@@N@@.Jvm.D
/-! MADE BY PROGRAM (witnessworld.py) out of the Statement's table words and the real class files: 13 classes; the members and pool entries that the words name. The judged class is class 1, her method 1. -/
namespace start1
open Jvm.ClassFile
def u (s : String) : CpInfo := .utf8 (stringToUtf16 s)
/-- a pool by its gaps: so many unusable entries, then the entry; so many at the end -/
def gap : Nat → List CpInfo → List CpInfo
  | 0, r => r
  | n + 1, r => .unusable :: gap n r
def poolList (es : List (Nat × CpInfo)) (last : Nat) : List CpInfo := es.foldr (fun e r => gap e.1 (e.2 :: r)) (gap last [])
def pool (es : List (Nat × CpInfo)) (last : Nat) : Array CpInfo := ⟨poolList es last⟩
def fileOf (pool : Array CpInfo) (this : Nat) (attrs : Array Attribute := #[]) (ms : Array MethodInfo := #[]) (fl : Nat := 33) (sup : Nat := 0) (ifs : Array Nat := #[]) (fds : Array FieldInfo := #[]) : ClassFile where
  minorVersion := 0
  majorVersion := 65
  constantPool := pool
  accessFlags := fl
  thisClass := this
  superClass := sup
  interfaces := ifs
  fields := fds
  methods := ms
  attributes := attrs
def plain (name : String) (sup : Option ClassId) : Class where
  name := name
  kind := .ordinary
  loader := none
  accessFlags := 33
  super := sup
  interfaces := #[]
  cf := none
  fields := #[]
  methods := #[]
  instanceTypes := #[]
  staticTypes := #[]
  resolved := #[]
  callSites := []
  init := .initialized
  statics := none
  mirror := none

def pool0 : Array CpInfo := pool [(5, u "<init>"), (0, u "()V"), (1, .class_ 10), (1, u "java/lang/Object")] 113

def k0c0 : Code := { maxStack := 0, maxLocals := 1, code := object_method_1_code, exceptionTable := #[], attributes := #[] }
def k0m0 : Method := { name := "<init>", desc := "()V", sig := { parameters := [], returnType := none }, accessFlags := 1, code := some k0c0 }
/-- java/lang/Object -/
def k0 : Class := { plain "java/lang/Object" none with
  accessFlags := 33
  interfaces := #[]
  cf := some (fileOf pool0 8 #[] #[{ accessFlags := 1, nameIndex := 5, descriptorIndex := 6, attributes := #[] }] 33 0 #[] #[])
  fields := #[]
  methods := #[k0m0]
  instanceTypes := #[]
  staticTypes := #[]
  resolved := Array.replicate 124 none
  statics := none }

def pool1 : Array CpInfo := pool [(2, .class_ 4), (1, u "java/lang/Object"), (0, u "<init>"), (0, u "()V"), (0, .integer 2147483647), (0, .fieldref 9 10), (0, .class_ 11), (0, .nameAndType 12 13), (0, u "com/example/rivulet/rivulet/instrument/CompoundMethod"), (0, u "ALL"), (0, u "Lcom/example/rivulet/rivulet/instrument/CompoundMethod;"), (0, .fieldref 9 15), (0, .nameAndType 16 13), (0, u "FLAT"), (0, .fieldref 9 18), (0, .nameAndType 19 13), (0, u "SPREAD_EXCLUSIVE"), (0, .double 4643211215818981376), (1, .class_ 23), (0, u "com/example/rivulet/rivulet/instrument/Accrual"), (0, .methodref 22 25), (0, .nameAndType 5 26), (0, u "(DDDLcom/example/rivulet/rivulet/instrument/CompoundMethod;)V"), (0, .methodref 22 28), (0, .nameAndType 29 30), (0, u "accrue"), (0, u "(D)D"), (0, .methodref 32 33), (0, .class_ 34), (0, .nameAndType 35 36), (0, u "com/example/rivulet/rivulet/instrument/AccrualCompoundPinLaw"), (0, u "indexPart"), (0, u "(DDDD)D"), (0, .methodref 22 38), (0, .nameAndType 39 6), (0, u "compound"), (0, .methodref 22 41), (0, .nameAndType 42 43), (0, u "compounded"), (0, u "()D"), (0, .methodref 22 45), (0, .nameAndType 46 43), (0, u "base"), (0, .double 4636737291354636288), (3, u "law"), (0, u "(IIIIII)Z")] 3

def k1m0 : Method := { name := "<init>", desc := "()V", sig := { parameters := [], returnType := none }, accessFlags := 1, code := none }
def k1c1 : Code := { maxStack := 9, maxLocals := 34, code := code, exceptionTable := #[], attributes := #[] }
def k1m1 : Method := { name := "law", desc := "(IIIIII)Z", sig := { parameters := [.int, .int, .int, .int, .int, .int], returnType := some .boolean }, accessFlags := 9, code := some k1c1 }
def k1c2 : Code := { maxStack := 4, maxLocals := 10, code := method_3_code, exceptionTable := #[], attributes := #[] }
def k1m2 : Method := { name := "indexPart", desc := "(DDDD)D", sig := { parameters := [.double, .double, .double, .double], returnType := some .double }, accessFlags := 10, code := some k1c2 }
/-- com/example/rivulet/rivulet/instrument/AccrualCompoundPinLaw -/
def k1 : Class := { plain "com/example/rivulet/rivulet/instrument/AccrualCompoundPinLaw" (some 0) with
  accessFlags := 49
  interfaces := #[]
  cf := some (fileOf pool1 32 #[] #[{ accessFlags := 1, nameIndex := 5, descriptorIndex := 6, attributes := #[] }, { accessFlags := 9, nameIndex := 51, descriptorIndex := 52, attributes := #[] }, { accessFlags := 10, nameIndex := 35, descriptorIndex := 36, attributes := #[] }] 49 2 #[] #[])
  fields := #[]
  methods := #[k1m0, k1m1, k1m2]
  instanceTypes := #[]
  staticTypes := #[]
  resolved := Array.replicate 56 none
  statics := none }

def pool2 : Array CpInfo := pool [(1, .class_ 2), (0, u "java/lang/constant/Constable"), (0, .class_ 4), (0, u "java/lang/Object")] 6

/-- java/lang/constant/Constable -/
def k2 : Class := { plain "java/lang/constant/Constable" (some 0) with
  accessFlags := 1537
  interfaces := #[]
  cf := some (fileOf pool2 1 #[] #[] 1537 3 #[] #[])
  fields := #[]
  methods := #[]
  instanceTypes := #[]
  staticTypes := #[]
  resolved := Array.replicate 11 none
  statics := none }

def pool3 : Array CpInfo := pool [(1, .class_ 2), (0, u "java/lang/Comparable"), (0, .class_ 4), (0, u "java/lang/Object")] 7

/-- java/lang/Comparable -/
def k3 : Class := { plain "java/lang/Comparable" (some 0) with
  accessFlags := 1537
  interfaces := #[]
  cf := some (fileOf pool3 1 #[] #[] 1537 3 #[] #[])
  fields := #[]
  methods := #[]
  instanceTypes := #[]
  staticTypes := #[]
  resolved := Array.replicate 12 none
  statics := none }

def pool4 : Array CpInfo := pool [(1, .class_ 2), (0, u "java/io/Serializable"), (0, .class_ 4), (0, u "java/lang/Object")] 2

/-- java/io/Serializable -/
def k4 : Class := { plain "java/io/Serializable" (some 0) with
  accessFlags := 1537
  interfaces := #[]
  cf := some (fileOf pool4 1 #[] #[] 1537 3 #[] #[])
  fields := #[]
  methods := #[]
  instanceTypes := #[]
  staticTypes := #[]
  resolved := Array.replicate 7 none
  statics := none }

def pool5 : Array CpInfo := pool [(2, .class_ 4), (1, u "java/lang/Enum"), (0, u "name"), (0, u "Ljava/lang/String;"), (2, u "ordinal"), (0, u "I"), (1, .class_ 14), (1, u "java/lang/Object"), (4, u "hash"), (86, .class_ 108), (1, u "java/lang/Enum$EnumDesc"), (2, .class_ 112), (0, u "java/lang/constant/Constable"), (0, .class_ 114), (0, u "java/lang/Comparable"), (0, .class_ 116), (0, u "java/io/Serializable")] 87

/-- java/lang/Enum -/
def k5 : Class := { plain "java/lang/Enum" (some 0) with
  accessFlags := 1057
  interfaces := #[2, 3, 4]
  cf := some (fileOf pool5 2 #[.nestMembers #[106]] #[] 1057 12 #[111, 113, 115] #[{ accessFlags := 18, nameIndex := 5, descriptorIndex := 6, attributes := #[] }, { accessFlags := 18, nameIndex := 9, descriptorIndex := 10, attributes := #[] }, { accessFlags := 2, nameIndex := 19, descriptorIndex := 10, attributes := #[] }])
  fields := #[{ name := "name", type := (.object "java/lang/String"), accessFlags := 18, slot := 0, constantValue := 0 }, { name := "ordinal", type := .int, accessFlags := 18, slot := 1, constantValue := 0 }, { name := "hash", type := .int, accessFlags := 2, slot := 2, constantValue := 0 }]
  methods := #[]
  instanceTypes := #[(.object "java/lang/String"), .int, .int]
  staticTypes := #[]
  resolved := Array.replicate 204 none
  statics := none }

def pool6 : Array CpInfo := pool [(1, .class_ 2), (0, u "com/example/rivulet/rivulet/instrument/CompoundMethod"), (2, u "ALL"), (0, u "Lcom/example/rivulet/rivulet/instrument/CompoundMethod;"), (2, u "FLAT"), (2, u "SPREAD_EXCLUSIVE"), (2, u "$VALUES"), (0, u "[Lcom/example/rivulet/rivulet/instrument/CompoundMethod;"), (6, .class_ 25), (1, u "java/lang/Enum")] 51

/-- com/example/rivulet/rivulet/instrument/CompoundMethod -/
def k6 : Class := { plain "com/example/rivulet/rivulet/instrument/CompoundMethod" (some 5) with
  accessFlags := 16433
  interfaces := #[]
  cf := some (fileOf pool6 1 #[] #[] 16433 23 #[] #[{ accessFlags := 16409, nameIndex := 5, descriptorIndex := 6, attributes := #[] }, { accessFlags := 16409, nameIndex := 9, descriptorIndex := 6, attributes := #[] }, { accessFlags := 16409, nameIndex := 12, descriptorIndex := 6, attributes := #[] }, { accessFlags := 4122, nameIndex := 15, descriptorIndex := 16, attributes := #[] }])
  fields := #[{ name := "ALL", type := (.object "com/example/rivulet/rivulet/instrument/CompoundMethod"), accessFlags := 16409, slot := 0, constantValue := 0 }, { name := "FLAT", type := (.object "com/example/rivulet/rivulet/instrument/CompoundMethod"), accessFlags := 16409, slot := 1, constantValue := 0 }, { name := "SPREAD_EXCLUSIVE", type := (.object "com/example/rivulet/rivulet/instrument/CompoundMethod"), accessFlags := 16409, slot := 2, constantValue := 0 }, { name := "$VALUES", type := (.array (.object "com/example/rivulet/rivulet/instrument/CompoundMethod")), accessFlags := 4122, slot := 3, constantValue := 0 }]
  methods := #[]
  instanceTypes := #[(.object "java/lang/String"), .int, .int]
  staticTypes := #[(.object "com/example/rivulet/rivulet/instrument/CompoundMethod"), (.object "com/example/rivulet/rivulet/instrument/CompoundMethod"), (.object "com/example/rivulet/rivulet/instrument/CompoundMethod"), (.array (.object "com/example/rivulet/rivulet/instrument/CompoundMethod"))]
  resolved := Array.replicate 77 none
  statics := some 0 }

def pool7 : Array CpInfo := pool [(1, .methodref 2 3), (0, .class_ 4), (0, .nameAndType 5 6), (0, u "java/lang/Object"), (0, u "<init>"), (0, u "()V"), (0, .fieldref 8 9), (0, .class_ 10), (0, .nameAndType 11 12), (0, u "com/example/rivulet/rivulet/instrument/Accrual"), (0, u "balance"), (0, u "D"), (0, .fieldref 8 14), (0, .nameAndType 15 12), (0, u "rate"), (0, .fieldref 8 17), (0, .nameAndType 18 12), (0, u "margin"), (0, .fieldref 8 20), (0, .nameAndType 21 22), (0, u "method"), (0, u "Lcom/example/rivulet/rivulet/instrument/CompoundMethod;"), (0, .fieldref 8 24), (0, .nameAndType 25 12), (0, u "compounded"), (0, .methodref 8 27), (0, .nameAndType 28 29), (0, u "base"), (0, u "()D"), (0, .methodref 8 31), (0, .nameAndType 32 33), (0, u "simpleInterest"), (0, u "(DDD)D"), (0, .fieldref 35 36), (0, .class_ 37), (0, .nameAndType 38 22), (0, u "com/example/rivulet/rivulet/instrument/CompoundMethod"), (0, u "ALL"), (0, .fieldref 8 40), (0, .nameAndType 41 12), (0, u "pending"), (0, .fieldref 35 43), (0, .nameAndType 44 22), (0, u "SPREAD_EXCLUSIVE"), (2, u "compound"), (1, .class_ 51), (1, u "com/example/rivulet/rivulet/instrument/Accrual$1"), (11, u "(D)D"), (0, .double 4636737291354636288), (6, u "(DDDLcom/example/rivulet/rivulet/instrument/CompoundMethod;)V"), (2, u "accrue")] 7

def k7c0 : Code := { maxStack := 3, maxLocals := 8, code := prog_14_method_1_code, exceptionTable := #[], attributes := #[] }
def k7m0 : Method := { name := "<init>", desc := "(DDDLcom/example/rivulet/rivulet/instrument/CompoundMethod;)V", sig := { parameters := [.double, .double, .double, (.object "com/example/rivulet/rivulet/instrument/CompoundMethod")], returnType := none }, accessFlags := 1, code := some k7c0 }
def k7c1 : Code := { maxStack := 4, maxLocals := 1, code := prog_14_method_2_code, exceptionTable := #[], attributes := #[] }
def k7m1 : Method := { name := "base", desc := "()D", sig := { parameters := [], returnType := some .double }, accessFlags := 1, code := some k7c1 }
def k7c2 : Code := { maxStack := 2, maxLocals := 1, code := prog_14_method_3_code, exceptionTable := #[], attributes := #[] }
def k7m2 : Method := { name := "compounded", desc := "()D", sig := { parameters := [], returnType := some .double }, accessFlags := 1, code := some k7c2 }
def k7c3 : Code := { maxStack := 7, maxLocals := 7, code := prog_14_method_4_code, exceptionTable := #[], attributes := #[] }
def k7m3 : Method := { name := "accrue", desc := "(D)D", sig := { parameters := [.double], returnType := some .double }, accessFlags := 1, code := some k7c3 }
def k7c4 : Code := { maxStack := 5, maxLocals := 1, code := prog_14_method_5_code, exceptionTable := #[], attributes := #[] }
def k7m4 : Method := { name := "compound", desc := "()V", sig := { parameters := [], returnType := none }, accessFlags := 1, code := some k7c4 }
def k7c5 : Code := { maxStack := 4, maxLocals := 6, code := prog_14_method_7_code, exceptionTable := #[], attributes := #[] }
def k7m5 : Method := { name := "simpleInterest", desc := "(DDD)D", sig := { parameters := [.double, .double, .double], returnType := some .double }, accessFlags := 10, code := some k7c5 }
/-- com/example/rivulet/rivulet/instrument/Accrual -/
def k7 : Class := { plain "com/example/rivulet/rivulet/instrument/Accrual" (some 0) with
  accessFlags := 49
  interfaces := #[]
  cf := some (fileOf pool7 8 #[.nestMembers #[49]] #[{ accessFlags := 1, nameIndex := 5, descriptorIndex := 71, attributes := #[] }, { accessFlags := 1, nameIndex := 28, descriptorIndex := 29, attributes := #[] }, { accessFlags := 1, nameIndex := 25, descriptorIndex := 29, attributes := #[] }, { accessFlags := 1, nameIndex := 74, descriptorIndex := 63, attributes := #[] }, { accessFlags := 1, nameIndex := 47, descriptorIndex := 6, attributes := #[] }, { accessFlags := 10, nameIndex := 32, descriptorIndex := 33, attributes := #[] }] 49 2 #[] #[{ accessFlags := 18, nameIndex := 11, descriptorIndex := 12, attributes := #[] }, { accessFlags := 18, nameIndex := 15, descriptorIndex := 12, attributes := #[] }, { accessFlags := 18, nameIndex := 18, descriptorIndex := 12, attributes := #[] }, { accessFlags := 18, nameIndex := 21, descriptorIndex := 22, attributes := #[] }, { accessFlags := 2, nameIndex := 25, descriptorIndex := 12, attributes := #[] }, { accessFlags := 2, nameIndex := 41, descriptorIndex := 12, attributes := #[] }])
  fields := #[{ name := "balance", type := .double, accessFlags := 18, slot := 0, constantValue := 0 }, { name := "rate", type := .double, accessFlags := 18, slot := 1, constantValue := 0 }, { name := "margin", type := .double, accessFlags := 18, slot := 2, constantValue := 0 }, { name := "method", type := (.object "com/example/rivulet/rivulet/instrument/CompoundMethod"), accessFlags := 18, slot := 3, constantValue := 0 }, { name := "compounded", type := .double, accessFlags := 2, slot := 4, constantValue := 0 }, { name := "pending", type := .double, accessFlags := 2, slot := 5, constantValue := 0 }]
  methods := #[k7m0, k7m1, k7m2, k7m3, k7m4, k7m5]
  instanceTypes := #[.double, .double, .double, (.object "com/example/rivulet/rivulet/instrument/CompoundMethod"), .double, .double]
  staticTypes := #[]
  resolved := Array.replicate 82 none
  statics := none }

def pool8 : Array CpInfo := pool [(1, u "java/lang/Cloneable"), (0, .class_ 1), (0, u "java/lang/Object"), (0, .class_ 3)] 3

/-- java/lang/Cloneable -/
def k8 : Class := { plain "java/lang/Cloneable" (some 0) with
  accessFlags := 1537
  interfaces := #[]
  cf := some (fileOf pool8 2 #[] #[] 1537 4 #[] #[])
  fields := #[]
  methods := #[]
  instanceTypes := #[]
  staticTypes := #[]
  resolved := Array.replicate 8 none
  statics := none }

/-- the primitive byte -/
def k9 : Class := { plain "byte" none with kind := .primitive 'B', accessFlags := 0x411 }
/-- [B -/
def k10 : Class := { plain "[B" (some 0) with kind := .array 9 .byte, interfaces := #[8, 4], accessFlags := 1041 }

/-- the primitive int -/
def k11 : Class := { plain "int" none with kind := .primitive 'I', accessFlags := 0x411 }
/-- [I -/
def k12 : Class := { plain "[I" (some 0) with kind := .array 11 .int, interfaces := #[8, 4], accessFlags := 1041 }

def heap : Heap := #[{ cls := 6, slots := #[.ref 1, .ref 2, .ref 3, .null], vm := .statics 6 },
  { cls := 6, slots := #[.null, .int 0, .int 0], vm := .none },
  { cls := 6, slots := #[.null, .int 1, .int 0], vm := .none },
  { cls := 6, slots := #[.null, .int 2, .int 0], vm := .none }]
def classes : Array Class := #[k0, k1, k2, k3, k4, k5, k6, k7, k8, k9, k10, k11, k12]
def interned : List (Array UInt16 × Addr) := []
def slotsUsed : Nat := 13
def theMethod : MethodId := ⟨1, 1⟩
def args0 : Array Value := #[.int 1, .int 5, .int 3, .int 7, .int 2, .int 4]
def aboutOver (below : List Frame) : State where
  vm := { classes := classes, interned := interned.toArray }
  heap := heap
  slotsUsed := slotsUsed
  threads := #[{ frames := .invoking theMethod args0 :: below }]
def below0 : List Frame := [.native { method := ⟨0, 0⟩, args := #[] }]
def about1 : State := aboutOver below0
def p0 : Program := .bare "" "" ""
def e0 : Env := launch0.env 0 0 0
theorem w_frames : about1.frames = Frame.invoking theMethod args0 :: below0 := rfl
set_option maxRecDepth 65536 in
theorem w_args : argsFit about1.vm theMethod args0 = true := by decide +kernel
set_option maxRecDepth 65536 in
theorem w_heap : heapFits about1 = true := by decide +kernel
set_option maxRecDepth 65536 in
theorem w_runnable : about1.curStatus? = some .runnable := by decide +kernel
set_option maxRecDepth 65536 in
theorem w_alone : about1.alone = true := by decide +kernel
set_option maxRecDepth 65536 in
theorem w_named : about1.methodNamed? x = some theMethod := by decide +kernel
set_option maxRecDepth 65536 in
theorem w_hears : about1.hears theMethod below0 = true := by decide +kernel
set_option maxRecDepth 65536 in
theorem w_ripe : about1.ripe theMethod args0 below0 = true := by decide +kernel
theorem w_running : about1.status = .running := rfl
set_option maxRecDepth 65536 in
theorem w_room : about1.hasRoom e0.platform room_1 = true :=
  launch0.hasRoom_least _ room_1 (by decide +kernel) (by decide +kernel) (by decide +kernel) (by decide +kernel) (by decide +kernel) (by decide +kernel)
theorem allAtoms_all (ts : List Jvm.Cond) (a : Array Jvm.Value) (st : Jvm.State) : (allAtoms ts).before a st = ts.all (fun c => c.before a st) := by
  induction ts with
  | nil => rfl
  | cons c t ih =>
    show (Jvm.Cond.and c (allAtoms t)).before a st = _
    rw [Jvm.Cond.before_and, ih, List.all_cons]
def words1 : List Jvm.Cond := Jvm.Cond.code x code maxLocals ret :: tables_1
/-- a 'code' word, met by the world's own term for the bytes: nothing is compared byte by byte -/
theorem code_word {y : MethodName} {bytes : ByteArray} {mx : Nat} {rt : Option FieldType} {a : Array Value} {s : State} {m : MethodId} {meth : Method} {c : Code} (h1 : s.methodNamed? y = some m) (h2 : s.vm.method? m = some meth) (h3 : meth.code = some c) (h4 : c.code = bytes)
    (h5 : (c.maxLocals == mx && c.exceptionTable.isEmpty && decide (c.maxStack ≤ mostOperands) && decide (meth.sig.returnType = rt) && !meth.locks && decide (parseMethodDescriptor y.desc = some meth.sig)) = true) : (Jvm.Cond.code y bytes mx rt).before a s = true := by
  simp only [Bool.and_eq_true, beq_iff_eq, Bool.not_eq_true', decide_eq_true_eq] at h5
  obtain ⟨⟨⟨⟨⟨g1, g2⟩, g3⟩, g4⟩, g5⟩, g6⟩ := h5
  simp [Cond.before, Cond.holds, Cond.value, h1, h2, h3, h4, g1, g2, g3, g4, g5, g6]
def isCode : Jvm.Cond → Bool
  | .code _ _ _ _ => true
  | _ => false
theorem all_split {L : List Jvm.Cond} {P : Jvm.Cond → Bool} (h1 : L.all (fun c => isCode c || P c) = true) (h2 : ∀ c ∈ L.filter isCode, P c = true) : L.all P = true := by
  refine List.all_eq_true.mpr fun c hc => ?_
  have h := List.all_eq_true.mp h1 c hc
  rcases Bool.eq_false_or_eq_true (isCode c) with hi | hi
  · exact h2 c (List.mem_filter.mpr ⟨hc, hi⟩)
  · simpa [hi] using h
set_option maxRecDepth 65536 in
theorem w_c0 : (Jvm.Cond.code x code maxLocals ret).before args0 about1 = true := code_word (m := ⟨1, 1⟩) (meth := k1m1) (c := k1c1) (by decide +kernel) rfl rfl rfl (by decide +kernel)
set_option maxRecDepth 65536 in
theorem w_c1 : (Jvm.Cond.code ({ cls := "com/example/rivulet/rivulet/instrument/Accrual", name := "<init>", desc := "(DDDLcom/example/rivulet/rivulet/instrument/CompoundMethod;)V" } : Jvm.MethodName) prog_14_method_1_code (8 : Nat) (Option.none : Option Jvm.ClassFile.FieldType)).before args0 about1 = true := code_word (m := ⟨7, 0⟩) (meth := k7m0) (c := k7c0) (by decide +kernel) rfl rfl rfl (by decide +kernel)
set_option maxRecDepth 65536 in
theorem w_c2 : (Jvm.Cond.code ({ cls := "java/lang/Object", name := "<init>", desc := "()V" } : Jvm.MethodName) object_method_1_code (1 : Nat) (Option.none : Option Jvm.ClassFile.FieldType)).before args0 about1 = true := code_word (m := ⟨0, 0⟩) (meth := k0m0) (c := k0c0) (by decide +kernel) rfl rfl rfl (by decide +kernel)
set_option maxRecDepth 65536 in
theorem w_c3 : (Jvm.Cond.code ({ cls := "com/example/rivulet/rivulet/instrument/Accrual", name := "compound", desc := "()V" } : Jvm.MethodName) prog_14_method_5_code (1 : Nat) (Option.none : Option Jvm.ClassFile.FieldType)).before args0 about1 = true := code_word (m := ⟨7, 4⟩) (meth := k7m4) (c := k7c4) (by decide +kernel) rfl rfl rfl (by decide +kernel)
set_option maxRecDepth 65536 in
theorem w_c4 : (Jvm.Cond.code ({ cls := "com/example/rivulet/rivulet/instrument/Accrual", name := "compounded", desc := "()D" } : Jvm.MethodName) prog_14_method_3_code (1 : Nat) (Option.some Jvm.ClassFile.FieldType.double)).before args0 about1 = true := code_word (m := ⟨7, 2⟩) (meth := k7m2) (c := k7c2) (by decide +kernel) rfl rfl rfl (by decide +kernel)
set_option maxRecDepth 65536 in
theorem w_c5 : (Jvm.Cond.code ({ cls := "com/example/rivulet/rivulet/instrument/Accrual", name := "accrue", desc := "(D)D" } : Jvm.MethodName) prog_14_method_4_code (7 : Nat) (Option.some Jvm.ClassFile.FieldType.double)).before args0 about1 = true := code_word (m := ⟨7, 3⟩) (meth := k7m3) (c := k7c3) (by decide +kernel) rfl rfl rfl (by decide +kernel)
set_option maxRecDepth 65536 in
theorem w_c6 : (Jvm.Cond.code ({ cls := "com/example/rivulet/rivulet/instrument/Accrual", name := "base", desc := "()D" } : Jvm.MethodName) prog_14_method_2_code (1 : Nat) (Option.some Jvm.ClassFile.FieldType.double)).before args0 about1 = true := code_word (m := ⟨7, 1⟩) (meth := k7m1) (c := k7c1) (by decide +kernel) rfl rfl rfl (by decide +kernel)
set_option maxRecDepth 65536 in
theorem w_c7 : (Jvm.Cond.code ({ cls := "com/example/rivulet/rivulet/instrument/Accrual", name := "simpleInterest", desc := "(DDD)D" } : Jvm.MethodName) prog_14_method_7_code (6 : Nat) (Option.some Jvm.ClassFile.FieldType.double)).before args0 about1 = true := code_word (m := ⟨7, 5⟩) (meth := k7m5) (c := k7c5) (by decide +kernel) rfl rfl rfl (by decide +kernel)
set_option maxRecDepth 65536 in
theorem w_c8 : (Jvm.Cond.code ({ cls := "com/example/rivulet/rivulet/instrument/AccrualCompoundPinLaw", name := "indexPart", desc := "(DDDD)D" } : Jvm.MethodName) method_3_code (10 : Nat) (Option.some Jvm.ClassFile.FieldType.double)).before args0 about1 = true := code_word (m := ⟨1, 2⟩) (meth := k1m2) (c := k1c2) (by decide +kernel) rfl rfl rfl (by decide +kernel)
def codes1 : List Jvm.Cond := [Jvm.Cond.code x code maxLocals ret, Jvm.Cond.code ({ cls := "com/example/rivulet/rivulet/instrument/Accrual", name := "<init>", desc := "(DDDLcom/example/rivulet/rivulet/instrument/CompoundMethod;)V" } : Jvm.MethodName) prog_14_method_1_code (8 : Nat) (Option.none : Option Jvm.ClassFile.FieldType), Jvm.Cond.code ({ cls := "java/lang/Object", name := "<init>", desc := "()V" } : Jvm.MethodName) object_method_1_code (1 : Nat) (Option.none : Option Jvm.ClassFile.FieldType), Jvm.Cond.code ({ cls := "com/example/rivulet/rivulet/instrument/Accrual", name := "compound", desc := "()V" } : Jvm.MethodName) prog_14_method_5_code (1 : Nat) (Option.none : Option Jvm.ClassFile.FieldType), Jvm.Cond.code ({ cls := "com/example/rivulet/rivulet/instrument/Accrual", name := "compounded", desc := "()D" } : Jvm.MethodName) prog_14_method_3_code (1 : Nat) (Option.some Jvm.ClassFile.FieldType.double), Jvm.Cond.code ({ cls := "com/example/rivulet/rivulet/instrument/Accrual", name := "accrue", desc := "(D)D" } : Jvm.MethodName) prog_14_method_4_code (7 : Nat) (Option.some Jvm.ClassFile.FieldType.double), Jvm.Cond.code ({ cls := "com/example/rivulet/rivulet/instrument/Accrual", name := "base", desc := "()D" } : Jvm.MethodName) prog_14_method_2_code (1 : Nat) (Option.some Jvm.ClassFile.FieldType.double), Jvm.Cond.code ({ cls := "com/example/rivulet/rivulet/instrument/Accrual", name := "simpleInterest", desc := "(DDD)D" } : Jvm.MethodName) prog_14_method_7_code (6 : Nat) (Option.some Jvm.ClassFile.FieldType.double), Jvm.Cond.code ({ cls := "com/example/rivulet/rivulet/instrument/AccrualCompoundPinLaw", name := "indexPart", desc := "(DDDD)D" } : Jvm.MethodName) method_3_code (10 : Nat) (Option.some Jvm.ClassFile.FieldType.double)]
set_option maxRecDepth 65536 in
theorem codes_eq : words1.filter isCode = codes1 := rfl
theorem w_codes : ∀ c ∈ words1.filter isCode, c.before args0 about1 = true := by
  rw [codes_eq]
  intro c hc
  simp only [codes1, List.mem_cons, List.not_mem_nil, or_false] at hc
  rcases hc with rfl | rfl | rfl | rfl | rfl | rfl | rfl | rfl | rfl
  · exact w_c0
  · exact w_c1
  · exact w_c2
  · exact w_c3
  · exact w_c4
  · exact w_c5
  · exact w_c6
  · exact w_c7
  · exact w_c8
set_option maxRecDepth 65536 in
theorem w_t1 : (words1.take 24).all (fun c => isCode c || c.before args0 about1) = true := by decide +kernel
set_option maxRecDepth 65536 in
theorem w_t2 : ((words1.drop 24).take 24).all (fun c => isCode c || c.before args0 about1) = true := by decide +kernel
set_option maxRecDepth 65536 in
theorem w_t3 : ((words1.drop 24).drop 24).all (fun c => isCode c || c.before args0 about1) = true := by decide +kernel
theorem w_tables : (allAtoms (Jvm.Cond.code x code maxLocals ret :: tables_1)).before args0 about1 = true := by
  rw [allAtoms_all]
  show words1.all (fun c => c.before args0 about1) = true
  refine all_split ?_ w_codes
  rw [← List.take_append_drop 24 words1, List.all_append, w_t1, ← List.take_append_drop 24 (words1.drop 24), List.all_append, w_t2, w_t3]
  rfl
set_option maxRecDepth 65536 in
theorem w_case : (Jvm.Cond.and given_1 narrow_1).before args0 about1 = true := by decide +kernel
theorem w_applies : (headSpec (Jvm.Cond.code x code maxLocals ret :: tables_1) room_1).applies x e0.platform about1 = true :=
  (Spec.applies_iff w_frames).mpr ⟨w_running, w_runnable, w_alone, w_named, w_hears, w_ripe, w_room, w_tables⟩
theorem atStart : AtStart classFile x code maxLocals ret World_1 tables_1 room_1 Calls_1 rest_1 Pre_1 launch0 p0 e0 about1 theMethod args0 below0 :=
  ⟨lists_1, trivial, launch0.admits_env _ _ _, launch0.least_env, fairChoices_fair.cas, fairChoices_fair.clock, w_frames, w_args, w_heap, w_applies, trivial, trivial, w_case⟩
end start1
theorem witness_1 : WitnessClaimed_1 := ⟨start1.p0, start1.e0, start1.about1, start1.theMethod, start1.args0, start1.below0, start1.atStart⟩
end Jvm.Pilot.@@N@@
