import JvmDerived
import JvmDerived.Pilot.@@N@@Statement
import JvmDerived.Pilot.@@N@@Code
set_option linter.unusedVariables false
set_option linter.unusedSimpArgs false
namespace Jvm.RoadKit
open Sem ClassFile Op Lib Jvm.Stand Jvm.Free Jvm.LawKit
section New
variable {p : Program} {l : Launch} {e : Env} {R : Room} {s : State} {m : MethodId} {args : Array Value} {below : List Frame} {meth : Method} {c : Code} {T : State} {locs : List Loc} {cells slots : Nat}
theorem retI (X : Stand p l e R s m args below meth c T locs cells slots) (hx : p.tables.exec = Jvm.exec) {pc : Nat} {Ls : Array Slot} {z : Int32} {rest : List Value} (hret : meth.sig.returnType = some .int) (hd : decode c.code pc = .ok (.ireturn, 1)) {fs : List Frame}
    (hl : ∀ (f : JFrame) (acts : List Action), f.method = m → f.locked = none → f.entered = [] → (doReturn e (T.setTop f) acts (some (.int z))).1 = T.setFrames fs) : Steps p.tables e below (T.setTop (mkF m pc Ls (.int z :: rest))) (T.setFrames fs) := by
  have hm' : T.vm.method? m = some meth := X.method'
  have hn : narrow .int (.int z) = .int z := rfl
  show Steps p.tables e below (T.setTop { method := m, pc := pc, locals := Ls, stack := _ :: rest, locked := none }) _
  jvm_step X.here [X.here.top, hx, hd, hm', hret, hn]
  first | (intro acts; rw [hl _ acts rfl rfl rfl]) | rw [hl _ _ rfl rfl rfl]
  exact Steps.refl _
end New
end Jvm.RoadKit
namespace Jvm.Pilot.@@N@@
open Jvm Jvm.ClassFile Sem Op Lib Jvm.Free Jvm.Stand Jvm.LawKit Jvm.RoadKit Bundle Jvm.Pilot.@@N@@.Jvm.D
section Own
variable {p : Program} {l : Launch} {e : Env} {R : Room} {s : State} {m : MethodId} {args : Array Value} {below : List Frame} {meth : Method} {c : Code} {T : State} {locs : List Loc} {cells slots : Nat} {Z : State} {a0 : Array Value} {h h' h0 : Heap} {a b : Addr} {C nm dd : String} {v w : Value} {sl n0 : Nat} {ws ws' : List (Addr × Nat)} {ty : FieldType} {k : ClassId} {z j : Int32} {vs : List Value} {dv : Value}
/-- the cells of h stand in h' as they stood, but for the places in ws -/
def KL (h h' : Heap) (ws : List (Addr × Nat)) : Prop := h.size ≤ h'.size ∧ ∀ (x : Addr) (c : Cell), h[x]? = some c → ∃ c' : Cell, h'[x]? = some c' ∧ c'.cls = c.cls ∧ c'.vm = c.vm ∧ c'.slots.size = c.slots.size ∧ (∀ i, (x, i) ∉ ws → c'.slots[i]? = c.slots[i]?) ∧ ((∀ w ∈ ws, w.1 ≠ x) → c' = c)
theorem KL.refl (h : Heap) (ws : List (Addr × Nat)) : KL h h ws := ⟨Nat.le_refl _, fun x c q => ⟨c, q, rfl, rfl, rfl, fun _ _ => rfl, fun _ => rfl⟩⟩
theorem KL.trans (K : KL h0 h ws) (K' : KL h h' ws') (q : ∀ w ∈ ws', w ∈ ws ∨ h0.size ≤ w.1) : KL h0 h' ws := by
  refine ⟨Nat.le_trans K.1 K'.1, fun x c hx => ?_⟩
  obtain ⟨c1, a1, a2, a3, a4, a5, a6⟩ := K.2 x c hx
  obtain ⟨c2, b1, b2, b3, b4, b5, b6⟩ := K'.2 x c1 a1
  have hlt : x < h0.size := (Array.getElem?_eq_some_iff.mp hx).1
  refine ⟨c2, b1, b2.trans a2, b3.trans a3, b4.trans a4, fun i hi => ?_, fun hn => ?_⟩
  · rw [b5 i fun hm => ?_]
    · exact a5 i hi
    · rcases q _ hm with u | u
      · exact hi u
      · exact absurd hlt (Nat.not_lt.mpr u)
  · rw [b6 fun w hw e => ?_]
    · exact a6 hn
    · rcases q w hw with u | u
      · exact hn w u e
      · subst e; exact absurd hlt (Nat.not_lt.mpr u)
theorem KL.ofE (E : Ext h h') : KL h h' [] := ⟨E.1, fun x c q => ⟨c, E.2 x c q, rfl, rfl, rfl, fun _ _ => rfl, fun _ => rfl⟩⟩
theorem KL.ofW (W : Wr h h' a sl v) : KL h h' [(a, sl)] := by
  refine ⟨Nat.le_of_eq W.size.symm, fun x c q => ?_⟩
  obtain ⟨c', e1, e2, e3, e4, e5, e6, -⟩ := wr_at W q
  refine ⟨c', e1, e2, e3, e4, fun i hi => ?_, fun hn => e5 fun e => hn _ (List.mem_singleton.mpr rfl) e.symm⟩
  by_cases ex : x = a
  · subst ex; exact e6 i fun ei => hi (by rw [ei]; exact List.mem_singleton.mpr rfl)
  · rw [e5 ex]
theorem KL.ofEq (q : h' = h) : KL h h' [] := q ▸ KL.refl h []
theorem nw0 {x : Addr × Nat} : x ∉ ([] : List (Addr × Nat)) := fun q => nomatch q
theorem nwS {i i' : Nat} {L : List (Addr × Nat)} (q : a ≠ b ∨ i ≠ i') (r : (a, i) ∉ L) : (a, i) ∉ (b, i') :: L := fun y => by
  rcases List.mem_cons.mp y with u | u
  · obtain ⟨u1, u2⟩ := Prod.mk.inj u; exact q.elim (fun f => f u1) (fun f => f u2)
  · exact r u
theorem na0 {P : Addr × Nat → Prop} : ∀ w ∈ ([] : List (Addr × Nat)), P w := fun _ q => nomatch q
theorem naS {P : Addr × Nat → Prop} {x : Addr × Nat} {L : List (Addr × Nat)} (q : P x) (r : ∀ w ∈ L, P w) : ∀ w ∈ x :: L, P w := fun w y => by
  rcases List.mem_cons.mp y with u | u
  · exact u ▸ q
  · exact r w u
theorem kFld (K : KL h h' ws) (F : Fld Z h a C nm dd v) (q : (a, Jvm.RoadKit.slotOf Z C nm dd) ∉ ws) : Fld Z h' a C nm dd v := by
  obtain ⟨cell, cf, k, i, f, h1, h2, h3, h4, h5, h6, h7⟩ := F
  obtain ⟨c', e1, e2, e3, -, e5, -⟩ := K.2 a cell h1
  refine ⟨c', cf, k, i, f, e1, h2, h3, by rw [e3]; exact h4, by rw [e3]; exact h5, by rw [e2]; exact h6, ?_⟩
  rw [e5 f.slot (by simpa [Jvm.RoadKit.slotOf, h2] using q)]; exact h7
theorem kExa (K : KL h h' ws) (F : Exa Z h a C) : Exa Z h' a C := by
  obtain ⟨cell, k, h1, h2, h3, h4, h5⟩ := F
  obtain ⟨c', e1, e2, e3, e4, -⟩ := K.2 a cell h1
  exact ⟨c', k, e1, by rw [e2]; exact h2, by rw [e2]; exact h3, by rw [e3]; exact h4, by rw [e4]; exact h5⟩
theorem kArv (K : KL h h' ws) (F : Arv Z h a k ty z vs dv) (q : ∀ w ∈ ws, w.1 ≠ a) : Arv Z h' a k ty z vs dv := by
  obtain ⟨c, A, r⟩ := F
  obtain ⟨c', e1, -, -, -, -, e6⟩ := K.2 a c A.1
  exact ⟨c, ⟨(e6 q) ▸ e1, A.2⟩, r⟩
theorem kOld (K : KL h h' ws) (O : Old Z n0 h) (q : ∀ w ∈ ws, n0 ≤ w.1) : Old Z n0 h' := by
  refine ⟨O.1, Nat.le_trans O.2.1 K.1, fun x c hx => ?_⟩
  obtain ⟨c', e1, -, -, -, -, e6⟩ := K.2 x c (O.2.2 x c hx)
  have hlt : x < n0 := O.1 ▸ (Array.getElem?_eq_some_iff.mp hx).1
  rw [← e6 fun w hw e => absurd hlt (Nat.not_lt.mpr (e ▸ q w hw))]; exact e1
theorem lt_ne (q : a < h.size) (r : h.size ≤ b) : a ≠ b := Nat.ne_of_lt (Nat.lt_of_lt_of_le q r)
theorem own_wr {g : JFrame} {rest : List Value} {W : Nat} (q : g.monitorRoom = 0) (r : (rest.map fun v => v.category).sum = W) : 2 * g.monitorRoom + (rest.map fun v => v.category).sum ≤ W := by rw [q, r]; omega
theorem naO {x : Addr × Nat} {L : List (Addr × Nat)} (q : x ∈ ws ∨ sl ≤ x.1) (r : ∀ w ∈ L, w ∈ ws ∨ sl ≤ w.1) : ∀ w ∈ x :: L, w ∈ ws ∨ sl ≤ w.1 := naS (P := fun w => w ∈ ws ∨ sl ≤ w.1) q r
theorem naN {x : Addr × Nat} {L : List (Addr × Nat)} (q : x.1 ≠ a) (r : ∀ w ∈ L, w.1 ≠ a) : ∀ w ∈ x :: L, w.1 ≠ a := naS (P := fun w => w.1 ≠ a) q r
theorem own_mi {x : Addr × Nat} (i : Nat) (q : ws[i]? = some x) : x ∈ ws ∨ sl ≤ x.1 := Or.inl (List.mem_of_getElem? q)
theorem naB {P : Addr → Prop} {L : List (Addr × Nat)} (n : Nat) (e : (List.range n).map (fun i => (b, i)) = L) (q : P b) : ∀ w ∈ L, P w.1 := fun w hw => by
  rw [← e] at hw
  obtain ⟨i, -, rfl⟩ := List.mem_map.mp hw
  exact q
theorem naNB {L : List (Addr × Nat)} (n : Nat) (e : (List.range n).map (fun i => (b, i)) = L) (q : b ≠ a) : ∀ w ∈ L, w.1 ≠ a := naB (P := fun x => x ≠ a) n e q
theorem naOB {L : List (Addr × Nat)} (n : Nat) (e : (List.range n).map (fun i => (b, i)) = L) (q : sl ≤ b) : ∀ w ∈ L, w ∈ ws ∨ sl ≤ w.1 := fun w hw => Or.inr (naB (P := fun x => sl ≤ x) n e q w hw)
theorem nwB {i : Nat} {L : List (Addr × Nat)} (n : Nat) (e : (List.range n).map (fun i => (b, i)) = L) (q : a ≠ b) : (a, i) ∉ L := fun y => naB (P := fun x => x ≠ a) n e q.symm _ y rfl
theorem naM {Q : Addr × Nat → Prop} {L : List (Addr × Nat)} (n : Nat) (e : (L.take n).map Prod.fst = List.replicate n b) (q : ∀ i, Q (b, i)) (r : ∀ w ∈ L.drop n, Q w) : ∀ w ∈ L, Q w := fun w hw => by
  rw [← List.take_append_drop n L] at hw
  rcases List.mem_append.mp hw with u | u
  · have h1 := List.mem_map_of_mem (f := Prod.fst) u
    rw [e] at h1
    have h2 := List.eq_of_mem_replicate h1
    obtain ⟨x, i⟩ := w
    have h3 : x = b := h2
    rw [h3]; exact q i
  · exact r w u
theorem naNM {L : List (Addr × Nat)} (n : Nat) (e : (L.take n).map Prod.fst = List.replicate n b) (q : b ≠ a) (r : ∀ w ∈ L.drop n, w.1 ≠ a) : ∀ w ∈ L, w.1 ≠ a := naM (Q := fun w => w.1 ≠ a) n e (fun _ => q) r
theorem naOM {L : List (Addr × Nat)} (n : Nat) (e : (L.take n).map Prod.fst = List.replicate n b) (q : sl ≤ b) (r : ∀ w ∈ L.drop n, w ∈ ws ∨ sl ≤ w.1) : ∀ w ∈ L, w ∈ ws ∨ sl ≤ w.1 := naM (Q := fun w => w ∈ ws ∨ sl ≤ w.1) n e (fun _ => Or.inr q) r
theorem naGM {L : List (Addr × Nat)} (n : Nat) (e : (L.take n).map Prod.fst = List.replicate n b) (q : sl ≤ b) (r : ∀ w ∈ L.drop n, sl ≤ w.1) : ∀ w ∈ L, sl ≤ w.1 := naM (Q := fun w => sl ≤ w.1) n e (fun _ => q) r
theorem nwM {i : Nat} {L : List (Addr × Nat)} (n : Nat) (e : (L.take n).map Prod.fst = List.replicate n b) (q : a ≠ b) (r : (a, i) ∉ L.drop n) : (a, i) ∉ L := fun y => naM (Q := fun w => w ≠ (a, i)) n e (fun _ z => q (Prod.mk.inj z).1.symm) (fun w hw z => r (z ▸ hw)) _ y rfl
theorem own_retJ (X : Stand p l e R s m args below meth c T locs cells slots) (hx : p.tables.exec = Jvm.exec) {pc : Nat} {Ls : Array Slot} {z : Int64} {rest : List Value} (hret : meth.sig.returnType = some .long) (hd : decode c.code pc = .ok (.lreturn, 1)) {fs : List Frame}
    (hl : ∀ (f : JFrame) (acts : List Action), f.method = m → f.locked = none → f.entered = [] → (doReturn e (T.setTop f) acts (some (.long z))).1 = T.setFrames fs) : Steps p.tables e below (T.setTop (mkF m pc Ls (.long z :: rest))) (T.setFrames fs) := by
  have hm' : T.vm.method? m = some meth := X.method'
  show Steps p.tables e below (T.setTop { method := m, pc := pc, locals := Ls, stack := _ :: rest, locked := none }) _
  jvm_step X.here [X.here.top, hx, hd, hm', hret, narrow]
  first | (intro acts; rw [hl _ acts rfl rfl rfl]) | rw [hl _ _ rfl rfl rfl]
  exact Steps.refl _
theorem own_retD (X : Stand p l e R s m args below meth c T locs cells slots) (hx : p.tables.exec = Jvm.exec) {pc : Nat} {Ls : Array Slot} {z : UInt64} {rest : List Value} (hret : meth.sig.returnType = some .double) (hd : decode c.code pc = .ok (.dreturn, 1)) {fs : List Frame}
    (hl : ∀ (f : JFrame) (acts : List Action), f.method = m → f.locked = none → f.entered = [] → (doReturn e (T.setTop f) acts (some (.double z))).1 = T.setFrames fs) : Steps p.tables e below (T.setTop (mkF m pc Ls (.double z :: rest))) (T.setFrames fs) := by
  have hm' : T.vm.method? m = some meth := X.method'
  show Steps p.tables e below (T.setTop { method := m, pc := pc, locals := Ls, stack := _ :: rest, locked := none }) _
  jvm_step X.here [X.here.top, hx, hd, hm', hret, narrow]
  first | (intro acts; rw [hl _ acts rfl rfl rfl]) | rw [hl _ _ rfl rfl rfl]
  exact Steps.refl _
theorem own_nf {x0 y0 y : MethodName} (w : (Cond.selects C x0 y0).before args s = true) (hyy : y0.cls = y.cls) : NotFace s y := fun r0 h0 => by
  obtain ⟨_, _, m2, -, -, q3, -, kr, hkr, hni⟩ := Cond.selects_spec w
  have hc2 := findClass_of_methodNamed q3
  rw [hyy, findClass_of_methodNamed h0] at hc2
  rw [← Option.some.inj hc2] at hkr
  exact ⟨kr, hkr, hni⟩
theorem own_nsR {O K : String} {n : Nat} (w : (Cond.noSuperclass O).before a0 Z = true) (wk : (Cond.instantiable K n).before a0 Z = true) (hn : O ≠ K) : NS Z O K := by
  obtain ⟨c, k, h1, h2, h3, -, -⟩ := Cond.noSuperclass_spec w
  obtain ⟨t, k', g1, -⟩ := Cond.instantiable_spec wk
  have ne := ids_ne h1 g1 hn
  refine ⟨c, t, h1, g1, fun fuel => ?_⟩
  cases fuel with
  | zero => rfl
  | succ f => simp [Vm.isSubclassAux, ne, h2, h3]
theorem own_nsN {S K : String} {n : Nat} (w : (Cond.superclass C S).before a0 Z = true) (wk : (Cond.instantiable K n).before a0 Z = true) (q : NS Z C K) (hn : C ≠ K) : ∃ c t, Z.vm.findClass C = some c ∧ Z.vm.findClass K = some t ∧ Z.vm.assignable c t = false := by
  obtain ⟨c, t, h0, g0, n3⟩ := q
  obtain ⟨p, k, kp, h1, h2, h3, h4, h5, -, h7⟩ := Cond.superclass_spec h0 w
  obtain ⟨t', k', g1, g2, g5, g7, -⟩ := Cond.instantiable_spec wk
  cases g0.symm.trans g1
  have g8 : k'.isInterface = false := by
    cases hi : k'.isInterface with
    | false => rfl
    | true => simp [hi] at g7
  have ne := ids_ne h0 g0 hn
  refine ⟨c, t, h0, g0, ?_⟩
  show Z.vm.assignableAux (255 + 1) c t = false
  simp [Vm.assignableAux, ne, h2, g2, h5, g5, g8, Vm.isSubclass, n3]
theorem nfS {y : MethodName} (hZ : Z.Warmed39 s.vm) (w : (Cond.selects C y y).before a0 Z = true) : NotFace s y := notFace_of_selects (args := #[]) (mvT hZ w)
theorem own_static (X : Stand p l e R s m args below meth c T locs cells slots) (hx : p.tables.exec = Jvm.exec) (hZ : Z.Warmed39 s.vm) {own : String} {index : Nat} {y : MethodName} {bytes : ByteArray} {maxL : Nat} {ret : Option FieldType} {rm : Room} {Q : Option Value → Heap → List Loc → Prop} {as' : Array Value}
    (hown : s.vm.findClass own = some m.cls) (w1 : (Cond.methodLink own index y).before a0 Z = true) (w2 : (Cond.static y).before a0 Z = true) (w3 : (Cond.initialized y.cls).before a0 Z = true) (w4 : (Cond.code y bytes maxL ret).before a0 Z = true) (hy : y.cls ≠ "java/lang/invoke/MethodHandle" ∧ y.cls ≠ "java/lang/invoke/VarHandle")
    (hM : MetFree l y (head1 [Cond.code y bytes maxL ret] rm) (fun a U => a = as' ∧ Z.Warmed39 U.vm ∧ U.heap = h) (fun _ _ _ _ _ => True) (fun _ U o U' => ∃ v L, o = .returned v ∧ Q v U'.heap L ∧ FrameEnd U o U' L rm.cells rm.slots))
    (eT : T.heap = h) {W : Nat} (hR : rm.frames + 1 ≤ R.frames ∧ W + (maxL + 11) + rm.locals ≤ R.locals ∧ cells + rm.cells ≤ R.cells ∧ slots + rm.slots ≤ R.slots)
    {g : JFrame} (hg : g.method = m) (hsize : g.locals.size = c.maxLocals) {argsL rest : List Value} (hlen : ∀ sig, parseMethodDescriptor y.desc = some sig → argsL.length = sig.parameters.length) (hstack : g.stack = argsL.reverse ++ rest) (has : argsL.toArray = as') (hW : 2 * g.monitorRoom + (rest.map fun v => v.category).sum ≤ W) (hd : decode c.code g.pc = .ok (.invokestatic index, 3)) :
    ∃ (v : Option Value) (T' : State) (L : List Loc), Stand p l e R s m args below meth c T' (locs ++ L) (cells + rm.cells) (slots + rm.slots) ∧ Q v T'.heap L ∧ ∀ target, Steps p.tables e below (T'.setTop { g with pc := g.pc + 3, stack := v.toList ++ rest }) target → Steps p.tables e below (T.setTop g) target := by
  obtain ⟨v, _, ⟨T', L', k', n'⟩, -, X', ⟨L, hQ, l1, l2, l3⟩, st⟩ := Jvm.LawKit.callS X hx (y := y) hown (mvT hZ w1) (mvT hZ w2) (mvT hZ w3) (mvT hZ w4) hy (backOf (W := W) hM hZ w4 w3 hR.1 hR.2.1) (g := g) hg hsize (argsL := argsL) (rest := rest) hlen hstack hW hd (fun _ _ => ⟨has, eT, hR.2.2.1, hR.2.2.2⟩)
  dsimp only [Pt.U, Pt.locs, Pt.cells, Pt.slots] at X' l1 l2 l3 st hQ
  subst l1 l2 l3
  exact ⟨v, T', L, X', hQ, st⟩
theorem own_init (X : Stand p l e R s m args below meth c T locs cells slots) (hx : p.tables.exec = Jvm.exec) (hZ : Z.Warmed39 s.vm) {own : String} {index : Nat} {y : MethodName} {bytes : ByteArray} {maxL : Nat} {rm : Room} {Q : Option Value → Heap → List Loc → Prop} {as' : Array Value} (hy1 : y.name = "<init>")
    (hown : s.vm.findClass own = some m.cls) (w1 : (Cond.methodLink own index y).before a0 Z = true) (w2 : (Cond.instanceMethod y).before a0 Z = true) (w3 : (Cond.initialized y.cls).before a0 Z = true) (w4 : (Cond.code y bytes maxL none).before a0 Z = true) (hy : y.cls ≠ "java/lang/invoke/MethodHandle" ∧ y.cls ≠ "java/lang/invoke/VarHandle")
    (hM : MetFree l y (head1 [Cond.code y bytes maxL none] rm) (fun a U => a = as' ∧ Z.Warmed39 U.vm ∧ U.heap = h) (fun _ _ _ _ _ => True) (fun _ U o U' => ∃ v L, o = .returned v ∧ Q v U'.heap L ∧ FrameEnd U o U' L rm.cells rm.slots))
    (eT : T.heap = h) {W : Nat} (hR : rm.frames + 1 ≤ R.frames ∧ W + (maxL + 11) + rm.locals ≤ R.locals ∧ cells + rm.cells ≤ R.cells ∧ slots + rm.slots ≤ R.slots)
    {g : JFrame} (hg : g.method = m) (hsize : g.locals.size = c.maxLocals) {argsL rest : List Value} (hlen : ∀ sig, parseMethodDescriptor y.desc = some sig → argsL.length = sig.parameters.length) (hstack : g.stack = argsL.reverse ++ .ref a :: rest) (has : (.ref a :: argsL).toArray = as') (hW : 2 * g.monitorRoom + (rest.map fun v => v.category).sum ≤ W) (hd : decode c.code g.pc = .ok (.invokespecial index, 3)) :
    ∃ (v : Option Value) (T' : State) (L : List Loc), Stand p l e R s m args below meth c T' (locs ++ L) (cells + rm.cells) (slots + rm.slots) ∧ Q v T'.heap L ∧ ∀ target, Steps p.tables e below (T'.setTop { g with pc := g.pc + 3, stack := v.toList ++ rest }) target → Steps p.tables e below (T.setTop g) target := by
  obtain ⟨v, _, ⟨T', L', k', n'⟩, -, X', ⟨L, hQ, l1, l2, l3⟩, st⟩ := X.specialBack hx (y := y) hy1 hown (mvT hZ w1) (mvT hZ w2) (mvT hZ w4) hy (backOf (W := W) hM hZ w4 w3 hR.1 hR.2.1) (g := g) hg hsize (Steps.refl _) (a := a) (argsL := argsL) (rest := rest) hlen hstack hW hd (fun _ _ => ⟨has, eT, hR.2.2.1, hR.2.2.2⟩)
  dsimp only [Pt.U, Pt.locs, Pt.cells, Pt.slots] at X' l1 l2 l3 st hQ
  subst l1 l2 l3
  exact ⟨v, T', L, X', hQ, fun _ t => st.trans t⟩
theorem own_virtual (X : Stand p l e R s m args below meth c T locs cells slots) (hx : p.tables.exec = Jvm.exec) (hZ : Z.Warmed39 s.vm) {own : String} {index : Nat} {y z : MethodName} {bytes : ByteArray} {maxL : Nat} {ret : Option FieldType} {rm : Room} {Q : Option Value → Heap → List Loc → Prop} {as' : Array Value}
    (hown : s.vm.findClass own = some m.cls) (w1 : (Cond.methodLink own index y).before a0 Z = true) (w2 : (Cond.declares y).before a0 Z = true) (hnf : NotFace s y) (w5 : (Cond.selects C y z).before a0 Z = true) (w6 : (Cond.instanceMethod z).before a0 Z = true) (w3 : (Cond.initialized z.cls).before a0 Z = true) (w4 : (Cond.code z bytes maxL ret).before a0 Z = true) (hy : y.cls ≠ "java/lang/invoke/MethodHandle" ∧ y.cls ≠ "java/lang/invoke/VarHandle")
    (hM : MetFree l z (head1 [Cond.code z bytes maxL ret] rm) (fun a U => a = as' ∧ Z.Warmed39 U.vm ∧ U.heap = h) (fun _ _ _ _ _ => True) (fun _ U o U' => ∃ v L, o = .returned v ∧ Q v U'.heap L ∧ FrameEnd U o U' L rm.cells rm.slots))
    (eT : T.heap = h) (E : Exa Z h a C) {W : Nat} (hR : rm.frames + 1 ≤ R.frames ∧ W + (maxL + 11) + rm.locals ≤ R.locals ∧ cells + rm.cells ≤ R.cells ∧ slots + rm.slots ≤ R.slots)
    {g : JFrame} (hg : g.method = m) (hsize : g.locals.size = c.maxLocals) {argsL rest : List Value} (hlen : ∀ sig, parseMethodDescriptor y.desc = some sig → argsL.length = sig.parameters.length) (hstack : g.stack = argsL.reverse ++ .ref a :: rest) (has : (.ref a :: argsL).toArray = as') (hW : 2 * g.monitorRoom + (rest.map fun v => v.category).sum ≤ W) (hd : decode c.code g.pc = .ok (.invokevirtual index, 3)) :
    ∃ (v : Option Value) (T' : State) (L : List Loc), Stand p l e R s m args below meth c T' (locs ++ L) (cells + rm.cells) (slots + rm.slots) ∧ Q v T'.heap L ∧ ∀ target, Steps p.tables e below (T'.setTop { g with pc := g.pc + 3, stack := v.toList ++ rest }) target → Steps p.tables e below (T.setTop g) target := by
  obtain ⟨cq, kq, qa, qb, qc⟩ := isOf hZ eT E
  obtain ⟨v, _, ⟨T', L', k', n'⟩, -, X', ⟨L, hQ, l1, l2, l3⟩, st⟩ := X.virtualBack hx (y := y) (z := z) hown (mvT hZ w1) (mvT hZ w2) hnf (mvT hZ w5) (mvT hZ w6) hy (backOf (W := W) hM hZ w4 w3 hR.1 hR.2.1) qa qc (g := g) hg hsize (Steps.refl _) (argsL := argsL) (rest := rest) hlen hstack hW hd (fun _ _ => ⟨has, eT, hR.2.2.1, hR.2.2.2⟩)
  dsimp only [Pt.U, Pt.locs, Pt.cells, Pt.slots] at X' l1 l2 l3 st hQ
  subst l1 l2 l3
  exact ⟨v, T', L, X', hQ, fun _ t => st.trans t⟩
theorem own_private (X : Stand p l e R s m args below meth c T locs cells slots) (hx : p.tables.exec = Jvm.exec) (hZ : Z.Warmed39 s.vm) {own : String} {index : Nat} {y x0 y0 : MethodName} {bytes : ByteArray} {maxL : Nat} {ret : Option FieldType} {rm : Room} {Q : Option Value → Heap → List Loc → Prop} {as' : Array Value}
    (hown : s.vm.findClass own = some m.cls) (w1 : (Cond.methodLink own index y).before a0 Z = true) (w6 : (Cond.instanceMethod y).before a0 Z = true) (w5 : (Cond.selects C x0 y0).before a0 Z = true) (hyy : y0.cls = y.cls) (w7 : (Cond.privateMethod y).before a0 Z = true) (w3 : (Cond.initialized y.cls).before a0 Z = true) (w4 : (Cond.code y bytes maxL ret).before a0 Z = true) (hy : y.cls ≠ "java/lang/invoke/MethodHandle" ∧ y.cls ≠ "java/lang/invoke/VarHandle")
    (hM : MetFree l y (head1 [Cond.code y bytes maxL ret] rm) (fun a U => a = as' ∧ Z.Warmed39 U.vm ∧ U.heap = h) (fun _ _ _ _ _ => True) (fun _ U o U' => ∃ v L, o = .returned v ∧ Q v U'.heap L ∧ FrameEnd U o U' L rm.cells rm.slots))
    (eT : T.heap = h) (E : Exa Z h a nm) {W : Nat} (hR : rm.frames + 1 ≤ R.frames ∧ W + (maxL + 11) + rm.locals ≤ R.locals ∧ cells + rm.cells ≤ R.cells ∧ slots + rm.slots ≤ R.slots)
    {g : JFrame} (hg : g.method = m) (hsize : g.locals.size = c.maxLocals) {argsL rest : List Value} (hlen : ∀ sig, parseMethodDescriptor y.desc = some sig → argsL.length = sig.parameters.length) (hstack : g.stack = argsL.reverse ++ .ref a :: rest) (has : (.ref a :: argsL).toArray = as') (hW : 2 * g.monitorRoom + (rest.map fun v => v.category).sum ≤ W) (hd : decode c.code g.pc = .ok (.invokevirtual index, 3)) :
    ∃ (v : Option Value) (T' : State) (L : List Loc), Stand p l e R s m args below meth c T' (locs ++ L) (cells + rm.cells) (slots + rm.slots) ∧ Q v T'.heap L ∧ ∀ target, Steps p.tables e below (T'.setTop { g with pc := g.pc + 3, stack := v.toList ++ rest }) target → Steps p.tables e below (T.setTop g) target := by
  obtain ⟨cell, _, qa, -, -, qc, -⟩ := E
  obtain ⟨mk, methM, hnamed, hmethM, -, -⟩ := Cond.instanceMethod_spec (mvT hZ w6 : (Cond.instanceMethod y).before args _ = true)
  obtain ⟨_, _, m2, -, -, q3, -, kr, hkr, hni⟩ := Cond.selects_spec (mvT hZ w5 : (Cond.selects C x0 y0).before args _ = true)
  have hc2 := findClass_of_methodNamed q3
  rw [hyy] at hc2
  have hpr := Cond.privateMethod_at (mvT hZ w7 : (Cond.privateMethod y).before args _ = true)
  have hsel := Jvm.Stand.selects_self_of_private (args := args) hc2 hkr hni hpr (mvT hZ w6) hy
  obtain ⟨v, _, ⟨T', L', k', n'⟩, -, X', ⟨L, hQ, l1, l2, l3⟩, st⟩ := X.privateBack hx (y := y) hown (mvT hZ w1) (mvT hZ w6) hsel hpr (mvT hZ w4) hy (backOf (W := W) hM hZ w4 w3 hR.1 hR.2.1) (g := g) hg hsize (Steps.refl _) (a := a) (cell := cell) (by rw [eT]; exact qa) (fun q eq => by rw [eq] at qc; exact absurd qc (by simp [VmData.isStatics])) (argsL := argsL) (rest := rest) hlen hstack hW hd (fun _ _ => ⟨has, eT, hR.2.2.1, hR.2.2.2⟩)
  dsimp only [Pt.U, Pt.locs, Pt.cells, Pt.slots] at X' l1 l2 l3 st hQ
  subst l1 l2 l3
  exact ⟨v, T', L, X', hQ, fun _ t => st.trans t⟩
theorem own_super (X : Stand p l e R s m args below meth c T locs cells slots) (hx : p.tables.exec = Jvm.exec) (hZ : Z.Warmed39 s.vm) {own : String} {index : Nat} {y x0 y0 : MethodName} {bytes : ByteArray} {maxL : Nat} {ret : Option FieldType} {rm : Room} {Q : Option Value → Heap → List Loc → Prop} {as' : Array Value}
    (hown : s.vm.findClass own = some m.cls) (w1 : (Cond.methodLink own index y).before a0 Z = true) (w6 : (Cond.instanceMethod y).before a0 Z = true) (w5 : (Cond.selects C x0 y0).before a0 Z = true) (hyy : y0.cls = y.cls) (w8 : (Cond.superclass own y.cls).before a0 Z = true) (hyn : y.name ≠ "<init>") (w3 : (Cond.initialized y.cls).before a0 Z = true) (w4 : (Cond.code y bytes maxL ret).before a0 Z = true) (hy : y.cls ≠ "java/lang/invoke/MethodHandle" ∧ y.cls ≠ "java/lang/invoke/VarHandle")
    (hM : MetFree l y (head1 [Cond.code y bytes maxL ret] rm) (fun a U => a = as' ∧ Z.Warmed39 U.vm ∧ U.heap = h) (fun _ _ _ _ _ => True) (fun _ U o U' => ∃ v L, o = .returned v ∧ Q v U'.heap L ∧ FrameEnd U o U' L rm.cells rm.slots))
    (eT : T.heap = h) (E : Exa Z h a nm) {W : Nat} (hR : rm.frames + 1 ≤ R.frames ∧ W + (maxL + 11) + rm.locals ≤ R.locals ∧ cells + rm.cells ≤ R.cells ∧ slots + rm.slots ≤ R.slots)
    {g : JFrame} (hg : g.method = m) (hsize : g.locals.size = c.maxLocals) {argsL rest : List Value} (hlen : ∀ sig, parseMethodDescriptor y.desc = some sig → argsL.length = sig.parameters.length) (hstack : g.stack = argsL.reverse ++ .ref a :: rest) (has : (.ref a :: argsL).toArray = as') (hW : 2 * g.monitorRoom + (rest.map fun v => v.category).sum ≤ W) (hd : decode c.code g.pc = .ok (.invokespecial index, 3)) :
    ∃ (v : Option Value) (T' : State) (L : List Loc), Stand p l e R s m args below meth c T' (locs ++ L) (cells + rm.cells) (slots + rm.slots) ∧ Q v T'.heap L ∧ ∀ target, Steps p.tables e below (T'.setTop { g with pc := g.pc + 3, stack := v.toList ++ rest }) target → Steps p.tables e below (T.setTop g) target := by
  obtain ⟨mk, methM, hnamed, hmethM, -, -⟩ := Cond.instanceMethod_spec w6
  obtain ⟨_, _, m2, -, -, q3, -, kr, hkr, hni⟩ := Cond.selects_spec w5
  have hc2 := findClass_of_methodNamed q3
  rw [hyy, findClass_of_methodNamed hnamed] at hc2
  rw [← Option.some.inj hc2] at hkr
  have w2 : (Cond.sameMethod y.cls y.cls y.name y.desc).before a0 Z = true := by
    simp [Cond.before, Cond.holds, Cond.value, findClass_of_methodNamed hnamed, State.methodFound?_of_named hnamed hy, hnamed, hkr, hni]
  obtain ⟨v, _, ⟨T', L', k', n'⟩, -, X', ⟨L, hQ, l1, l2, l3⟩, st⟩ := superBack X hx hZ (y := y) hown w1 w2 w6 w8 hyn (backOf (W := W) hM hZ w4 w3 hR.1 hR.2.1) eT (Ins.self E) (g := g) hg hsize w4 (argsL := argsL) (rest := rest) hlen hstack hW hd (fun _ _ => ⟨has, eT, hR.2.2.1, hR.2.2.2⟩)
  dsimp only [Pt.U, Pt.locs, Pt.cells, Pt.slots] at X' l1 l2 l3 st hQ
  subst l1 l2 l3
  exact ⟨v, T', L, X', hQ, fun _ t => st.trans t⟩
theorem own_face (X : Stand p l e R s m args below meth c T locs cells slots) (hx : p.tables.exec = Jvm.exec) (hZ : Z.Warmed39 s.vm) {own : String} {index count : Nat} {y z : MethodName} {bytes : ByteArray} {maxL : Nat} {ret : Option FieldType} {rm : Room} {Q : Option Value → Heap → List Loc → Prop} {as' : Array Value}
    (hown : s.vm.findClass own = some m.cls) (w1 : (Cond.methodLink own index y).before a0 Z = true) (w2 : (Cond.declares y).before a0 Z = true) (wf : (Cond.interfaceMethod y.cls y.cls y.name y.desc).before args s = true) (w5 : (Cond.selects C y z).before a0 Z = true) (w6 : (Cond.instanceMethod z).before a0 Z = true) (w7 : (Cond.publicMethod z).before a0 Z = true) (w8 : (Cond.unhidden C y.name y.desc).before a0 Z = true) (w9 : (Cond.castable C y.cls).before a0 Z = true) (w3 : (Cond.initialized z.cls).before a0 Z = true) (w4 : (Cond.code z bytes maxL ret).before a0 Z = true) (hy : y.cls ≠ "java/lang/invoke/MethodHandle" ∧ y.cls ≠ "java/lang/invoke/VarHandle")
    (hM : MetFree l z (head1 [Cond.code z bytes maxL ret] rm) (fun a U => a = as' ∧ Z.Warmed39 U.vm ∧ U.heap = h) (fun _ _ _ _ _ => True) (fun _ U o U' => ∃ v L, o = .returned v ∧ Q v U'.heap L ∧ FrameEnd U o U' L rm.cells rm.slots))
    (eT : T.heap = h) (E : Exa Z h a C) {W : Nat} (hR : rm.frames + 1 ≤ R.frames ∧ W + (maxL + 11) + rm.locals ≤ R.locals ∧ cells + rm.cells ≤ R.cells ∧ slots + rm.slots ≤ R.slots)
    {g : JFrame} (hg : g.method = m) (hsize : g.locals.size = c.maxLocals) {argsL rest : List Value} (hlen : ∀ sig, parseMethodDescriptor y.desc = some sig → argsL.length = sig.parameters.length) (hstack : g.stack = argsL.reverse ++ .ref a :: rest) (has : (.ref a :: argsL).toArray = as') (hW : 2 * g.monitorRoom + (rest.map fun v => v.category).sum ≤ W) (hd : decode c.code g.pc = .ok (.invokeinterface index count, 5)) :
    ∃ (v : Option Value) (T' : State) (L : List Loc), Stand p l e R s m args below meth c T' (locs ++ L) (cells + rm.cells) (slots + rm.slots) ∧ Q v T'.heap L ∧ ∀ target, Steps p.tables e below (T'.setTop { g with pc := g.pc + 5, stack := v.toList ++ rest }) target → Steps p.tables e below (T.setTop g) target := by
  obtain ⟨cq, kq, qa, qb, qc⟩ := isOf hZ eT E
  obtain ⟨v, _, ⟨T', L', k', n'⟩, -, X', ⟨L, hQ, l1, l2, l3⟩, st⟩ := X.interfaceBack hx (xi := y) (y := z) hown (mvT hZ w1) (mvT hZ w2) wf (mvT hZ w5) (mvT hZ w6) (mvT hZ w7) (mvT hZ w8) (mvT hZ w9) hy (backOf (W := W) hM hZ w4 w3 hR.1 hR.2.1) qa qb qc (g := g) hg hsize (Steps.refl _) (argsL := argsL) (rest := rest) hlen hstack hW hd (fun _ _ => ⟨has, eT, hR.2.2.1, hR.2.2.2⟩)
  dsimp only [Pt.U, Pt.locs, Pt.cells, Pt.slots] at X' l1 l2 l3 st hQ
  subst l1 l2 l3
  exact ⟨v, T', L, X', hQ, fun _ t => st.trans t⟩
theorem own_mvR {U : State} {own O : String} {index : Nat} (hZ : Z.Warmed39 U.vm) (w : (Cond.fieldRef own index O nm dd).before a0 Z = true) : (Cond.fieldRef own index O nm dd).before args U = true := (Cond.fieldRef_warmed39 (s := Z) (vm' := U.vm) hZ w :)
theorem own_getFR (X : Stand p l e R s m args below meth c T locs cells slots) (hx : p.tables.exec = Jvm.exec) (hZ : Z.Warmed39 s.vm) {own O : String} {index : Nat} (hown : s.vm.findClass own = some m.cls) (w : (Cond.fieldRef own index O nm dd).before a0 Z = true)
    (eT : T.heap = h) (F : Fld Z h a O nm dd v) {g : JFrame} (hg : g.method = m) {rest : List Value} (hs : g.stack = .ref a :: rest) (hd : decode c.code g.pc = .ok (.getfield index, 3)) : ∃ T', Stand p l e R s m args below meth c T' locs cells slots ∧ T'.heap = h ∧ ∀ target, Steps p.tables e below (T'.setTop { g with pc := g.pc + 3, stack := v :: rest }) target → Steps p.tables e below (T.setTop g) target := by
  obtain ⟨cell, cf, k, i, f, h1, h2, h3, h4, -, -, h7⟩ := F
  have hZT : Z.Warmed39 T.vm := wtrans hZ X.warmed
  have hownT : T.vm.findClass own = some m.cls := by rw [X.warmed.alike.findClass]; exact hown
  obtain ⟨cf', k', i', f', g1, hready⟩ := Cond.fieldRef_spec hownT (own_mvR (args := args) hZT w)
  obtain ⟨k2, g2, -⟩ := State.fieldFound?_setVm (s := Z) hZT.alike h2
  cases (show T.fieldFound? O nm dd = _ from g2).symm.trans g1
  refine ⟨T, X, eT, fun target hrest => ?_⟩
  subst hg
  jvm_step X.here [hx, hd, getfield.wp_ready (e := e) (s := T) (f := g) X.here.top hready h3 hs (show T.heap[a]? = some cell by rw [eT]; exact h1) h4 h7]
  exact hrest
theorem own_putFR (X : Stand p l e R s m args below meth c T locs cells slots) (hx : p.tables.exec = Jvm.exec) (hZ : Z.Warmed39 s.vm) {own O : String} {index kk : Nat} (hown : s.vm.findClass own = some m.cls) (w : (Cond.fieldRef own index O nm dd).before a0 Z = true)
    (eT : T.heap = h) {old : Value} (F : Fld Z h a O nm dd old) (E : Exa Z h a C) (L : (Cond.lays C O nm dd).before a0 Z = true) (wi : (Cond.instantiable C kk).before a0 Z = true)
    (hty : parseFieldDescriptor dd = some ty) (hn : narrow ty v = v) (hf : fits ty v = true) {g : JFrame} (hg : g.method = m) {rest : List Value} (hs : g.stack = v :: .ref a :: rest) (hd : decode c.code g.pc = .ok (.putfield index, 3)) :
    ∃ T' h', Stand p l e R s m args below meth c T' (locs ++ [⟨a, Jvm.RoadKit.slotOf Z O nm dd⟩]) cells slots ∧ T'.heap = h' ∧ Wr h h' a (Jvm.RoadKit.slotOf Z O nm dd) v ∧ ∀ target, Steps p.tables e below (T'.setTop { g with pc := g.pc + 3, stack := rest }) target → Steps p.tables e below (T.setTop g) target := by
  obtain ⟨cell, cf, k, i, f, h1, h2, h3, h4, h5, -, h7⟩ := F
  obtain ⟨cell', kc, e1, e2, e3, -⟩ := E
  cases h1.symm.trans e1
  obtain ⟨c1, k1, cf1, kf1, i1, f1, a1, a2, a3, -, -, a6, -⟩ := Laid.spec (Or.inl L)
  cases h2.symm.trans a3
  cases e2.symm.trans a1
  obtain ⟨c2, k2, i1, i2, i3, -⟩ := Cond.instantiable_spec wi
  cases e2.symm.trans i1
  cases a2.symm.trans i2
  have ht := (State.fieldFound?_type h2 hty).2
  have hfit : Z.fitsSlot cell.cls cell.vm f.slot v = true := by
    have q : Z.slotType? cell.cls cell.vm f.slot = some ty := by
      simp only [State.slotType?, a2, Option.bind_eq_bind, Option.bind_some, i3]
      cases hq : cell.vm <;> first | (rw [hq] at h5; exact Bool.noConfusion h5) | (rw [a6, ht])
    simp [State.fitsSlot, q, hf]
  have hZT : Z.Warmed39 T.vm := wtrans hZ X.warmed
  have hfit' : T.fitsSlot cell.cls cell.vm f.slot v = true := by rw [← State.fitsSlot_setVm hZT.alike] at hfit; exact hfit
  have hfin : hasFlag f.accessFlags Acc.final = false := by
    obtain ⟨_, _, _, _, _, _, -, -, b3, -, b5, -⟩ := Cond.lays_spec L
    cases h2.symm.trans b3
    exact b5
  have hownT : T.vm.findClass own = some m.cls := by rw [X.warmed.alike.findClass]; exact hown
  obtain ⟨cf', k', i', f', g1, hready⟩ := Cond.fieldRef_spec hownT (own_mvR (args := args) hZT w)
  obtain ⟨k3, g2, -⟩ := State.fieldFound?_setVm (s := Z) hZT.alike h2
  cases (show T.fieldFound? O nm dd = _ from g2).symm.trans g1
  have hlt := (Array.getElem?_eq_some_iff.mp h7).1
  have es : Jvm.RoadKit.slotOf Z O nm dd = f.slot := by simp [Jvm.RoadKit.slotOf, h2]
  rw [es]
  obtain ⟨X', st⟩ := X.putfieldReady hx hready h3 (Or.inl hfin) (show T.heap[a]? = some cell by rw [eT]; exact h1) h4 hlt (by rw [ht]; exact hn) hfit' hg hs hd
  exact ⟨_, _, X', rfl, ⟨cell, h1, h5, hlt, by rw [← eT]; rfl⟩, st⟩
end Own
/-- a body's contract -/
abbrev MF (l : Launch) (Z : State) (y : MethodName) (bytes : ByteArray) (maxL : Nat) (ret : Option FieldType) (ws : List Jvm.Cond) (rm : Room) (as' : Array Value) (h0 : Heap) (Q : Option Value → Heap → List Loc → Prop) : Prop :=
  MetFree l y (head1 (Jvm.Cond.code y bytes maxL ret :: ws) rm) (fun a U => a = as' ∧ Z.Warmed39 U.vm ∧ U.heap = h0) (fun _ _ _ _ _ => True) (fun _ U o U' => ∃ v L, o = .returned v ∧ Q v U'.heap L ∧ FrameEnd U o U' L rm.cells rm.slots)
theorem own_body {l : Launch} {Z : State} {y : MethodName} {bytes : ByteArray} {maxL : Nat} {ret : Option FieldType} {ws : List Jvm.Cond} {rm : Room} {as' : Array Value} {h0 : Heap} {Q : Option Value → Heap → List Loc → Prop} {k n : Nat} {L0 : Array Slot} (hp : plainFor y = true) (hef : ∀ m, entryFrame m as' maxL = mkF m 0 L0 []) (hk : k ≤ rm.cells) (hn : n ≤ rm.slots)
    (H : ∀ (p : Program) (e : Env) (s : State) (m : MethodId) (below : List Frame) (meth : Method) (c : Code) (s₁ : State), p.tables.exec = Jvm.exec → c.code = bytes → c.maxLocals = maxL → s.vm.findClass y.cls = some m.cls → meth.name = y.name → meth.sig.returnType = ret → Z.Warmed39 s.vm → s.heap = h0 → s₁.heap = h0 → Stand p l e rm s m as' below meth c s₁ [] 0 0 →
      ∃ (T : State) (L : List Loc) (v : Option Value), Stand p l e rm s m as' below meth c T L k n ∧ (ret = none → v = none) ∧ Q v T.heap L ∧ ∀ fs, (∀ (f : JFrame) (acts : List Action), f.method = m → f.locked = none → f.entered = [] → (doReturn e (T.setTop f) acts v).1 = T.setFrames fs) → Steps p.tables e below (s₁.setTop (mkF m 0 L0 [])) (T.setFrames fs)) :
    MetFree l y (head1 (Jvm.Cond.code y bytes maxL ret :: ws) rm) (fun a U => a = as' ∧ Z.Warmed39 U.vm ∧ U.heap = h0) (fun _ _ _ _ _ => True) (fun _ U o U' => ∃ v L, o = .returned v ∧ Q v U'.heap L ∧ FrameEnd U o U' L k n) := by
  refine MetFree.of_bodySF hp hisR ?_
  intro p e s m args below meth c s₁ Bd hml0 hP hK
  obtain ⟨rfl, hZ, hh⟩ := hP
  have e0 : s₁.heap = h0 := by rw [← hh, Bd.state]; rfl
  have hnm := (name_of_methodNamed Bd.named Bd.method).1
  obtain ⟨T, L, v, X, hv, hQ, st⟩ := H p e s m below meth c s₁ Bd.exec Bd.bytes hml0 (findClass_of_methodNamed Bd.named) hnm Bd.returns hZ hh e0 (Stand.of_body Bd)
  obtain ⟨fs, hr, hrun, hended, hW, hsame⟩ := X.leave (v := v) (fun h => hv (Bd.returns.symm.trans h)) Bd.notSynchronized
  refine ⟨_, _, castTop (hef m) (st fs hr), hrun, hended, v, L, rfl, ?_, ⟨_, rfl⟩, hW, hsame⟩
  exact hQ
theorem own_law {l : Launch} {Z : State} {y : MethodName} {bytes : ByteArray} {maxL : Nat} {ret : Option FieldType} {ws : List Jvm.Cond} {rm : Room} {as' : Array Value} {h0 : Heap} {Q : Option Value → List Loc → Prop} {k n k' n' : Nat} {L0 : Array Slot} (hp : plainFor y = true) (hef : ∀ m, entryFrame m as' maxL = mkF m 0 L0 []) (hk : k ≤ k') (hn : n ≤ n')
    (H : ∀ (p : Program) (e : Env) (s : State) (m : MethodId) (below : List Frame) (meth : Method) (c : Code) (s₁ : State), p.tables.exec = Jvm.exec → c.code = bytes → c.maxLocals = maxL → s.vm.findClass y.cls = some m.cls → meth.name = y.name → meth.sig.returnType = ret → Z.Warmed39 s.vm → s.heap = h0 → s₁.heap = h0 → Stand p l e rm s m as' below meth c s₁ [] 0 0 →
      ∃ (T : State) (L : List Loc) (v : Option Value), Stand p l e rm s m as' below meth c T L k n ∧ (ret = none → v = none) ∧ Q v L ∧ ∀ fs, (∀ (f : JFrame) (acts : List Action), f.method = m → f.locked = none → f.entered = [] → (doReturn e (T.setTop f) acts v).1 = T.setFrames fs) → Steps p.tables e below (s₁.setTop (mkF m 0 L0 [])) (T.setFrames fs)) :
    MetFree l y (head1 (Jvm.Cond.code y bytes maxL ret :: ws) rm) (fun a U => a = as' ∧ Z.Warmed39 U.vm ∧ U.heap = h0) (fun _ _ _ _ _ => True) (fun _ U o U' => ∃ v L, o = .returned v ∧ Q v L ∧ FrameEnd U o U' L k' n') := by
  refine MetFree.of_bodySF hp hisR ?_
  intro p e s m args below meth c s₁ Bd hml0 hP hK
  obtain ⟨rfl, hZ, hh⟩ := hP
  have e0 : s₁.heap = h0 := by rw [← hh, Bd.state]; rfl
  have hnm := (name_of_methodNamed Bd.named Bd.method).1
  obtain ⟨T, L, v, X, hv, hQ, st⟩ := H p e s m below meth c s₁ Bd.exec Bd.bytes hml0 (findClass_of_methodNamed Bd.named) hnm Bd.returns hZ hh e0 (Stand.of_body Bd)
  obtain ⟨fs, hr, hrun, hended, hW, hsame⟩ := X.leave (v := v) (fun h => hv (Bd.returns.symm.trans h)) Bd.notSynchronized
  refine ⟨_, _, castTop (hef m) (st fs hr), hrun, hended, v, L, rfl, ?_, ⟨_, rfl⟩, hW, hsame.mono hk hn⟩
  exact hQ
section OwnS
variable {p : Program} {l : Launch} {e : Env} {R : Room} {s : State} {vm0 : Vm} {m : MethodId} {args : Array Value} {below : List Frame} {meth : Method} {c : Code} {T : State} {locs : List Loc} {cells slots : Nat} {Z : State} {a0 : Array Value} {h h' h0 : Heap} {a b : Addr} {C nm dd : String} {v w : Value} {sl n0 : Nat}
theorem own_since (s : State) : s.Since s.vm s.heap.size := (State.WarmedH.refl s).since _
theorem own_REmono {s t : State} {o : Outcome} {L : List Loc} {k n k' n' : Nat} (h : ReturnedEndW s o t L k n) (hk : k ≤ k') (hn : n ≤ n') : ReturnedEndW s o t L k' n' := ⟨h.1, h.2.1, h.2.2.1, h.2.2.2.mono hk hn⟩
theorem own_Sstatic (X : Stand p l e R (s.setVm vm0) m args below meth c T locs cells slots) (hx : p.tables.exec = Jvm.exec) (hZ : Z.Warmed39 vm0) {own : String} {index : Nat} {y : MethodName} {bytes : ByteArray} {maxL : Nat} {ret : Option FieldType} {rm : Room} {Q : Option Value → Heap → List Loc → Prop} {as' : Array Value}
    (hown : vm0.findClass own = some m.cls) (w1 : (Cond.methodLink own index y).before a0 Z = true) (w2 : (Cond.static y).before a0 Z = true) (w3 : (Cond.initialized y.cls).before a0 Z = true) (w4 : (Cond.code y bytes maxL ret).before a0 Z = true) (hy : y.cls ≠ "java/lang/invoke/MethodHandle" ∧ y.cls ≠ "java/lang/invoke/VarHandle")
    (hM : MetFree l y (head1 [Cond.code y bytes maxL ret] rm) (fun a U => a = as' ∧ Z.Warmed39 U.vm ∧ U.heap = h) (fun _ _ _ _ _ => True) (fun _ U o U' => ∃ v L, o = .returned v ∧ Q v U'.heap L ∧ ReturnedEndW U o U' L rm.cells rm.slots))
    (eT : T.heap = h) {W : Nat} (hR : rm.frames + 1 ≤ R.frames ∧ W + (maxL + 11) + rm.locals ≤ R.locals ∧ cells + rm.cells ≤ R.cells ∧ slots + rm.slots ≤ R.slots)
    {g : JFrame} (hg : g.method = m) (hsize : g.locals.size = c.maxLocals) {argsL rest : List Value} (hlen : ∀ sig, parseMethodDescriptor y.desc = some sig → argsL.length = sig.parameters.length) (hstack : g.stack = argsL.reverse ++ rest) (has : argsL.toArray = as') (hW : 2 * g.monitorRoom + (rest.map fun v => v.category).sum ≤ W) (hd : decode c.code g.pc = .ok (.invokestatic index, 3)) {k0 : Nat} (hS : s.Since vm0 k0) (hk : k0 ≤ h.size) :
    ∃ (v : Option Value) (T' : State) (L : List Loc), Stand p l e R (s.setVm T'.vm) m args below meth c T' (locs ++ L) (cells + rm.cells) (slots + rm.slots) ∧ s.Since T'.vm T'.heap.size ∧ T'.heap.size ≤ T'.heap.size ∧ Z.Warmed39 T'.vm ∧ T'.vm.findClass own = some m.cls ∧ Q v T'.heap L ∧ ∀ target, Steps p.tables e below (T'.setTop { g with pc := g.pc + 3, stack := v.toList ++ rest }) target → Steps p.tables e below (T.setTop g) target := by
  obtain ⟨v, _, ⟨T', L', k', n'⟩, -, X', hS', hg', ⟨L, hQ, l1, l2, l3⟩, st⟩ := callSS X hx (y := y) hown (mvT (s := s.setVm vm0) hZ w1) (mvT (s := s.setVm vm0) hZ w2) (mvT (s := s.setVm vm0) hZ w3) (mvT (s := s.setVm vm0) hZ w4) hy (backOfS (s := s.setVm vm0) (W := W) hM hZ w4 w3 hR.1 hR.2.1) (g := g) hg hsize (argsL := argsL) (rest := rest) hlen hstack hW hd (fun _ _ => ⟨has, eT, hR.2.2.1, hR.2.2.2⟩)
  dsimp only [Pt.U, Pt.locs, Pt.cells, Pt.slots] at X' hS' hg' l1 l2 l3 st hQ
  subst l1 l2 l3
  have q := hS.trans hS' (Nat.le_trans hk (by rw [← eT]; exact hg'))
  exact ⟨v, T', L, X', q, Nat.le_refl _, State.Warmed39.trans (t := s.setVm vm0) hZ hS'.1, by rw [hS'.1.alike.findClass]; exact hown, hQ, fun _ t => st.trans t⟩
theorem own_Sinit (X : Stand p l e R (s.setVm vm0) m args below meth c T locs cells slots) (hx : p.tables.exec = Jvm.exec) (hZ : Z.Warmed39 vm0) {own : String} {index : Nat} {y : MethodName} {bytes : ByteArray} {maxL : Nat} {rm : Room} {Q : Option Value → Heap → List Loc → Prop} {as' : Array Value} (hy1 : y.name = "<init>")
    (hown : vm0.findClass own = some m.cls) (w1 : (Cond.methodLink own index y).before a0 Z = true) (w2 : (Cond.instanceMethod y).before a0 Z = true) (w3 : (Cond.initialized y.cls).before a0 Z = true) (w4 : (Cond.code y bytes maxL none).before a0 Z = true) (hy : y.cls ≠ "java/lang/invoke/MethodHandle" ∧ y.cls ≠ "java/lang/invoke/VarHandle")
    (hM : MetFree l y (head1 [Cond.code y bytes maxL none] rm) (fun a U => a = as' ∧ Z.Warmed39 U.vm ∧ U.heap = h) (fun _ _ _ _ _ => True) (fun _ U o U' => ∃ v L, o = .returned v ∧ Q v U'.heap L ∧ ReturnedEndW U o U' L rm.cells rm.slots))
    (eT : T.heap = h) {W : Nat} (hR : rm.frames + 1 ≤ R.frames ∧ W + (maxL + 11) + rm.locals ≤ R.locals ∧ cells + rm.cells ≤ R.cells ∧ slots + rm.slots ≤ R.slots)
    {g : JFrame} (hg : g.method = m) (hsize : g.locals.size = c.maxLocals) {argsL rest : List Value} (hlen : ∀ sig, parseMethodDescriptor y.desc = some sig → argsL.length = sig.parameters.length) (hstack : g.stack = argsL.reverse ++ .ref a :: rest) (has : (.ref a :: argsL).toArray = as') (hW : 2 * g.monitorRoom + (rest.map fun v => v.category).sum ≤ W) (hd : decode c.code g.pc = .ok (.invokespecial index, 3)) {k0 : Nat} (hS : s.Since vm0 k0) (hk : k0 ≤ h.size) :
    ∃ (v : Option Value) (T' : State) (L : List Loc), Stand p l e R (s.setVm T'.vm) m args below meth c T' (locs ++ L) (cells + rm.cells) (slots + rm.slots) ∧ s.Since T'.vm T'.heap.size ∧ T'.heap.size ≤ T'.heap.size ∧ Z.Warmed39 T'.vm ∧ T'.vm.findClass own = some m.cls ∧ Q v T'.heap L ∧ ∀ target, Steps p.tables e below (T'.setTop { g with pc := g.pc + 3, stack := v.toList ++ rest }) target → Steps p.tables e below (T.setTop g) target := by
  obtain ⟨v, _, ⟨T', L', k', n'⟩, -, X', hS', hg', ⟨L, hQ, l1, l2, l3⟩, st⟩ := X.specialBackS hx (y := y) hy1 hown (mvT (s := s.setVm vm0) hZ w1) (mvT (s := s.setVm vm0) hZ w2) (mvT (s := s.setVm vm0) hZ w4) hy (backOfS (s := s.setVm vm0) (W := W) hM hZ w4 w3 hR.1 hR.2.1) (g := g) hg hsize (Steps.refl _) (a := a) (argsL := argsL) (rest := rest) hlen hstack hW hd (fun _ _ => ⟨has, eT, hR.2.2.1, hR.2.2.2⟩)
  dsimp only [Pt.U, Pt.locs, Pt.cells, Pt.slots] at X' hS' hg' l1 l2 l3 st hQ
  subst l1 l2 l3
  have q := hS.trans hS' (Nat.le_trans hk (by rw [← eT]; exact hg'))
  exact ⟨v, T', L, X', q, Nat.le_refl _, State.Warmed39.trans (t := s.setVm vm0) hZ hS'.1, by rw [hS'.1.alike.findClass]; exact hown, hQ, fun _ t => st.trans t⟩
theorem own_Svirtual (X : Stand p l e R (s.setVm vm0) m args below meth c T locs cells slots) (hx : p.tables.exec = Jvm.exec) (hZ : Z.Warmed39 vm0) {own : String} {index : Nat} {y z : MethodName} {bytes : ByteArray} {maxL : Nat} {ret : Option FieldType} {rm : Room} {Q : Option Value → Heap → List Loc → Prop} {as' : Array Value}
    (hown : vm0.findClass own = some m.cls) (w1 : (Cond.methodLink own index y).before a0 Z = true) (w2 : (Cond.declares y).before a0 Z = true) (hnf : NotFace (s.setVm vm0) y) (w5 : (Cond.selects C y z).before a0 Z = true) (w6 : (Cond.instanceMethod z).before a0 Z = true) (w3 : (Cond.initialized z.cls).before a0 Z = true) (w4 : (Cond.code z bytes maxL ret).before a0 Z = true) (hy : y.cls ≠ "java/lang/invoke/MethodHandle" ∧ y.cls ≠ "java/lang/invoke/VarHandle")
    (hM : MetFree l z (head1 [Cond.code z bytes maxL ret] rm) (fun a U => a = as' ∧ Z.Warmed39 U.vm ∧ U.heap = h) (fun _ _ _ _ _ => True) (fun _ U o U' => ∃ v L, o = .returned v ∧ Q v U'.heap L ∧ ReturnedEndW U o U' L rm.cells rm.slots))
    (eT : T.heap = h) (E : Exa Z h a C) {W : Nat} (hR : rm.frames + 1 ≤ R.frames ∧ W + (maxL + 11) + rm.locals ≤ R.locals ∧ cells + rm.cells ≤ R.cells ∧ slots + rm.slots ≤ R.slots)
    {g : JFrame} (hg : g.method = m) (hsize : g.locals.size = c.maxLocals) {argsL rest : List Value} (hlen : ∀ sig, parseMethodDescriptor y.desc = some sig → argsL.length = sig.parameters.length) (hstack : g.stack = argsL.reverse ++ .ref a :: rest) (has : (.ref a :: argsL).toArray = as') (hW : 2 * g.monitorRoom + (rest.map fun v => v.category).sum ≤ W) (hd : decode c.code g.pc = .ok (.invokevirtual index, 3)) {k0 : Nat} (hS : s.Since vm0 k0) (hk : k0 ≤ h.size) :
    ∃ (v : Option Value) (T' : State) (L : List Loc), Stand p l e R (s.setVm T'.vm) m args below meth c T' (locs ++ L) (cells + rm.cells) (slots + rm.slots) ∧ s.Since T'.vm T'.heap.size ∧ T'.heap.size ≤ T'.heap.size ∧ Z.Warmed39 T'.vm ∧ T'.vm.findClass own = some m.cls ∧ Q v T'.heap L ∧ ∀ target, Steps p.tables e below (T'.setTop { g with pc := g.pc + 3, stack := v.toList ++ rest }) target → Steps p.tables e below (T.setTop g) target := by
  obtain ⟨cq, kq, qa, qb, qc⟩ := isOf (s := s.setVm vm0) hZ eT E
  obtain ⟨v, _, ⟨T', L', k', n'⟩, -, X', hS', hg', ⟨L, hQ, l1, l2, l3⟩, st⟩ := X.virtualBackS hx (y := y) (z := z) hown (mvT (s := s.setVm vm0) hZ w1) (mvT (s := s.setVm vm0) hZ w2) hnf (mvT (s := s.setVm vm0) hZ w5) (mvT (s := s.setVm vm0) hZ w6) hy (backOfS (s := s.setVm vm0) (W := W) hM hZ w4 w3 hR.1 hR.2.1) qa qc (g := g) hg hsize (Steps.refl _) (argsL := argsL) (rest := rest) hlen hstack hW hd (fun _ _ => ⟨has, eT, hR.2.2.1, hR.2.2.2⟩)
  dsimp only [Pt.U, Pt.locs, Pt.cells, Pt.slots] at X' hS' hg' l1 l2 l3 st hQ
  subst l1 l2 l3
  have q := hS.trans hS' (Nat.le_trans hk (by rw [← eT]; exact hg'))
  exact ⟨v, T', L, X', q, Nat.le_refl _, State.Warmed39.trans (t := s.setVm vm0) hZ hS'.1, by rw [hS'.1.alike.findClass]; exact hown, hQ, fun _ t => st.trans t⟩
theorem own_Sprivate (X : Stand p l e R (s.setVm vm0) m args below meth c T locs cells slots) (hx : p.tables.exec = Jvm.exec) (hZ : Z.Warmed39 vm0) {own : String} {index : Nat} {y x0 y0 : MethodName} {bytes : ByteArray} {maxL : Nat} {ret : Option FieldType} {rm : Room} {Q : Option Value → Heap → List Loc → Prop} {as' : Array Value}
    (hown : vm0.findClass own = some m.cls) (w1 : (Cond.methodLink own index y).before a0 Z = true) (w6 : (Cond.instanceMethod y).before a0 Z = true) (w5 : (Cond.selects C x0 y0).before a0 Z = true) (hyy : y0.cls = y.cls) (w7 : (Cond.privateMethod y).before a0 Z = true) (w3 : (Cond.initialized y.cls).before a0 Z = true) (w4 : (Cond.code y bytes maxL ret).before a0 Z = true) (hy : y.cls ≠ "java/lang/invoke/MethodHandle" ∧ y.cls ≠ "java/lang/invoke/VarHandle")
    (hM : MetFree l y (head1 [Cond.code y bytes maxL ret] rm) (fun a U => a = as' ∧ Z.Warmed39 U.vm ∧ U.heap = h) (fun _ _ _ _ _ => True) (fun _ U o U' => ∃ v L, o = .returned v ∧ Q v U'.heap L ∧ ReturnedEndW U o U' L rm.cells rm.slots))
    (eT : T.heap = h) (E : Exa Z h a nm) {W : Nat} (hR : rm.frames + 1 ≤ R.frames ∧ W + (maxL + 11) + rm.locals ≤ R.locals ∧ cells + rm.cells ≤ R.cells ∧ slots + rm.slots ≤ R.slots)
    {g : JFrame} (hg : g.method = m) (hsize : g.locals.size = c.maxLocals) {argsL rest : List Value} (hlen : ∀ sig, parseMethodDescriptor y.desc = some sig → argsL.length = sig.parameters.length) (hstack : g.stack = argsL.reverse ++ .ref a :: rest) (has : (.ref a :: argsL).toArray = as') (hW : 2 * g.monitorRoom + (rest.map fun v => v.category).sum ≤ W) (hd : decode c.code g.pc = .ok (.invokevirtual index, 3)) {k0 : Nat} (hS : s.Since vm0 k0) (hk : k0 ≤ h.size) :
    ∃ (v : Option Value) (T' : State) (L : List Loc), Stand p l e R (s.setVm T'.vm) m args below meth c T' (locs ++ L) (cells + rm.cells) (slots + rm.slots) ∧ s.Since T'.vm T'.heap.size ∧ T'.heap.size ≤ T'.heap.size ∧ Z.Warmed39 T'.vm ∧ T'.vm.findClass own = some m.cls ∧ Q v T'.heap L ∧ ∀ target, Steps p.tables e below (T'.setTop { g with pc := g.pc + 3, stack := v.toList ++ rest }) target → Steps p.tables e below (T.setTop g) target := by
  obtain ⟨cell, _, qa, -, -, qc, -⟩ := E
  obtain ⟨mk, methM, hnamed, hmethM, -, -⟩ := Cond.instanceMethod_spec (mvT (s := s.setVm vm0) hZ w6 : (Cond.instanceMethod y).before args _ = true)
  obtain ⟨_, _, m2, -, -, q3, -, kr, hkr, hni⟩ := Cond.selects_spec (mvT (s := s.setVm vm0) hZ w5 : (Cond.selects C x0 y0).before args _ = true)
  have hc2 := findClass_of_methodNamed q3
  rw [hyy] at hc2
  have hpr := Cond.privateMethod_at (mvT (s := s.setVm vm0) hZ w7 : (Cond.privateMethod y).before args _ = true)
  have hsel := Jvm.Stand.selects_self_of_private (args := args) hc2 hkr hni hpr (mvT (s := s.setVm vm0) hZ w6) hy
  obtain ⟨v, _, ⟨T', L', k', n'⟩, -, X', hS', hg', ⟨L, hQ, l1, l2, l3⟩, st⟩ := X.privateBackS hx (y := y) hown (mvT (s := s.setVm vm0) hZ w1) (mvT (s := s.setVm vm0) hZ w6) hsel hpr (mvT (s := s.setVm vm0) hZ w4) hy (backOfS (s := s.setVm vm0) (W := W) hM hZ w4 w3 hR.1 hR.2.1) (g := g) hg hsize (Steps.refl _) (a := a) (cell := cell) (by rw [eT]; exact qa) (fun q eq => by rw [eq] at qc; exact absurd qc (by simp [VmData.isStatics])) (argsL := argsL) (rest := rest) hlen hstack hW hd (fun _ _ => ⟨has, eT, hR.2.2.1, hR.2.2.2⟩)
  dsimp only [Pt.U, Pt.locs, Pt.cells, Pt.slots] at X' hS' hg' l1 l2 l3 st hQ
  subst l1 l2 l3
  have q := hS.trans hS' (Nat.le_trans hk (by rw [← eT]; exact hg'))
  exact ⟨v, T', L, X', q, Nat.le_refl _, State.Warmed39.trans (t := s.setVm vm0) hZ hS'.1, by rw [hS'.1.alike.findClass]; exact hown, hQ, fun _ t => st.trans t⟩
theorem own_Ssuper (X : Stand p l e R (s.setVm vm0) m args below meth c T locs cells slots) (hx : p.tables.exec = Jvm.exec) (hZ : Z.Warmed39 vm0) {own : String} {index : Nat} {y x0 y0 : MethodName} {bytes : ByteArray} {maxL : Nat} {ret : Option FieldType} {rm : Room} {Q : Option Value → Heap → List Loc → Prop} {as' : Array Value}
    (hown : vm0.findClass own = some m.cls) (w1 : (Cond.methodLink own index y).before a0 Z = true) (w6 : (Cond.instanceMethod y).before a0 Z = true) (w5 : (Cond.selects C x0 y0).before a0 Z = true) (hyy : y0.cls = y.cls) (w8 : (Cond.superclass own y.cls).before a0 Z = true) (hyn : y.name ≠ "<init>") (w3 : (Cond.initialized y.cls).before a0 Z = true) (w4 : (Cond.code y bytes maxL ret).before a0 Z = true) (hy : y.cls ≠ "java/lang/invoke/MethodHandle" ∧ y.cls ≠ "java/lang/invoke/VarHandle")
    (hM : MetFree l y (head1 [Cond.code y bytes maxL ret] rm) (fun a U => a = as' ∧ Z.Warmed39 U.vm ∧ U.heap = h) (fun _ _ _ _ _ => True) (fun _ U o U' => ∃ v L, o = .returned v ∧ Q v U'.heap L ∧ ReturnedEndW U o U' L rm.cells rm.slots))
    (eT : T.heap = h) (E : Exa Z h a nm) {W : Nat} (hR : rm.frames + 1 ≤ R.frames ∧ W + (maxL + 11) + rm.locals ≤ R.locals ∧ cells + rm.cells ≤ R.cells ∧ slots + rm.slots ≤ R.slots)
    {g : JFrame} (hg : g.method = m) (hsize : g.locals.size = c.maxLocals) {argsL rest : List Value} (hlen : ∀ sig, parseMethodDescriptor y.desc = some sig → argsL.length = sig.parameters.length) (hstack : g.stack = argsL.reverse ++ .ref a :: rest) (has : (.ref a :: argsL).toArray = as') (hW : 2 * g.monitorRoom + (rest.map fun v => v.category).sum ≤ W) (hd : decode c.code g.pc = .ok (.invokespecial index, 3)) {k0 : Nat} (hS : s.Since vm0 k0) (hk : k0 ≤ h.size) :
    ∃ (v : Option Value) (T' : State) (L : List Loc), Stand p l e R (s.setVm T'.vm) m args below meth c T' (locs ++ L) (cells + rm.cells) (slots + rm.slots) ∧ s.Since T'.vm T'.heap.size ∧ T'.heap.size ≤ T'.heap.size ∧ Z.Warmed39 T'.vm ∧ T'.vm.findClass own = some m.cls ∧ Q v T'.heap L ∧ ∀ target, Steps p.tables e below (T'.setTop { g with pc := g.pc + 3, stack := v.toList ++ rest }) target → Steps p.tables e below (T.setTop g) target := by
  obtain ⟨mk, methM, hnamed, hmethM, -, -⟩ := Cond.instanceMethod_spec w6
  obtain ⟨_, _, m2, -, -, q3, -, kr, hkr, hni⟩ := Cond.selects_spec w5
  have hc2 := findClass_of_methodNamed q3
  rw [hyy, findClass_of_methodNamed hnamed] at hc2
  rw [← Option.some.inj hc2] at hkr
  have w2 : (Cond.sameMethod y.cls y.cls y.name y.desc).before a0 Z = true := by
    simp [Cond.before, Cond.holds, Cond.value, findClass_of_methodNamed hnamed, State.methodFound?_of_named hnamed hy, hnamed, hkr, hni]
  obtain ⟨v, _, ⟨T', L', k', n'⟩, -, X', hS', hg', ⟨L, hQ, l1, l2, l3⟩, st⟩ := superBackS (s := s.setVm vm0) X hx hZ (y := y) hown w1 w2 w6 w8 hyn (backOfS (s := s.setVm vm0) (W := W) hM hZ w4 w3 hR.1 hR.2.1) eT (Ins.self E) (g := g) hg hsize w4 (argsL := argsL) (rest := rest) hlen hstack hW hd (fun _ _ => ⟨has, eT, hR.2.2.1, hR.2.2.2⟩)
  dsimp only [Pt.U, Pt.locs, Pt.cells, Pt.slots] at X' hS' hg' l1 l2 l3 st hQ
  subst l1 l2 l3
  have q := hS.trans hS' (Nat.le_trans hk (by rw [← eT]; exact hg'))
  exact ⟨v, T', L, X', q, Nat.le_refl _, State.Warmed39.trans (t := s.setVm vm0) hZ hS'.1, by rw [hS'.1.alike.findClass]; exact hown, hQ, fun _ t => st.trans t⟩
theorem own_Sface (X : Stand p l e R (s.setVm vm0) m args below meth c T locs cells slots) (hx : p.tables.exec = Jvm.exec) (hZ : Z.Warmed39 vm0) {own : String} {index count : Nat} {y z : MethodName} {bytes : ByteArray} {maxL : Nat} {ret : Option FieldType} {rm : Room} {Q : Option Value → Heap → List Loc → Prop} {as' : Array Value}
    (hown : vm0.findClass own = some m.cls) (w1 : (Cond.methodLink own index y).before a0 Z = true) (w2 : (Cond.declares y).before a0 Z = true) (wf : (Cond.interfaceMethod y.cls y.cls y.name y.desc).before args (s.setVm vm0) = true) (w5 : (Cond.selects C y z).before a0 Z = true) (w6 : (Cond.instanceMethod z).before a0 Z = true) (w7 : (Cond.publicMethod z).before a0 Z = true) (w8 : (Cond.unhidden C y.name y.desc).before a0 Z = true) (w9 : (Cond.castable C y.cls).before a0 Z = true) (w3 : (Cond.initialized z.cls).before a0 Z = true) (w4 : (Cond.code z bytes maxL ret).before a0 Z = true) (hy : y.cls ≠ "java/lang/invoke/MethodHandle" ∧ y.cls ≠ "java/lang/invoke/VarHandle")
    (hM : MetFree l z (head1 [Cond.code z bytes maxL ret] rm) (fun a U => a = as' ∧ Z.Warmed39 U.vm ∧ U.heap = h) (fun _ _ _ _ _ => True) (fun _ U o U' => ∃ v L, o = .returned v ∧ Q v U'.heap L ∧ ReturnedEndW U o U' L rm.cells rm.slots))
    (eT : T.heap = h) (E : Exa Z h a C) {W : Nat} (hR : rm.frames + 1 ≤ R.frames ∧ W + (maxL + 11) + rm.locals ≤ R.locals ∧ cells + rm.cells ≤ R.cells ∧ slots + rm.slots ≤ R.slots)
    {g : JFrame} (hg : g.method = m) (hsize : g.locals.size = c.maxLocals) {argsL rest : List Value} (hlen : ∀ sig, parseMethodDescriptor y.desc = some sig → argsL.length = sig.parameters.length) (hstack : g.stack = argsL.reverse ++ .ref a :: rest) (has : (.ref a :: argsL).toArray = as') (hW : 2 * g.monitorRoom + (rest.map fun v => v.category).sum ≤ W) (hd : decode c.code g.pc = .ok (.invokeinterface index count, 5)) {k0 : Nat} (hS : s.Since vm0 k0) (hk : k0 ≤ h.size) :
    ∃ (v : Option Value) (T' : State) (L : List Loc), Stand p l e R (s.setVm T'.vm) m args below meth c T' (locs ++ L) (cells + rm.cells) (slots + rm.slots) ∧ s.Since T'.vm T'.heap.size ∧ T'.heap.size ≤ T'.heap.size ∧ Z.Warmed39 T'.vm ∧ T'.vm.findClass own = some m.cls ∧ Q v T'.heap L ∧ ∀ target, Steps p.tables e below (T'.setTop { g with pc := g.pc + 5, stack := v.toList ++ rest }) target → Steps p.tables e below (T.setTop g) target := by
  obtain ⟨cq, kq, qa, qb, qc⟩ := isOf (s := s.setVm vm0) hZ eT E
  obtain ⟨v, _, ⟨T', L', k', n'⟩, -, X', hS', hg', ⟨L, hQ, l1, l2, l3⟩, st⟩ := X.interfaceBackS hx (xi := y) (y := z) hown (mvT (s := s.setVm vm0) hZ w1) (mvT (s := s.setVm vm0) hZ w2) wf (mvT (s := s.setVm vm0) hZ w5) (mvT (s := s.setVm vm0) hZ w6) (mvT (s := s.setVm vm0) hZ w7) (mvT (s := s.setVm vm0) hZ w8) (mvT (s := s.setVm vm0) hZ w9) hy (backOfS (s := s.setVm vm0) (W := W) hM hZ w4 w3 hR.1 hR.2.1) qa qb qc (g := g) hg hsize (Steps.refl _) (argsL := argsL) (rest := rest) hlen hstack hW hd (fun _ _ => ⟨has, eT, hR.2.2.1, hR.2.2.2⟩)
  dsimp only [Pt.U, Pt.locs, Pt.cells, Pt.slots] at X' hS' hg' l1 l2 l3 st hQ
  subst l1 l2 l3
  have q := hS.trans hS' (Nat.le_trans hk (by rw [← eT]; exact hg'))
  exact ⟨v, T', L, X', q, Nat.le_refl _, State.Warmed39.trans (t := s.setVm vm0) hZ hS'.1, by rw [hS'.1.alike.findClass]; exact hown, hQ, fun _ t => st.trans t⟩
end OwnS
abbrev MFS (l : Launch) (Z : State) (y : MethodName) (bytes : ByteArray) (maxL : Nat) (ret : Option FieldType) (ws : List Jvm.Cond) (rm : Room) (as' : Array Value) (h0 : Heap) (Q : Option Value → Heap → List Loc → Prop) : Prop :=
  MetFree l y (head1 (Jvm.Cond.code y bytes maxL ret :: ws) rm) (fun a U => a = as' ∧ Z.Warmed39 U.vm ∧ U.heap = h0) (fun _ _ _ _ _ => True) (fun _ U o U' => ∃ v L, o = .returned v ∧ Q v U'.heap L ∧ ReturnedEndW U o U' L rm.cells rm.slots)
theorem own_bodyS {l : Launch} {Z : State} {y : MethodName} {bytes : ByteArray} {maxL : Nat} {ret : Option FieldType} {ws : List Jvm.Cond} {rm : Room} {as' : Array Value} {h0 : Heap} {Q : Option Value → Heap → List Loc → Prop} {k n k' n' : Nat} {L0 : Array Slot} (hp : plainFor y = true) (hef : ∀ m, entryFrame m as' maxL = mkF m 0 L0 []) (hk : k ≤ k') (hn : n ≤ n')
    (H : ∀ (p : Program) (e : Env) (s : State) (m : MethodId) (below : List Frame) (meth : Method) (c : Code) (s₁ : State), p.tables.exec = Jvm.exec → c.code = bytes → c.maxLocals = maxL → s.vm.findClass y.cls = some m.cls → meth.name = y.name → meth.sig.returnType = ret → Z.Warmed39 s.vm → s₁.heap = h0 → s.Since s.vm s.heap.size → s.heap.size ≤ h0.size → Stand p l e rm (s.setVm s.vm) m as' below meth c s₁ [] 0 0 →
      ∃ (T : State) (L : List Loc) (v : Option Value) (vm1 : Vm) (n1 : Nat), Stand p l e rm (s.setVm vm1) m as' below meth c T L k n ∧ s.Since vm1 n1 ∧ n1 ≤ T.heap.size ∧ (ret = none → v = none) ∧ Q v T.heap L ∧ ∀ fs, (∀ (f : JFrame) (acts : List Action), f.method = m → f.locked = none → f.entered = [] → (doReturn e (T.setTop f) acts v).1 = T.setFrames fs) → Steps p.tables e below (s₁.setTop (mkF m 0 L0 [])) (T.setFrames fs)) :
    MetFree l y (head1 (Jvm.Cond.code y bytes maxL ret :: ws) rm) (fun a U => a = as' ∧ Z.Warmed39 U.vm ∧ U.heap = h0) (fun _ _ _ _ _ => True) (fun _ U o U' => ∃ v L, o = .returned v ∧ Q v U'.heap L ∧ ReturnedEndW U o U' L k' n') := by
  refine MetFree.of_bodySF hp hisR ?_
  intro p e s m args below meth c s₁ Bd hml0 hP hK
  obtain ⟨rfl, hZ, hh⟩ := hP
  have e0 : s₁.heap = h0 := by rw [← hh, Bd.state]; rfl
  have hnm := (name_of_methodNamed Bd.named Bd.method).1
  obtain ⟨T, L, v, vm1, n1, X, hS, hn1, hv, hQ, st⟩ := H p e s m below meth c s₁ Bd.exec Bd.bytes hml0 (findClass_of_methodNamed Bd.named) hnm Bd.returns hZ e0 (own_since s) (Nat.le_of_eq (congrArg Array.size hh)) (Stand.of_body Bd)
  obtain ⟨fs, hr, hrun, hended, hRE⟩ := X.leaveW hS hn1 (v := v) (fun h => hv (Bd.returns.symm.trans h)) Bd.notSynchronized
  exact ⟨_, _, castTop (hef m) (st fs hr), hrun, hended, v, L, rfl, hQ, own_REmono hRE hk hn⟩
section OwnH
variable {p : Program} {l : Launch} {e : Env} {R : Room} {s : State} {vm0 vm : Vm} {m : MethodId} {args : Array Value} {below : List Frame} {meth : Method} {c : Code} {T : State} {locs : List Loc} {cells slots : Nat} {Z : State} {a0 : Array Value} {h h' h0 : Heap} {a b : Addr} {C nm dd : String} {v w : Value} {sl n0 : Nat} {EL : List (String × Nat)}
theorem own_chK {ws : List (Addr × Nat)} (K : KL h h' ws) (hs : ∀ w ∈ ws, Safe Z EL vm h w.1) (H : CHv Z EL vm h) : CHr Z EL vm h vm h' ∧ ∀ x, Safe Z EL vm h x → Safe Z EL vm h' x := by
  have q := H.step (h' := h') (fun y B cell hy => by
    obtain ⟨c', r1, -, -, -, -, r6⟩ := K.2 y cell hy
    rw [r1, r6 fun w hw e => hs w hw (by rw [e]; exact B)])
  exact ⟨⟨q.1, K.1, fun y b => Or.inl (q.2 y b)⟩, fun x S B => S (q.2 x B)⟩
theorem sf0 {P : Addr → Prop} : ∀ x ∈ ([] : List Addr), P x := fun _ q => nomatch q
theorem sfS {x : Addr} {L : List Addr} (q1 : Safe Z EL vm h x) (q2 : x < h.size) (r : ∀ y ∈ L, Safe Z EL vm h y ∧ y < h.size) : ∀ y ∈ x :: L, Safe Z EL vm h y ∧ y < h.size := fun y hy => by
  rcases List.mem_cons.mp hy with u | u
  · exact u ▸ ⟨q1, q2⟩
  · exact r y u
theorem own_backH {y : MethodName} {bytes : ByteArray} {maxL : Nat} {ret : Option FieldType} {rm : Room} {len W : Nat} {as' : Array Value} {SF : List Addr} {Q : Option Value → Heap → List Loc → Prop}
    (hM : MetFree l y (head1 [Cond.code y bytes maxL ret] rm) (fun a U => a = as' ∧ Z.Warmed39 U.vm ∧ U.heap = h ∧ CHv Z EL U.vm h ∧ ∀ x ∈ SF, Safe Z EL U.vm h x) (fun _ _ _ _ _ => True) (fun _ U o U' => ∃ v L, o = .returned v ∧ Q v U'.heap L ∧ CHr Z EL U.vm U.heap U'.vm U'.heap ∧ ReturnedEndW U o U' L rm.cells rm.slots))
    (hZ : Z.Warmed39 vm0) (wc : (Cond.code y bytes maxL ret).before a0 Z = true) (wz : (Cond.initialized y.cls).before a0 Z = true) (hf : rm.frames + 1 ≤ R.frames) (hl : W + (maxL + 11) + rm.locals ≤ R.locals) (hEL : EW Z a0 EL) (H : CHv Z EL vm0 h) (hSF : ∀ x ∈ SF, Safe Z EL vm0 h x ∧ x < h.size) :
    BackS l R p e below (s.setVm vm0) args y len W (fun A a => a = as' ∧ A.U.heap = h ∧ A.cells + rm.cells ≤ R.cells ∧ A.slots + rm.slots ≤ R.slots)
      (fun A _ v B => ∃ L, Q v B.U.heap L ∧ B.locs = A.locs ++ L ∧ B.cells = A.cells + rm.cells ∧ B.slots = A.slots + rm.slots ∧ CHr Z EL vm0 h B.U.vm B.U.heap) := by
  refine BackS.of_freeW (bytes := bytes) (maxL := maxL) (ret := ret) (E := fun _ first o t L k n => k = rm.cells ∧ n = rm.slots ∧ (∃ v, o = .returned v ∧ Q v t.heap L) ∧ CHr Z EL first.vm first.heap t.vm t.heap) hM hf hl ?_ ?_ (fun _ _ _ _ _ _ _ _ _ => trivial) ?_ ?_
  · intro m meth c A a Y hp
    have hU : Z.Warmed39 A.U.vm := wtrans (s := s.setVm vm0) hZ Y.warmed
    exact ⟨by show (Cond.and _ .tt).before a A.U = true; rw [Cond.before_and, mv hU wc]; rfl, mv hU wc, mv hU wz, hp.2.2.1, hp.2.2.2⟩
  · intro m meth c A a g mk Y hp
    have q := CHv.at Y hZ hEL H
    exact ⟨hp.1, wtrans (s := s.setVm vm0) hZ Y.warmed, hp.2.1, q.1, fun x hx => q.safe (hSF x hx).2 (hSF x hx).1⟩
  · intro _ _ _ _ ⟨v, L, h1, h2, h3, h4⟩
    exact ⟨L, _, _, h4, rfl, rfl, ⟨v, h1, h2⟩, h3⟩
  · intro m meth c A a g mk v t L k n Y hp _ _ ⟨e1, e2, ⟨v', e3, e4⟩, e5⟩
    cases e3; subst e1 e2
    refine ⟨L, e4, rfl, rfl, rfl, (CHv.at Y hZ hEL H).trans ?_⟩
    rw [← hp.2.1]; exact e5
theorem naF {x : Addr × Nat} {L : List (Addr × Nat)} (q : Safe Z EL vm h x.1) (r : ∀ w ∈ L, Safe Z EL vm h w.1) : ∀ w ∈ x :: L, Safe Z EL vm h w.1 := naS (P := fun w => Safe Z EL vm h w.1) q r
theorem naFB {L : List (Addr × Nat)} (n : Nat) (e : (List.range n).map (fun i => (b, i)) = L) (q : Safe Z EL vm h b) : ∀ w ∈ L, Safe Z EL vm h w.1 := naB (P := fun x => Safe Z EL vm h x) n e q
theorem naFM {L : List (Addr × Nat)} (n : Nat) (e : (L.take n).map Prod.fst = List.replicate n b) (q : Safe Z EL vm h b) (r : ∀ w ∈ L.drop n, Safe Z EL vm h w.1) : ∀ w ∈ L, Safe Z EL vm h w.1 := naM (Q := fun w => Safe Z EL vm h w.1) n e (fun _ => q) r
theorem own_Hstatic (X : Stand p l e R (s.setVm vm0) m args below meth c T locs cells slots) (hx : p.tables.exec = Jvm.exec) (hZ : Z.Warmed39 vm0) {own : String} {index : Nat} {y : MethodName} {bytes : ByteArray} {maxL : Nat} {ret : Option FieldType} {rm : Room} {Q : Option Value → Heap → List Loc → Prop} {as' : Array Value} {SF : List Addr}
    (hown : vm0.findClass own = some m.cls) (w1 : (Cond.methodLink own index y).before a0 Z = true) (w2 : (Cond.static y).before a0 Z = true) (w3 : (Cond.initialized y.cls).before a0 Z = true) (w4 : (Cond.code y bytes maxL ret).before a0 Z = true) (hy : y.cls ≠ "java/lang/invoke/MethodHandle" ∧ y.cls ≠ "java/lang/invoke/VarHandle")
    (hM : MetFree l y (head1 [Cond.code y bytes maxL ret] rm) (fun a U => a = as' ∧ Z.Warmed39 U.vm ∧ U.heap = h ∧ CHv Z EL U.vm h ∧ ∀ x ∈ SF, Safe Z EL U.vm h x) (fun _ _ _ _ _ => True) (fun _ U o U' => ∃ v L, o = .returned v ∧ Q v U'.heap L ∧ CHr Z EL U.vm U.heap U'.vm U'.heap ∧ ReturnedEndW U o U' L rm.cells rm.slots))
    (eT : T.heap = h) {W : Nat} (hR : rm.frames + 1 ≤ R.frames ∧ W + (maxL + 11) + rm.locals ≤ R.locals ∧ cells + rm.cells ≤ R.cells ∧ slots + rm.slots ≤ R.slots)
    {g : JFrame} (hg : g.method = m) (hsize : g.locals.size = c.maxLocals) {argsL rest : List Value} (hlen : ∀ sig, parseMethodDescriptor y.desc = some sig → argsL.length = sig.parameters.length) (hstack : g.stack = argsL.reverse ++ rest) (has : argsL.toArray = as') (hW : 2 * g.monitorRoom + (rest.map fun v => v.category).sum ≤ W) (hd : decode c.code g.pc = .ok (.invokestatic index, 3)) {k0 : Nat} (hS : s.Since vm0 k0) (hk : k0 ≤ h.size) (hEL : EW Z a0 EL) (H : CHv Z EL vm0 h) (hSF : ∀ x ∈ SF, Safe Z EL vm0 h x ∧ x < h.size) :
    ∃ (v : Option Value) (T' : State) (L : List Loc), Stand p l e R (s.setVm T'.vm) m args below meth c T' (locs ++ L) (cells + rm.cells) (slots + rm.slots) ∧ s.Since T'.vm T'.heap.size ∧ T'.heap.size ≤ T'.heap.size ∧ Z.Warmed39 T'.vm ∧ T'.vm.findClass own = some m.cls ∧ Q v T'.heap L ∧ CHr Z EL vm0 h T'.vm T'.heap ∧ ∀ target, Steps p.tables e below (T'.setTop { g with pc := g.pc + 3, stack := v.toList ++ rest }) target → Steps p.tables e below (T.setTop g) target := by
  obtain ⟨v, _, ⟨T', L', k', n'⟩, -, X', hS', hg', ⟨L, hQ, l1, l2, l3, hC⟩, st⟩ := callSS X hx (y := y) hown (mvT (s := s.setVm vm0) hZ w1) (mvT (s := s.setVm vm0) hZ w2) (mvT (s := s.setVm vm0) hZ w3) (mvT (s := s.setVm vm0) hZ w4) hy (own_backH (s := s) (W := W) hM hZ w4 w3 hR.1 hR.2.1 hEL H hSF) (g := g) hg hsize (argsL := argsL) (rest := rest) hlen hstack hW hd (fun _ _ => ⟨has, eT, hR.2.2.1, hR.2.2.2⟩)
  dsimp only [Pt.U, Pt.locs, Pt.cells, Pt.slots] at X' hS' hg' l1 l2 l3 st hQ hC
  subst l1 l2 l3
  have q := hS.trans hS' (Nat.le_trans hk (by rw [← eT]; exact hg'))
  exact ⟨v, T', L, X', q, Nat.le_refl _, State.Warmed39.trans (t := s.setVm vm0) hZ hS'.1, by rw [hS'.1.alike.findClass]; exact hown, hQ, hC, fun _ t => st.trans t⟩
theorem own_Hinit (X : Stand p l e R (s.setVm vm0) m args below meth c T locs cells slots) (hx : p.tables.exec = Jvm.exec) (hZ : Z.Warmed39 vm0) {own : String} {index : Nat} {y : MethodName} {bytes : ByteArray} {maxL : Nat} {rm : Room} {Q : Option Value → Heap → List Loc → Prop} {as' : Array Value} {SF : List Addr} (hy1 : y.name = "<init>")
    (hown : vm0.findClass own = some m.cls) (w1 : (Cond.methodLink own index y).before a0 Z = true) (w2 : (Cond.instanceMethod y).before a0 Z = true) (w3 : (Cond.initialized y.cls).before a0 Z = true) (w4 : (Cond.code y bytes maxL none).before a0 Z = true) (hy : y.cls ≠ "java/lang/invoke/MethodHandle" ∧ y.cls ≠ "java/lang/invoke/VarHandle")
    (hM : MetFree l y (head1 [Cond.code y bytes maxL none] rm) (fun a U => a = as' ∧ Z.Warmed39 U.vm ∧ U.heap = h ∧ CHv Z EL U.vm h ∧ ∀ x ∈ SF, Safe Z EL U.vm h x) (fun _ _ _ _ _ => True) (fun _ U o U' => ∃ v L, o = .returned v ∧ Q v U'.heap L ∧ CHr Z EL U.vm U.heap U'.vm U'.heap ∧ ReturnedEndW U o U' L rm.cells rm.slots))
    (eT : T.heap = h) {W : Nat} (hR : rm.frames + 1 ≤ R.frames ∧ W + (maxL + 11) + rm.locals ≤ R.locals ∧ cells + rm.cells ≤ R.cells ∧ slots + rm.slots ≤ R.slots)
    {g : JFrame} (hg : g.method = m) (hsize : g.locals.size = c.maxLocals) {argsL rest : List Value} (hlen : ∀ sig, parseMethodDescriptor y.desc = some sig → argsL.length = sig.parameters.length) (hstack : g.stack = argsL.reverse ++ .ref a :: rest) (has : (.ref a :: argsL).toArray = as') (hW : 2 * g.monitorRoom + (rest.map fun v => v.category).sum ≤ W) (hd : decode c.code g.pc = .ok (.invokespecial index, 3)) {k0 : Nat} (hS : s.Since vm0 k0) (hk : k0 ≤ h.size) (hEL : EW Z a0 EL) (H : CHv Z EL vm0 h) (hSF : ∀ x ∈ SF, Safe Z EL vm0 h x ∧ x < h.size) :
    ∃ (v : Option Value) (T' : State) (L : List Loc), Stand p l e R (s.setVm T'.vm) m args below meth c T' (locs ++ L) (cells + rm.cells) (slots + rm.slots) ∧ s.Since T'.vm T'.heap.size ∧ T'.heap.size ≤ T'.heap.size ∧ Z.Warmed39 T'.vm ∧ T'.vm.findClass own = some m.cls ∧ Q v T'.heap L ∧ CHr Z EL vm0 h T'.vm T'.heap ∧ ∀ target, Steps p.tables e below (T'.setTop { g with pc := g.pc + 3, stack := v.toList ++ rest }) target → Steps p.tables e below (T.setTop g) target := by
  obtain ⟨v, _, ⟨T', L', k', n'⟩, -, X', hS', hg', ⟨L, hQ, l1, l2, l3, hC⟩, st⟩ := X.specialBackS hx (y := y) hy1 hown (mvT (s := s.setVm vm0) hZ w1) (mvT (s := s.setVm vm0) hZ w2) (mvT (s := s.setVm vm0) hZ w4) hy (own_backH (s := s) (W := W) hM hZ w4 w3 hR.1 hR.2.1 hEL H hSF) (g := g) hg hsize (Steps.refl _) (a := a) (argsL := argsL) (rest := rest) hlen hstack hW hd (fun _ _ => ⟨has, eT, hR.2.2.1, hR.2.2.2⟩)
  dsimp only [Pt.U, Pt.locs, Pt.cells, Pt.slots] at X' hS' hg' l1 l2 l3 st hQ hC
  subst l1 l2 l3
  have q := hS.trans hS' (Nat.le_trans hk (by rw [← eT]; exact hg'))
  exact ⟨v, T', L, X', q, Nat.le_refl _, State.Warmed39.trans (t := s.setVm vm0) hZ hS'.1, by rw [hS'.1.alike.findClass]; exact hown, hQ, hC, fun _ t => st.trans t⟩
theorem own_Hvirtual (X : Stand p l e R (s.setVm vm0) m args below meth c T locs cells slots) (hx : p.tables.exec = Jvm.exec) (hZ : Z.Warmed39 vm0) {own : String} {index : Nat} {y z : MethodName} {bytes : ByteArray} {maxL : Nat} {ret : Option FieldType} {rm : Room} {Q : Option Value → Heap → List Loc → Prop} {as' : Array Value} {SF : List Addr}
    (hown : vm0.findClass own = some m.cls) (w1 : (Cond.methodLink own index y).before a0 Z = true) (w2 : (Cond.declares y).before a0 Z = true) (hnf : NotFace (s.setVm vm0) y) (w5 : (Cond.selects C y z).before a0 Z = true) (w6 : (Cond.instanceMethod z).before a0 Z = true) (w3 : (Cond.initialized z.cls).before a0 Z = true) (w4 : (Cond.code z bytes maxL ret).before a0 Z = true) (hy : y.cls ≠ "java/lang/invoke/MethodHandle" ∧ y.cls ≠ "java/lang/invoke/VarHandle")
    (hM : MetFree l z (head1 [Cond.code z bytes maxL ret] rm) (fun a U => a = as' ∧ Z.Warmed39 U.vm ∧ U.heap = h ∧ CHv Z EL U.vm h ∧ ∀ x ∈ SF, Safe Z EL U.vm h x) (fun _ _ _ _ _ => True) (fun _ U o U' => ∃ v L, o = .returned v ∧ Q v U'.heap L ∧ CHr Z EL U.vm U.heap U'.vm U'.heap ∧ ReturnedEndW U o U' L rm.cells rm.slots))
    (eT : T.heap = h) (E : Exa Z h a C) {W : Nat} (hR : rm.frames + 1 ≤ R.frames ∧ W + (maxL + 11) + rm.locals ≤ R.locals ∧ cells + rm.cells ≤ R.cells ∧ slots + rm.slots ≤ R.slots)
    {g : JFrame} (hg : g.method = m) (hsize : g.locals.size = c.maxLocals) {argsL rest : List Value} (hlen : ∀ sig, parseMethodDescriptor y.desc = some sig → argsL.length = sig.parameters.length) (hstack : g.stack = argsL.reverse ++ .ref a :: rest) (has : (.ref a :: argsL).toArray = as') (hW : 2 * g.monitorRoom + (rest.map fun v => v.category).sum ≤ W) (hd : decode c.code g.pc = .ok (.invokevirtual index, 3)) {k0 : Nat} (hS : s.Since vm0 k0) (hk : k0 ≤ h.size) (hEL : EW Z a0 EL) (H : CHv Z EL vm0 h) (hSF : ∀ x ∈ SF, Safe Z EL vm0 h x ∧ x < h.size) :
    ∃ (v : Option Value) (T' : State) (L : List Loc), Stand p l e R (s.setVm T'.vm) m args below meth c T' (locs ++ L) (cells + rm.cells) (slots + rm.slots) ∧ s.Since T'.vm T'.heap.size ∧ T'.heap.size ≤ T'.heap.size ∧ Z.Warmed39 T'.vm ∧ T'.vm.findClass own = some m.cls ∧ Q v T'.heap L ∧ CHr Z EL vm0 h T'.vm T'.heap ∧ ∀ target, Steps p.tables e below (T'.setTop { g with pc := g.pc + 3, stack := v.toList ++ rest }) target → Steps p.tables e below (T.setTop g) target := by
  obtain ⟨cq, kq, qa, qb, qc⟩ := isOf (s := s.setVm vm0) hZ eT E
  obtain ⟨v, _, ⟨T', L', k', n'⟩, -, X', hS', hg', ⟨L, hQ, l1, l2, l3, hC⟩, st⟩ := X.virtualBackS hx (y := y) (z := z) hown (mvT (s := s.setVm vm0) hZ w1) (mvT (s := s.setVm vm0) hZ w2) hnf (mvT (s := s.setVm vm0) hZ w5) (mvT (s := s.setVm vm0) hZ w6) hy (own_backH (s := s) (W := W) hM hZ w4 w3 hR.1 hR.2.1 hEL H hSF) qa qc (g := g) hg hsize (Steps.refl _) (argsL := argsL) (rest := rest) hlen hstack hW hd (fun _ _ => ⟨has, eT, hR.2.2.1, hR.2.2.2⟩)
  dsimp only [Pt.U, Pt.locs, Pt.cells, Pt.slots] at X' hS' hg' l1 l2 l3 st hQ hC
  subst l1 l2 l3
  have q := hS.trans hS' (Nat.le_trans hk (by rw [← eT]; exact hg'))
  exact ⟨v, T', L, X', q, Nat.le_refl _, State.Warmed39.trans (t := s.setVm vm0) hZ hS'.1, by rw [hS'.1.alike.findClass]; exact hown, hQ, hC, fun _ t => st.trans t⟩
theorem own_Hprivate (X : Stand p l e R (s.setVm vm0) m args below meth c T locs cells slots) (hx : p.tables.exec = Jvm.exec) (hZ : Z.Warmed39 vm0) {own : String} {index : Nat} {y x0 y0 : MethodName} {bytes : ByteArray} {maxL : Nat} {ret : Option FieldType} {rm : Room} {Q : Option Value → Heap → List Loc → Prop} {as' : Array Value} {SF : List Addr}
    (hown : vm0.findClass own = some m.cls) (w1 : (Cond.methodLink own index y).before a0 Z = true) (w6 : (Cond.instanceMethod y).before a0 Z = true) (w5 : (Cond.selects C x0 y0).before a0 Z = true) (hyy : y0.cls = y.cls) (w7 : (Cond.privateMethod y).before a0 Z = true) (w3 : (Cond.initialized y.cls).before a0 Z = true) (w4 : (Cond.code y bytes maxL ret).before a0 Z = true) (hy : y.cls ≠ "java/lang/invoke/MethodHandle" ∧ y.cls ≠ "java/lang/invoke/VarHandle")
    (hM : MetFree l y (head1 [Cond.code y bytes maxL ret] rm) (fun a U => a = as' ∧ Z.Warmed39 U.vm ∧ U.heap = h ∧ CHv Z EL U.vm h ∧ ∀ x ∈ SF, Safe Z EL U.vm h x) (fun _ _ _ _ _ => True) (fun _ U o U' => ∃ v L, o = .returned v ∧ Q v U'.heap L ∧ CHr Z EL U.vm U.heap U'.vm U'.heap ∧ ReturnedEndW U o U' L rm.cells rm.slots))
    (eT : T.heap = h) (E : Exa Z h a nm) {W : Nat} (hR : rm.frames + 1 ≤ R.frames ∧ W + (maxL + 11) + rm.locals ≤ R.locals ∧ cells + rm.cells ≤ R.cells ∧ slots + rm.slots ≤ R.slots)
    {g : JFrame} (hg : g.method = m) (hsize : g.locals.size = c.maxLocals) {argsL rest : List Value} (hlen : ∀ sig, parseMethodDescriptor y.desc = some sig → argsL.length = sig.parameters.length) (hstack : g.stack = argsL.reverse ++ .ref a :: rest) (has : (.ref a :: argsL).toArray = as') (hW : 2 * g.monitorRoom + (rest.map fun v => v.category).sum ≤ W) (hd : decode c.code g.pc = .ok (.invokevirtual index, 3)) {k0 : Nat} (hS : s.Since vm0 k0) (hk : k0 ≤ h.size) (hEL : EW Z a0 EL) (H : CHv Z EL vm0 h) (hSF : ∀ x ∈ SF, Safe Z EL vm0 h x ∧ x < h.size) :
    ∃ (v : Option Value) (T' : State) (L : List Loc), Stand p l e R (s.setVm T'.vm) m args below meth c T' (locs ++ L) (cells + rm.cells) (slots + rm.slots) ∧ s.Since T'.vm T'.heap.size ∧ T'.heap.size ≤ T'.heap.size ∧ Z.Warmed39 T'.vm ∧ T'.vm.findClass own = some m.cls ∧ Q v T'.heap L ∧ CHr Z EL vm0 h T'.vm T'.heap ∧ ∀ target, Steps p.tables e below (T'.setTop { g with pc := g.pc + 3, stack := v.toList ++ rest }) target → Steps p.tables e below (T.setTop g) target := by
  obtain ⟨cell, _, qa, -, -, qc, -⟩ := E
  obtain ⟨mk, methM, hnamed, hmethM, -, -⟩ := Cond.instanceMethod_spec (mvT (s := s.setVm vm0) hZ w6 : (Cond.instanceMethod y).before args _ = true)
  obtain ⟨_, _, m2, -, -, q3, -, kr, hkr, hni⟩ := Cond.selects_spec (mvT (s := s.setVm vm0) hZ w5 : (Cond.selects C x0 y0).before args _ = true)
  have hc2 := findClass_of_methodNamed q3
  rw [hyy] at hc2
  have hpr := Cond.privateMethod_at (mvT (s := s.setVm vm0) hZ w7 : (Cond.privateMethod y).before args _ = true)
  have hsel := Jvm.Stand.selects_self_of_private (args := args) hc2 hkr hni hpr (mvT (s := s.setVm vm0) hZ w6) hy
  obtain ⟨v, _, ⟨T', L', k', n'⟩, -, X', hS', hg', ⟨L, hQ, l1, l2, l3, hC⟩, st⟩ := X.privateBackS hx (y := y) hown (mvT (s := s.setVm vm0) hZ w1) (mvT (s := s.setVm vm0) hZ w6) hsel hpr (mvT (s := s.setVm vm0) hZ w4) hy (own_backH (s := s) (W := W) hM hZ w4 w3 hR.1 hR.2.1 hEL H hSF) (g := g) hg hsize (Steps.refl _) (a := a) (cell := cell) (by rw [eT]; exact qa) (fun q eq => by rw [eq] at qc; exact absurd qc (by simp [VmData.isStatics])) (argsL := argsL) (rest := rest) hlen hstack hW hd (fun _ _ => ⟨has, eT, hR.2.2.1, hR.2.2.2⟩)
  dsimp only [Pt.U, Pt.locs, Pt.cells, Pt.slots] at X' hS' hg' l1 l2 l3 st hQ hC
  subst l1 l2 l3
  have q := hS.trans hS' (Nat.le_trans hk (by rw [← eT]; exact hg'))
  exact ⟨v, T', L, X', q, Nat.le_refl _, State.Warmed39.trans (t := s.setVm vm0) hZ hS'.1, by rw [hS'.1.alike.findClass]; exact hown, hQ, hC, fun _ t => st.trans t⟩
theorem own_Hsuper (X : Stand p l e R (s.setVm vm0) m args below meth c T locs cells slots) (hx : p.tables.exec = Jvm.exec) (hZ : Z.Warmed39 vm0) {own : String} {index : Nat} {y x0 y0 : MethodName} {bytes : ByteArray} {maxL : Nat} {ret : Option FieldType} {rm : Room} {Q : Option Value → Heap → List Loc → Prop} {as' : Array Value} {SF : List Addr}
    (hown : vm0.findClass own = some m.cls) (w1 : (Cond.methodLink own index y).before a0 Z = true) (w6 : (Cond.instanceMethod y).before a0 Z = true) (w5 : (Cond.selects C x0 y0).before a0 Z = true) (hyy : y0.cls = y.cls) (w8 : (Cond.superclass own y.cls).before a0 Z = true) (hyn : y.name ≠ "<init>") (w3 : (Cond.initialized y.cls).before a0 Z = true) (w4 : (Cond.code y bytes maxL ret).before a0 Z = true) (hy : y.cls ≠ "java/lang/invoke/MethodHandle" ∧ y.cls ≠ "java/lang/invoke/VarHandle")
    (hM : MetFree l y (head1 [Cond.code y bytes maxL ret] rm) (fun a U => a = as' ∧ Z.Warmed39 U.vm ∧ U.heap = h ∧ CHv Z EL U.vm h ∧ ∀ x ∈ SF, Safe Z EL U.vm h x) (fun _ _ _ _ _ => True) (fun _ U o U' => ∃ v L, o = .returned v ∧ Q v U'.heap L ∧ CHr Z EL U.vm U.heap U'.vm U'.heap ∧ ReturnedEndW U o U' L rm.cells rm.slots))
    (eT : T.heap = h) (E : Exa Z h a nm) {W : Nat} (hR : rm.frames + 1 ≤ R.frames ∧ W + (maxL + 11) + rm.locals ≤ R.locals ∧ cells + rm.cells ≤ R.cells ∧ slots + rm.slots ≤ R.slots)
    {g : JFrame} (hg : g.method = m) (hsize : g.locals.size = c.maxLocals) {argsL rest : List Value} (hlen : ∀ sig, parseMethodDescriptor y.desc = some sig → argsL.length = sig.parameters.length) (hstack : g.stack = argsL.reverse ++ .ref a :: rest) (has : (.ref a :: argsL).toArray = as') (hW : 2 * g.monitorRoom + (rest.map fun v => v.category).sum ≤ W) (hd : decode c.code g.pc = .ok (.invokespecial index, 3)) {k0 : Nat} (hS : s.Since vm0 k0) (hk : k0 ≤ h.size) (hEL : EW Z a0 EL) (H : CHv Z EL vm0 h) (hSF : ∀ x ∈ SF, Safe Z EL vm0 h x ∧ x < h.size) :
    ∃ (v : Option Value) (T' : State) (L : List Loc), Stand p l e R (s.setVm T'.vm) m args below meth c T' (locs ++ L) (cells + rm.cells) (slots + rm.slots) ∧ s.Since T'.vm T'.heap.size ∧ T'.heap.size ≤ T'.heap.size ∧ Z.Warmed39 T'.vm ∧ T'.vm.findClass own = some m.cls ∧ Q v T'.heap L ∧ CHr Z EL vm0 h T'.vm T'.heap ∧ ∀ target, Steps p.tables e below (T'.setTop { g with pc := g.pc + 3, stack := v.toList ++ rest }) target → Steps p.tables e below (T.setTop g) target := by
  obtain ⟨mk, methM, hnamed, hmethM, -, -⟩ := Cond.instanceMethod_spec w6
  obtain ⟨_, _, m2, -, -, q3, -, kr, hkr, hni⟩ := Cond.selects_spec w5
  have hc2 := findClass_of_methodNamed q3
  rw [hyy, findClass_of_methodNamed hnamed] at hc2
  rw [← Option.some.inj hc2] at hkr
  have w2 : (Cond.sameMethod y.cls y.cls y.name y.desc).before a0 Z = true := by
    simp [Cond.before, Cond.holds, Cond.value, findClass_of_methodNamed hnamed, State.methodFound?_of_named hnamed hy, hnamed, hkr, hni]
  obtain ⟨v, _, ⟨T', L', k', n'⟩, -, X', hS', hg', ⟨L, hQ, l1, l2, l3, hC⟩, st⟩ := superBackS (s := s.setVm vm0) X hx hZ (y := y) hown w1 w2 w6 w8 hyn (own_backH (s := s) (W := W) hM hZ w4 w3 hR.1 hR.2.1 hEL H hSF) eT (Ins.self E) (g := g) hg hsize w4 (argsL := argsL) (rest := rest) hlen hstack hW hd (fun _ _ => ⟨has, eT, hR.2.2.1, hR.2.2.2⟩)
  dsimp only [Pt.U, Pt.locs, Pt.cells, Pt.slots] at X' hS' hg' l1 l2 l3 st hQ hC
  subst l1 l2 l3
  have q := hS.trans hS' (Nat.le_trans hk (by rw [← eT]; exact hg'))
  exact ⟨v, T', L, X', q, Nat.le_refl _, State.Warmed39.trans (t := s.setVm vm0) hZ hS'.1, by rw [hS'.1.alike.findClass]; exact hown, hQ, hC, fun _ t => st.trans t⟩
theorem own_Hface (X : Stand p l e R (s.setVm vm0) m args below meth c T locs cells slots) (hx : p.tables.exec = Jvm.exec) (hZ : Z.Warmed39 vm0) {own : String} {index count : Nat} {y z : MethodName} {bytes : ByteArray} {maxL : Nat} {ret : Option FieldType} {rm : Room} {Q : Option Value → Heap → List Loc → Prop} {as' : Array Value} {SF : List Addr}
    (hown : vm0.findClass own = some m.cls) (w1 : (Cond.methodLink own index y).before a0 Z = true) (w2 : (Cond.declares y).before a0 Z = true) (wf : (Cond.interfaceMethod y.cls y.cls y.name y.desc).before args (s.setVm vm0) = true) (w5 : (Cond.selects C y z).before a0 Z = true) (w6 : (Cond.instanceMethod z).before a0 Z = true) (w7 : (Cond.publicMethod z).before a0 Z = true) (w8 : (Cond.unhidden C y.name y.desc).before a0 Z = true) (w9 : (Cond.castable C y.cls).before a0 Z = true) (w3 : (Cond.initialized z.cls).before a0 Z = true) (w4 : (Cond.code z bytes maxL ret).before a0 Z = true) (hy : y.cls ≠ "java/lang/invoke/MethodHandle" ∧ y.cls ≠ "java/lang/invoke/VarHandle")
    (hM : MetFree l z (head1 [Cond.code z bytes maxL ret] rm) (fun a U => a = as' ∧ Z.Warmed39 U.vm ∧ U.heap = h ∧ CHv Z EL U.vm h ∧ ∀ x ∈ SF, Safe Z EL U.vm h x) (fun _ _ _ _ _ => True) (fun _ U o U' => ∃ v L, o = .returned v ∧ Q v U'.heap L ∧ CHr Z EL U.vm U.heap U'.vm U'.heap ∧ ReturnedEndW U o U' L rm.cells rm.slots))
    (eT : T.heap = h) (E : Exa Z h a C) {W : Nat} (hR : rm.frames + 1 ≤ R.frames ∧ W + (maxL + 11) + rm.locals ≤ R.locals ∧ cells + rm.cells ≤ R.cells ∧ slots + rm.slots ≤ R.slots)
    {g : JFrame} (hg : g.method = m) (hsize : g.locals.size = c.maxLocals) {argsL rest : List Value} (hlen : ∀ sig, parseMethodDescriptor y.desc = some sig → argsL.length = sig.parameters.length) (hstack : g.stack = argsL.reverse ++ .ref a :: rest) (has : (.ref a :: argsL).toArray = as') (hW : 2 * g.monitorRoom + (rest.map fun v => v.category).sum ≤ W) (hd : decode c.code g.pc = .ok (.invokeinterface index count, 5)) {k0 : Nat} (hS : s.Since vm0 k0) (hk : k0 ≤ h.size) (hEL : EW Z a0 EL) (H : CHv Z EL vm0 h) (hSF : ∀ x ∈ SF, Safe Z EL vm0 h x ∧ x < h.size) :
    ∃ (v : Option Value) (T' : State) (L : List Loc), Stand p l e R (s.setVm T'.vm) m args below meth c T' (locs ++ L) (cells + rm.cells) (slots + rm.slots) ∧ s.Since T'.vm T'.heap.size ∧ T'.heap.size ≤ T'.heap.size ∧ Z.Warmed39 T'.vm ∧ T'.vm.findClass own = some m.cls ∧ Q v T'.heap L ∧ CHr Z EL vm0 h T'.vm T'.heap ∧ ∀ target, Steps p.tables e below (T'.setTop { g with pc := g.pc + 5, stack := v.toList ++ rest }) target → Steps p.tables e below (T.setTop g) target := by
  obtain ⟨cq, kq, qa, qb, qc⟩ := isOf (s := s.setVm vm0) hZ eT E
  obtain ⟨v, _, ⟨T', L', k', n'⟩, -, X', hS', hg', ⟨L, hQ, l1, l2, l3, hC⟩, st⟩ := X.interfaceBackS hx (xi := y) (y := z) hown (mvT (s := s.setVm vm0) hZ w1) (mvT (s := s.setVm vm0) hZ w2) wf (mvT (s := s.setVm vm0) hZ w5) (mvT (s := s.setVm vm0) hZ w6) (mvT (s := s.setVm vm0) hZ w7) (mvT (s := s.setVm vm0) hZ w8) (mvT (s := s.setVm vm0) hZ w9) hy (own_backH (s := s) (W := W) hM hZ w4 w3 hR.1 hR.2.1 hEL H hSF) qa qb qc (g := g) hg hsize (Steps.refl _) (argsL := argsL) (rest := rest) hlen hstack hW hd (fun _ _ => ⟨has, eT, hR.2.2.1, hR.2.2.2⟩)
  dsimp only [Pt.U, Pt.locs, Pt.cells, Pt.slots] at X' hS' hg' l1 l2 l3 st hQ hC
  subst l1 l2 l3
  have q := hS.trans hS' (Nat.le_trans hk (by rw [← eT]; exact hg'))
  exact ⟨v, T', L, X', q, Nat.le_refl _, State.Warmed39.trans (t := s.setVm vm0) hZ hS'.1, by rw [hS'.1.alike.findClass]; exact hown, hQ, hC, fun _ t => st.trans t⟩
end OwnH
abbrev OMH (l : Launch) (Z : State) (EL : List (String × Nat)) (SF : List Addr) (y : MethodName) (bytes : ByteArray) (maxL : Nat) (ret : Option FieldType) (ws : List Jvm.Cond) (rm : Room) (as' : Array Value) (h0 : Heap) (Q : Option Value → Heap → List Loc → Prop) : Prop :=
  MetFree l y (head1 (Jvm.Cond.code y bytes maxL ret :: ws) rm) (fun a U => a = as' ∧ Z.Warmed39 U.vm ∧ U.heap = h0 ∧ CHv Z EL U.vm h0 ∧ ∀ x ∈ SF, Safe Z EL U.vm h0 x) (fun _ _ _ _ _ => True) (fun _ U o U' => ∃ v L, o = .returned v ∧ Q v U'.heap L ∧ CHr Z EL U.vm U.heap U'.vm U'.heap ∧ ReturnedEndW U o U' L rm.cells rm.slots)
theorem own_bodyH {l : Launch} {Z : State} {a0 : Array Value} {EL : List (String × Nat)} {SF : List Addr} {y : MethodName} {bytes : ByteArray} {maxL : Nat} {ret : Option FieldType} {ws : List Jvm.Cond} {rm : Room} {as' : Array Value} {h0 : Heap} {Q : Option Value → Heap → List Loc → Prop} {k n k' n' : Nat} {L0 : Array Slot} (hEL : EW Z a0 EL) (hp : plainFor y = true) (hef : ∀ m, entryFrame m as' maxL = mkF m 0 L0 []) (hk : k ≤ k') (hn : n ≤ n')
    (H : ∀ (p : Program) (e : Env) (s : State) (m : MethodId) (below : List Frame) (meth : Method) (c : Code) (s₁ : State), p.tables.exec = Jvm.exec → c.code = bytes → c.maxLocals = maxL → s.vm.findClass y.cls = some m.cls → meth.name = y.name → meth.sig.returnType = ret → Z.Warmed39 s.vm → s₁.heap = h0 → s.Since s.vm s.heap.size → s.heap.size ≤ h0.size → Stand p l e rm (s.setVm s.vm) m as' below meth c s₁ [] 0 0 → CHv Z EL s.vm h0 → (∀ x ∈ SF, Safe Z EL s.vm h0 x) →
      ∃ (T : State) (L : List Loc) (v : Option Value) (vm1 : Vm) (n1 : Nat), Stand p l e rm (s.setVm vm1) m as' below meth c T L k n ∧ s.Since vm1 n1 ∧ n1 ≤ T.heap.size ∧ (ret = none → v = none) ∧ Q v T.heap L ∧ CHr Z EL s.vm h0 vm1 T.heap ∧ Z.Warmed39 vm1 ∧ ∀ fs, (∀ (f : JFrame) (acts : List Action), f.method = m → f.locked = none → f.entered = [] → (doReturn e (T.setTop f) acts v).1 = T.setFrames fs) → Steps p.tables e below (s₁.setTop (mkF m 0 L0 [])) (T.setFrames fs)) :
    MetFree l y (head1 (Jvm.Cond.code y bytes maxL ret :: ws) rm) (fun a U => a = as' ∧ Z.Warmed39 U.vm ∧ U.heap = h0 ∧ CHv Z EL U.vm h0 ∧ ∀ x ∈ SF, Safe Z EL U.vm h0 x) (fun _ _ _ _ _ => True) (fun _ U o U' => ∃ v L, o = .returned v ∧ Q v U'.heap L ∧ CHr Z EL U.vm U.heap U'.vm U'.heap ∧ ReturnedEndW U o U' L k' n') := by
  refine MetFree.of_bodySF hp hisR ?_
  intro p e s m args below meth c s₁ Bd hml0 hP hK
  obtain ⟨rfl, hZ, hh, hC, hSF⟩ := hP
  have e0 : s₁.heap = h0 := by rw [← hh, Bd.state]; rfl
  have hnm := (name_of_methodNamed Bd.named Bd.method).1
  obtain ⟨T, L, v, vm1, n1, X, hS, hn1, hv, hQ, hA, hZ1, st⟩ := H p e s m below meth c s₁ Bd.exec Bd.bytes hml0 (findClass_of_methodNamed Bd.named) hnm Bd.returns hZ e0 (own_since s) (Nat.le_of_eq (congrArg Array.size hh)) (Stand.of_body Bd) hC hSF
  obtain ⟨fs, hr, hrun, hended, hRE⟩ := X.leaveW hS hn1 (v := v) (fun h => hv (Bd.returns.symm.trans h)) Bd.notSynchronized
  have hB := hA.trans (CHv.at X hZ1 hEL hA.1)
  rw [← hh] at hB
  exact ⟨_, _, castTop (hef m) (st fs hr), hrun, hended, v, L, rfl, hQ, hB, own_REmono hRE hk hn⟩
theorem t_iloadN {tb : Tables} [Ours tb] {e : Env} {below : List Frame} {T target : State} {m : MethodId} {c : Code} {pc : Nat} {L : Array Slot} {S : List Value} {v : Int32} {k : Fin 4} (pc' : Nat) (h : At T m c below) (hx : tb.exec = Jvm.exec) (hd : decode c.code pc = .ok (.iload_n k, 1)) (hl : L[k.val]? = some (.val (.int v))) (hp : pc + 1 = pc') (hr : Steps tb e below (T.setTop (mkF m pc' L (.int v :: S))) target) : Steps tb e below (T.setTop (mkF m pc L (S))) target := by
  subst hp; exact XS.iloadN h hx rfl hd hl hr
theorem t_iload {tb : Tables} [Ours tb] {e : Env} {below : List Frame} {T target : State} {m : MethodId} {c : Code} {pc : Nat} {L : Array Slot} {S : List Value} {v : Int32} {k : Nat} (pc' : Nat) (h : At T m c below) (hx : tb.exec = Jvm.exec) (hd : decode c.code pc = .ok (.iload k, 2)) (hl : L[k]? = some (.val (.int v))) (hp : pc + 2 = pc') (hr : Steps tb e below (T.setTop (mkF m pc' L (.int v :: S))) target) : Steps tb e below (T.setTop (mkF m pc L (S))) target := by
  subst hp; exact XS.iload h hx rfl hd hl hr
theorem t_aloadN {tb : Tables} [Ours tb] {e : Env} {below : List Frame} {T target : State} {m : MethodId} {c : Code} {pc : Nat} {L : Array Slot} {S : List Value} {v : Value} {k : Fin 4} (pc' : Nat) (h : At T m c below) (hx : tb.exec = Jvm.exec) (hd : decode c.code pc = .ok (.aload_n k, 1)) (hl : L[k.val]? = some (.val v)) (hv : v.isRef = true) (hp : pc + 1 = pc') (hr : Steps tb e below (T.setTop (mkF m pc' L (v :: S))) target) : Steps tb e below (T.setTop (mkF m pc L (S))) target := by
  subst hp; exact XS.aloadN h hx rfl hd hl hv hr
theorem t_aload {tb : Tables} [Ours tb] {e : Env} {below : List Frame} {T target : State} {m : MethodId} {c : Code} {pc : Nat} {L : Array Slot} {S : List Value} {v : Value} {k : Nat} (pc' : Nat) (h : At T m c below) (hx : tb.exec = Jvm.exec) (hd : decode c.code pc = .ok (.aload k, 2)) (hl : L[k]? = some (.val v)) (hv : v.isRef = true) (hp : pc + 2 = pc') (hr : Steps tb e below (T.setTop (mkF m pc' L (v :: S))) target) : Steps tb e below (T.setTop (mkF m pc L (S))) target := by
  subst hp; exact XS.aload h hx rfl hd hl hv hr
theorem t_istoreN {tb : Tables} [Ours tb] {e : Env} {below : List Frame} {T target : State} {m : MethodId} {c : Code} {pc : Nat} {L : Array Slot} {S : List Value} {v : Int32} {k : Fin 4} {L' : Array Slot} (pc' : Nat) (h : At T m c below) (hx : tb.exec = Jvm.exec) (hd : decode c.code pc = .ok (.istore_n k, 1)) (hl : storeLocals L k.val (.int v) = some L') (hp : pc + 1 = pc') (hr : Steps tb e below (T.setTop (mkF m pc' L' (S))) target) : Steps tb e below (T.setTop (mkF m pc L (.int v :: S))) target := by
  subst hp; exact XS.istoreN h hx rfl hd rfl hl hr
theorem t_istore {tb : Tables} [Ours tb] {e : Env} {below : List Frame} {T target : State} {m : MethodId} {c : Code} {pc : Nat} {L : Array Slot} {S : List Value} {v : Int32} {k : Nat} {L' : Array Slot} (pc' : Nat) (h : At T m c below) (hx : tb.exec = Jvm.exec) (hd : decode c.code pc = .ok (.istore k, 2)) (hl : storeLocals L k (.int v) = some L') (hp : pc + 2 = pc') (hr : Steps tb e below (T.setTop (mkF m pc' L' (S))) target) : Steps tb e below (T.setTop (mkF m pc L (.int v :: S))) target := by
  subst hp; exact XS.istore h hx rfl hd rfl hl hr
theorem t_astoreN {tb : Tables} [Ours tb] {e : Env} {below : List Frame} {T target : State} {m : MethodId} {c : Code} {pc : Nat} {L : Array Slot} {S : List Value} {v : Value} {k : Fin 4} {L' : Array Slot} (pc' : Nat) (h : At T m c below) (hx : tb.exec = Jvm.exec) (hd : decode c.code pc = .ok (.astore_n k, 1)) (hv : v.isRef = true) (hl : storeLocals L k.val v = some L') (hp : pc + 1 = pc') (hr : Steps tb e below (T.setTop (mkF m pc' L' (S))) target) : Steps tb e below (T.setTop (mkF m pc L (v :: S))) target := by
  subst hp; exact XS.astoreN h hx rfl hd rfl hv hl hr
theorem t_astore {tb : Tables} [Ours tb] {e : Env} {below : List Frame} {T target : State} {m : MethodId} {c : Code} {pc : Nat} {L : Array Slot} {S : List Value} {v : Value} {k : Nat} {L' : Array Slot} (pc' : Nat) (h : At T m c below) (hx : tb.exec = Jvm.exec) (hd : decode c.code pc = .ok (.astore k, 2)) (hv : v.isRef = true) (hl : storeLocals L k v = some L') (hp : pc + 2 = pc') (hr : Steps tb e below (T.setTop (mkF m pc' L' (S))) target) : Steps tb e below (T.setTop (mkF m pc L (v :: S))) target := by
  subst hp; exact XS.astore h hx rfl hd rfl hv hl hr
theorem t_iconst {tb : Tables} [Ours tb] {e : Env} {below : List Frame} {T target : State} {m : MethodId} {c : Code} {pc : Nat} {L : Array Slot} {S : List Value} {i : Int} {r : Int32} (pc' : Nat) (h : At T m c below) (hx : tb.exec = Jvm.exec) (hd : decode c.code pc = .ok (.iconst i, 1)) (he : Int32.ofInt i = r) (hp : pc + 1 = pc') (hr : Steps tb e below (T.setTop (mkF m pc' L (.int r :: S))) target) : Steps tb e below (T.setTop (mkF m pc L (S))) target := by
  subst hp he; exact XS.iconst h hx rfl hd hr
theorem t_bipush {tb : Tables} [Ours tb] {e : Env} {below : List Frame} {T target : State} {m : MethodId} {c : Code} {pc : Nat} {L : Array Slot} {S : List Value} {i : Int} {r : Int32} (pc' : Nat) (h : At T m c below) (hx : tb.exec = Jvm.exec) (hd : decode c.code pc = .ok (.bipush i, 2)) (he : (Int8.ofInt i).toInt32 = r) (hp : pc + 2 = pc') (hr : Steps tb e below (T.setTop (mkF m pc' L (.int r :: S))) target) : Steps tb e below (T.setTop (mkF m pc L (S))) target := by
  subst hp he; exact XS.bipush h hx rfl hd hr
theorem t_sipush {tb : Tables} [Ours tb] {e : Env} {below : List Frame} {T target : State} {m : MethodId} {c : Code} {pc : Nat} {L : Array Slot} {S : List Value} {i : Int} {r : Int32} (pc' : Nat) (h : At T m c below) (hx : tb.exec = Jvm.exec) (hd : decode c.code pc = .ok (.sipush i, 3)) (he : (Int16.ofInt i).toInt32 = r) (hp : pc + 3 = pc') (hr : Steps tb e below (T.setTop (mkF m pc' L (.int r :: S))) target) : Steps tb e below (T.setTop (mkF m pc L (S))) target := by
  subst hp he; exact XS.sipush h hx rfl hd hr
theorem t_aconst_null {tb : Tables} [Ours tb] {e : Env} {below : List Frame} {T target : State} {m : MethodId} {c : Code} {pc : Nat} {L : Array Slot} {S : List Value}  (pc' : Nat) (h : At T m c below) (hx : tb.exec = Jvm.exec) (hd : decode c.code pc = .ok (.aconst_null, 1)) (hp : pc + 1 = pc') (hr : Steps tb e below (T.setTop (mkF m pc' L (.null :: S))) target) : Steps tb e below (T.setTop (mkF m pc L (S))) target := by
  subst hp; exact XS.aconstNull h hx rfl hd hr
theorem t_iadd {tb : Tables} [Ours tb] {e : Env} {below : List Frame} {T target : State} {m : MethodId} {c : Code} {pc : Nat} {L : Array Slot} {S : List Value} {x y r : Int32} (pc' : Nat) (h : At T m c below) (hx : tb.exec = Jvm.exec) (hd : decode c.code pc = .ok (.iadd, 1)) (he : x + y = r) (hp : pc + 1 = pc') (hr : Steps tb e below (T.setTop (mkF m pc' L (.int r :: S))) target) : Steps tb e below (T.setTop (mkF m pc L (.int y :: .int x :: S))) target := by
  subst hp he; exact XS.iadd h hx rfl hd rfl hr
theorem t_isub {tb : Tables} [Ours tb] {e : Env} {below : List Frame} {T target : State} {m : MethodId} {c : Code} {pc : Nat} {L : Array Slot} {S : List Value} {x y r : Int32} (pc' : Nat) (h : At T m c below) (hx : tb.exec = Jvm.exec) (hd : decode c.code pc = .ok (.isub, 1)) (he : x - y = r) (hp : pc + 1 = pc') (hr : Steps tb e below (T.setTop (mkF m pc' L (.int r :: S))) target) : Steps tb e below (T.setTop (mkF m pc L (.int y :: .int x :: S))) target := by
  subst hp he; exact XS.isub h hx rfl hd rfl hr
theorem t_iand {tb : Tables} [Ours tb] {e : Env} {below : List Frame} {T target : State} {m : MethodId} {c : Code} {pc : Nat} {L : Array Slot} {S : List Value} {x y r : Int32} (pc' : Nat) (h : At T m c below) (hx : tb.exec = Jvm.exec) (hd : decode c.code pc = .ok (.iand, 1)) (he : x &&& y = r) (hp : pc + 1 = pc') (hr : Steps tb e below (T.setTop (mkF m pc' L (.int r :: S))) target) : Steps tb e below (T.setTop (mkF m pc L (.int y :: .int x :: S))) target := by
  subst hp he; exact XS.iand h hx rfl hd rfl hr
theorem t_ishl {tb : Tables} [Ours tb] {e : Env} {below : List Frame} {T target : State} {m : MethodId} {c : Code} {pc : Nat} {L : Array Slot} {S : List Value} {x r : Int32} {y : Int32} (pc' : Nat) (h : At T m c below) (hx : tb.exec = Jvm.exec) (hd : decode c.code pc = .ok (.ishl, 1)) (he : x <<< (y &&& 31) = r) (hp : pc + 1 = pc') (hr : Steps tb e below (T.setTop (mkF m pc' L (.int r :: S))) target) : Steps tb e below (T.setTop (mkF m pc L (.int y :: .int x :: S))) target := by
  subst hp he; exact XS.ishl h hx rfl hd rfl hr
theorem t_ishr {tb : Tables} [Ours tb] {e : Env} {below : List Frame} {T target : State} {m : MethodId} {c : Code} {pc : Nat} {L : Array Slot} {S : List Value} {x r : Int32} {y : Int32} (pc' : Nat) (h : At T m c below) (hx : tb.exec = Jvm.exec) (hd : decode c.code pc = .ok (.ishr, 1)) (he : x >>> (y &&& 31) = r) (hp : pc + 1 = pc') (hr : Steps tb e below (T.setTop (mkF m pc' L (.int r :: S))) target) : Steps tb e below (T.setTop (mkF m pc L (.int y :: .int x :: S))) target := by
  subst hp he; exact XS.ishr h hx rfl hd rfl hr
theorem t_iushr {tb : Tables} [Ours tb] {e : Env} {below : List Frame} {T target : State} {m : MethodId} {c : Code} {pc : Nat} {L : Array Slot} {S : List Value} {x r : Int32} {y : Int32} (pc' : Nat) (h : At T m c below) (hx : tb.exec = Jvm.exec) (hd : decode c.code pc = .ok (.iushr, 1)) (he : (x.toUInt32 >>> (y &&& 31).toUInt32).toInt32 = r) (hp : pc + 1 = pc') (hr : Steps tb e below (T.setTop (mkF m pc' L (.int r :: S))) target) : Steps tb e below (T.setTop (mkF m pc L (.int y :: .int x :: S))) target := by
  subst hp he; exact XS.iushr h hx rfl hd rfl hr
theorem t_i2b {tb : Tables} [Ours tb] {e : Env} {below : List Frame} {T target : State} {m : MethodId} {c : Code} {pc : Nat} {L : Array Slot} {S : List Value} {x : Int32} {r : Int32} (pc' : Nat) (h : At T m c below) (hx : tb.exec = Jvm.exec) (hd : decode c.code pc = .ok (.i2b, 1)) (he : x.toInt8.toInt32 = r) (hp : pc + 1 = pc') (hr : Steps tb e below (T.setTop (mkF m pc' L (.int r :: S))) target) : Steps tb e below (T.setTop (mkF m pc L (.int x :: S))) target := by
  subst hp he; exact XS.i2b h hx rfl hd rfl hr
theorem t_i2c {tb : Tables} [Ours tb] {e : Env} {below : List Frame} {T target : State} {m : MethodId} {c : Code} {pc : Nat} {L : Array Slot} {S : List Value} {x : Int32} {r : Int32} (pc' : Nat) (h : At T m c below) (hx : tb.exec = Jvm.exec) (hd : decode c.code pc = .ok (.i2c, 1)) (he : x.toUInt32.toUInt16.toUInt32.toInt32 = r) (hp : pc + 1 = pc') (hr : Steps tb e below (T.setTop (mkF m pc' L (.int r :: S))) target) : Steps tb e below (T.setTop (mkF m pc L (.int x :: S))) target := by
  subst hp he; exact XS.i2c h hx rfl hd rfl hr
theorem t_dup {tb : Tables} [Ours tb] {e : Env} {below : List Frame} {T target : State} {m : MethodId} {c : Code} {pc : Nat} {L : Array Slot} {S : List Value} {x : Value} (pc' : Nat) (h : At T m c below) (hx : tb.exec = Jvm.exec) (hd : decode c.code pc = .ok (.dup, 1)) (hc : x.category = 1) (hp : pc + 1 = pc') (hr : Steps tb e below (T.setTop (mkF m pc' L (x :: x :: S))) target) : Steps tb e below (T.setTop (mkF m pc L (x :: S))) target := by
  subst hp; exact XS.dup h hx rfl hd rfl hc hr
theorem t_pop {tb : Tables} [Ours tb] {e : Env} {below : List Frame} {T target : State} {m : MethodId} {c : Code} {pc : Nat} {L : Array Slot} {S : List Value} {x : Value} (pc' : Nat) (h : At T m c below) (hx : tb.exec = Jvm.exec) (hd : decode c.code pc = .ok (.pop, 1)) (hc : x.category = 1) (hp : pc + 1 = pc') (hr : Steps tb e below (T.setTop (mkF m pc' L (S))) target) : Steps tb e below (T.setTop (mkF m pc L (x :: S))) target := by
  subst hp; exact XS.pop h hx rfl hd rfl hc hr
theorem t_iinc {tb : Tables} [Ours tb] {e : Env} {below : List Frame} {T target : State} {m : MethodId} {c : Code} {pc : Nat} {L : Array Slot} {S : List Value} {k : Nat} {cst : Int} {x : Int32} {L' : Array Slot} (pc' : Nat) (h : At T m c below) (hx : tb.exec = Jvm.exec) (hd : decode c.code pc = .ok (.iinc k cst, 3)) (hl : L[k]? = some (.val (.int x))) (hl' : storeLocals L k (.int (x + Int32.ofInt cst)) = some L') (hp : pc + 3 = pc') (hr : Steps tb e below (T.setTop (mkF m pc' L' (S))) target) : Steps tb e below (T.setTop (mkF m pc L (S))) target := by
  subst hp; exact XS.iinc h hx rfl hd hl hl' hr
theorem t_goto {tb : Tables} [Ours tb] {e : Env} {below : List Frame} {T target : State} {m : MethodId} {c : Code} {pc : Nat} {L : Array Slot} {S : List Value} {o : Int} (pc' : Nat) (h : At T m c below) (hx : tb.exec = Jvm.exec) (hd : decode c.code pc = .ok (.goto o, 3)) (ho : 0 ≤ (pc : Int) + o) (hp : ((pc : Int) + o).toNat = pc') (hr : Steps tb e below (T.setTop (mkF m pc' L (S))) target) : Steps tb e below (T.setTop (mkF m pc L (S))) target := by
  exact XS.goto h hx rfl rfl hd ho hp hr
theorem t_ifYes {tb : Tables} [Ours tb] {e : Env} {below : List Frame} {T target : State} {m : MethodId} {c : Code} {pc : Nat} {L : Array Slot} {S : List Value} {cd : ClassFile.Cond} {x : Int32} {o : Int} (pc' : Nat) (h : At T m c below) (hx : tb.exec = Jvm.exec) (hd : decode c.code pc = .ok (.ifCond cd o, 3)) (hc : ifCond.holds cd x = true) (ho : 0 ≤ (pc : Int) + o) (hp : ((pc : Int) + o).toNat = pc') (hr : Steps tb e below (T.setTop (mkF m pc' L (S))) target) : Steps tb e below (T.setTop (mkF m pc L (.int x :: S))) target := by
  exact XS.ifYes h hx rfl rfl hd rfl hc ho hp hr
theorem t_ifNo {tb : Tables} [Ours tb] {e : Env} {below : List Frame} {T target : State} {m : MethodId} {c : Code} {pc : Nat} {L : Array Slot} {S : List Value} {cd : ClassFile.Cond} {x : Int32} {o : Int} (pc' : Nat) (h : At T m c below) (hx : tb.exec = Jvm.exec) (hd : decode c.code pc = .ok (.ifCond cd o, 3)) (hc : ifCond.holds cd x = false) (hp : pc + 3 = pc') (hr : Steps tb e below (T.setTop (mkF m pc' L (S))) target) : Steps tb e below (T.setTop (mkF m pc L (.int x :: S))) target := by
  subst hp; exact XS.ifNo h hx rfl hd rfl hc hr
theorem t_icmpYes {tb : Tables} [Ours tb] {e : Env} {below : List Frame} {T target : State} {m : MethodId} {c : Code} {pc : Nat} {L : Array Slot} {S : List Value} {cd : ClassFile.Cond} {x y : Int32} {o : Int} (pc' : Nat) (h : At T m c below) (hx : tb.exec = Jvm.exec) (hd : decode c.code pc = .ok (.if_icmp cd o, 3)) (hc : if_icmp.holds cd x y = true) (ho : 0 ≤ (pc : Int) + o) (hp : ((pc : Int) + o).toNat = pc') (hr : Steps tb e below (T.setTop (mkF m pc' L (S))) target) : Steps tb e below (T.setTop (mkF m pc L (.int y :: .int x :: S))) target := by
  exact XS.icmpYes h hx rfl rfl hd rfl hc ho hp hr
theorem t_icmpNo {tb : Tables} [Ours tb] {e : Env} {below : List Frame} {T target : State} {m : MethodId} {c : Code} {pc : Nat} {L : Array Slot} {S : List Value} {cd : ClassFile.Cond} {x y : Int32} {o : Int} (pc' : Nat) (h : At T m c below) (hx : tb.exec = Jvm.exec) (hd : decode c.code pc = .ok (.if_icmp cd o, 3)) (hc : if_icmp.holds cd x y = false) (hp : pc + 3 = pc') (hr : Steps tb e below (T.setTop (mkF m pc' L (S))) target) : Steps tb e below (T.setTop (mkF m pc L (.int y :: .int x :: S))) target := by
  subst hp; exact XS.icmpNo h hx rfl hd rfl hc hr
theorem t_ifnonnullYes {tb : Tables} [Ours tb] {e : Env} {below : List Frame} {T target : State} {m : MethodId} {c : Code} {pc : Nat} {L : Array Slot} {S : List Value} {b : Addr} {o : Int} (pc' : Nat) (h : At T m c below) (hx : tb.exec = Jvm.exec) (hd : decode c.code pc = .ok (.ifnonnull o, 3)) (ho : 0 ≤ (pc : Int) + o) (hp : ((pc : Int) + o).toNat = pc') (hr : Steps tb e below (T.setTop (mkF m pc' L (S))) target) : Steps tb e below (T.setTop (mkF m pc L (.ref b :: S))) target := by
  exact XS.ifnonnullYes h hx rfl rfl hd rfl ho hp hr
theorem own_arlen {p : Program} {l : Launch} {e : Env} {R : Room} {s : State} {m : MethodId} {args : Array Value} {below : List Frame} {meth : Method} {c : Code} {T : State} {locs : List Loc} {cells slots : Nat} {Z : State} {h : Heap} {a : Addr} {k : ClassId} {z : Int32} {vs : List Value} {dv : Value} {pc pc' : Nat} {Ls : Array Slot} {S : List Value} {ty : FieldType} {target : State} (X : Stand p l e R s m args below meth c T locs cells slots) (hx : p.tables.exec = Jvm.exec) (hZ : Z.Warmed39 s.vm) (eT : T.heap = h) (F : Arv Z h a k ty z vs dv) (hd : decode c.code pc = .ok (.arraylength, 1)) (hp : pc + 1 = pc') (hr : Steps p.tables e below (T.setTop (mkF m pc' Ls (.int z :: S))) target) : Steps p.tables e below (T.setTop (mkF m pc Ls (.ref a :: S))) target := by
  obtain ⟨cl, A, -, q, n, -, -⟩ := F
  subst hp
  refine X.arraylength hx (by rw [eT]; exact A.1) (State.isArrayOf_alike hZ.alike A.2.1) (g := mkF m pc Ls (.ref a :: S)) rfl rfl hd _ ?_
  rw [len_of q n]; exact hr
theorem own_aldC {p : Program} {l : Launch} {e : Env} {R : Room} {s : State} {m : MethodId} {args : Array Value} {below : List Frame} {meth : Method} {c : Code} {T : State} {locs : List Loc} {cells slots : Nat} {Z : State} {h : Heap} {a : Addr} {k : ClassId} {z j : Int32} {vs : List Value} {v dv : Value} {pc pc' : Nat} {Ls : Array Slot} {S : List Value} {target : State} (X : Stand p l e R s m args below meth c T locs cells slots) (hx : p.tables.exec = Jvm.exec) (hZ : Z.Warmed39 s.vm) (eT : T.heap = h) (F : Arv Z h a k .char z vs dv) (hj : ¬ j < 0 ∧ j < z) (hv : vs.getD j.toNatClampNeg dv = v) (hd : decode c.code pc = .ok (.caload, 1)) (hp : pc + 1 = pc') (hr : Steps p.tables e below (T.setTop (mkF m pc' Ls (v :: S))) target) : Steps p.tables e below (T.setTop (mkF m pc Ls (.int j :: .ref a :: S))) target := by
  obtain ⟨cl, A, -, q, n, H, -⟩ := F
  subst hp
  have hin := inb_of q hj
  exact X.caload hx (by rw [eT]; exact A.1) (State.isArrayOf_alike hZ.alike A.2.1) A.2.2 hin (H.at hin hv) (g := mkF m pc Ls (.int j :: .ref a :: S)) rfl rfl hd _ hr
theorem own_aldB {p : Program} {l : Launch} {e : Env} {R : Room} {s : State} {m : MethodId} {args : Array Value} {below : List Frame} {meth : Method} {c : Code} {T : State} {locs : List Loc} {cells slots : Nat} {Z : State} {h : Heap} {a : Addr} {k : ClassId} {z j : Int32} {vs : List Value} {v dv : Value} {pc pc' : Nat} {Ls : Array Slot} {S : List Value} {target : State} (X : Stand p l e R s m args below meth c T locs cells slots) (hx : p.tables.exec = Jvm.exec) (hZ : Z.Warmed39 s.vm) (eT : T.heap = h) (F : Arv Z h a k .byte z vs dv) (hj : ¬ j < 0 ∧ j < z) (hv : vs.getD j.toNatClampNeg dv = v) (hd : decode c.code pc = .ok (.baload, 1)) (hp : pc + 1 = pc') (hr : Steps p.tables e below (T.setTop (mkF m pc' Ls (v :: S))) target) : Steps p.tables e below (T.setTop (mkF m pc Ls (.int j :: .ref a :: S))) target := by
  obtain ⟨cl, A, -, q, n, H, -⟩ := F
  subst hp
  have hin := inb_of q hj
  exact X.baloadBytes hx (by rw [eT]; exact A.1) (State.isArrayOf_alike hZ.alike A.2.1) A.2.2 hin (H.at hin hv) (g := mkF m pc Ls (.int j :: .ref a :: S)) rfl rfl hd _ hr
theorem own_astC {p : Program} {l : Launch} {e : Env} {R : Room} {s : State} {m : MethodId} {args : Array Value} {below : List Frame} {meth : Method} {c : Code} {T : State} {locs : List Loc} {cells slots : Nat} {Z : State} {h : Heap} {a : Addr} {k : ClassId} {z j : Int32} {vs : List Value} {dv : Value} {S : List Value} {x : Int32} (X : Stand p l e R s m args below meth c T locs cells slots) (hx : p.tables.exec = Jvm.exec) (hZ : Z.Warmed39 s.vm) (eT : T.heap = h) (F : Arv Z h a k .char z vs dv) (hj : ¬ j < 0 ∧ j < z) (i : Nat) (hi : j.toNatClampNeg = i) (hi2 : i < vs.length) {g : JFrame} (hg : g.method = m) (hs : g.stack = .int x :: .int j :: .ref a :: S) (hd : decode c.code g.pc = .ok (.castore, 1)) :
    ∃ T' h', Stand p l e R s m args below meth c T' (locs ++ [⟨a, j.toNatClampNeg⟩]) cells slots ∧ T'.heap = h' ∧ Wr h h' a j.toNatClampNeg (.int (nar .char x)) ∧ Arv Z h' a k .char z (vs.set i (.int (nar .char x))) dv ∧ ∀ target, Steps p.tables e below (T'.setTop { g with pc := g.pc + 1, stack := S }) target → Steps p.tables e below (T.setTop g) target := by
  obtain ⟨cl, A, q1, q, n, H, G⟩ := F
  obtain ⟨T', h', X', e', W, st⟩ := stC X hx hZ eT A (inb_of q hj) hg hs hd
  exact ⟨T', h', X', e', W, Arv.set A q1 q n H G (fits_nar_char x) W i hi hi2, st⟩
theorem own_astB {p : Program} {l : Launch} {e : Env} {R : Room} {s : State} {m : MethodId} {args : Array Value} {below : List Frame} {meth : Method} {c : Code} {T : State} {locs : List Loc} {cells slots : Nat} {Z : State} {h : Heap} {a : Addr} {k : ClassId} {z j : Int32} {vs : List Value} {dv : Value} {S : List Value} {x : Int32} (X : Stand p l e R s m args below meth c T locs cells slots) (hx : p.tables.exec = Jvm.exec) (hZ : Z.Warmed39 s.vm) (eT : T.heap = h) (F : Arv Z h a k .byte z vs dv) (hj : ¬ j < 0 ∧ j < z) (i : Nat) (hi : j.toNatClampNeg = i) (hi2 : i < vs.length) {g : JFrame} (hg : g.method = m) (hs : g.stack = .int x :: .int j :: .ref a :: S) (hd : decode c.code g.pc = .ok (.bastore, 1)) :
    ∃ T' h', Stand p l e R s m args below meth c T' (locs ++ [⟨a, j.toNatClampNeg⟩]) cells slots ∧ T'.heap = h' ∧ Wr h h' a j.toNatClampNeg (.int (nar .byte x)) ∧ Arv Z h' a k .byte z (vs.set i (.int (nar .byte x))) dv ∧ ∀ target, Steps p.tables e below (T'.setTop { g with pc := g.pc + 1, stack := S }) target → Steps p.tables e below (T.setTop g) target := by
  obtain ⟨cl, A, q1, q, n, H, G⟩ := F
  obtain ⟨T', h', X', e', W, st⟩ := stB X hx hZ eT A (inb_of q hj) hg hs hd
  exact ⟨T', h', X', e', W, Arv.set A q1 q n H G (fits_nar_byte x) W i hi hi2, st⟩
abbrev HW (Z : State) (a0 : Array Value) : Prop := ∀ d ∈ tables_1, d.before a0 Z = true
theorem ow {Z : State} {a0 : Array Value} {d : Jvm.Cond} (i : Nat) (hw : HW Z a0) (q : tables_1[i]? = some d) : d.before a0 Z = true := hw d (List.mem_of_getElem? q)
abbrev z0 : Value := .int 0
abbrev SCS (Z : State) (z : Int32) : Prop := Sta Z Z.heap "java/lang/String" "COMPACT_STRINGS" "Z" (.int z)
variable {Z : State} {a0 : Array Value}
abbrev vr (a : Addr) : Slot := .val (.ref a)
abbrev vi (z : Int32) : Slot := .val (.int z)
def own_u8 (x : Int32) : Int32 := (x.toUInt32 >>> ((8 : Int32) &&& 31).toUInt32).toInt32
def own_u16 (x : Int32) : Int32 := (x.toUInt32 >>> ((16 : Int32) &&& 31).toUInt32).toInt32
def own_sys (x : Int32) : Int32 := if (x &&& (255 : Int32)) = (58 : Int32) then 59 else x &&& (255 : Int32)
theorem own_sys1 {x : Int32} (h : (x &&& (255 : Int32)) = (58 : Int32)) : some (Value.int (59 : Int32)) = some (.int (own_sys x)) := by simp [own_sys, h]
theorem own_sys2 {x : Int32} (h : ¬ ((x &&& (255 : Int32)) = (58 : Int32))) : some (Value.int (x &&& (255 : Int32))) = some (.int (own_sys x)) := by simp [own_sys, h]
theorem own_le255 {y : Int32} (h : y < (256 : Int32)) : ¬ ((255 : Int32) < y) := by
  rw [Int32.lt_iff_toInt_lt] at *; have : (256 : Int32).toInt = 256 := rfl; have : (255 : Int32).toInt = 255 := rfl; omega
theorem own_m255a (x : Int32) : ¬ ((x &&& (255 : Int32)) < (0 : Int32)) := by
  have h := c_mask x 255 8 (by decide) (by decide)
  rw [Int32.lt_iff_toInt_lt, h]; show ¬ _ < (0 : Int); omega
theorem own_m255b (x : Int32) : ¬ ((255 : Int32) < (x &&& (255 : Int32))) := by
  have h := c_mask x 255 8 (by decide) (by decide)
  rw [Int32.lt_iff_toInt_lt, h]; show ¬ (255 : Int) < _; omega
theorem own_narb (x : Int32) : nar .byte (x.toInt8.toInt32) = x.toInt8.toInt32 := by
  show (x.toInt8.toInt32).toInt8.toInt32 = _
  simp
theorem own_c2c {x : Int32} (h1 : ¬ (x < (0 : Int32))) (h2 : ¬ ((255 : Int32) < x)) : x.toUInt32.toUInt16.toUInt32.toInt32 = x := by
  have h := c_i2c x
  rw [Int32.lt_iff_toInt_lt] at h1 h2
  have e1 : (0 : Int32).toInt = 0 := rfl
  have e2 : (255 : Int32).toInt = 255 := rfl
  apply Int32.toInt_inj.mp; omega
theorem own_b2c {x : Int32} (h1 : ¬ (x < (0 : Int32))) (h2 : ¬ ((255 : Int32) < x)) : (x.toInt8.toInt32 &&& (255 : Int32)) = x := by
  have h := c_mask (x.toInt8.toInt32) 255 8 (by decide) (by decide)
  have q := c_i2b x
  rw [Int32.lt_iff_toInt_lt] at h1 h2
  have e1 : (0 : Int32).toInt = 0 := rfl
  have e2 : (255 : Int32).toInt = 255 := rfl
  apply Int32.toInt_inj.mp; rw [h]; omega
theorem own_b58 {x : Int32} (h : x = (58 : Int32)) : (x.toInt8.toInt32) = (58 : Int32) := by subst h; decide
theorem own_n58 {x : Int32} (h1 : ¬ (x < (0 : Int32))) (h2 : ¬ ((255 : Int32) < x)) (h : ¬ (x = (58 : Int32))) : ¬ ((x.toInt8.toInt32) = (58 : Int32)) := fun q => h (by rw [← own_b2c h1 h2, q]; decide)
theorem own_kcp {Z : State} {h h' : Heap} {b : Addr} {k : ClassId} {ty : FieldType} {z : Int32} {vs : List Value} {dv : Value} {n : Nat} {ws : List (Addr × Nat)} (K : Keep h h' [b]) (B : Arv Z h b k ty z vs dv) (hn : (List.range z.toNatClampNeg).map (fun i => (b, i)) = ws) (hw : ∃ l, ws = (b, 0) :: l) : KL h h' ws := by
  obtain ⟨c0, A, -, S, -⟩ := B
  refine ⟨K.1, fun x c q => ?_⟩
  by_cases e : x = b
  · subst e
    obtain ⟨c', r1, r2, r3, r4⟩ := K.2.2 x c q
    refine ⟨c', r1, r2, r3, r4, fun i hi => ?_, fun hn' => ?_⟩
    · have hsz : c.slots.size = z.toNatClampNeg := by cases q.symm.trans A.1; exact S
      have : ¬ i < z.toNatClampNeg := fun hlt => hi (hn ▸ List.mem_map.mpr ⟨i, List.mem_range.mpr hlt, rfl⟩)
      rw [Array.getElem?_eq_none (by omega), Array.getElem?_eq_none (by omega)]
    · obtain ⟨l, hl⟩ := hw
      exact absurd rfl (hn' (x, 0) (hl ▸ List.mem_cons_self))
  · exact ⟨c, K.2.1 x c q (by simpa using e), rfl, rfl, rfl, fun _ _ => rfl, fun _ => rfl⟩
theorem own_sysa (x : Int32) : ¬ ((own_sys x) < (0 : Int32)) := by
  unfold own_sys; split
  · decide
  · exact own_m255a x
theorem own_sysb (x : Int32) : ¬ ((255 : Int32) < (own_sys x)) := by
  unfold own_sys; split
  · decide
  · exact own_m255b x
theorem own_sysn (x : Int32) : ¬ (((own_sys x).toInt8.toInt32) = (58 : Int32)) := by
  refine own_n58 (own_sysa x) (own_sysb x) ?_
  unfold own_sys; split
  · decide
  · assumption
abbrev b0_ := method_2_code
theorem d0 : decode b0_ 0 = .ok (.iload_n 0, 1) := by decide +kernel
theorem d1 : decode b0_ 1 = .ok (.sipush 255, 3) := by decide +kernel
theorem d2 : decode b0_ 4 = .ok (.iand, 1) := by decide +kernel
theorem d3 : decode b0_ 5 = .ok (.i2c, 1) := by decide +kernel
theorem d4 : decode b0_ 6 = .ok (.istore_n 1, 1) := by decide +kernel
theorem d5 : decode b0_ 7 = .ok (.iload_n 1, 1) := by decide +kernel
theorem d6 : decode b0_ 8 = .ok (.bipush 58, 2) := by decide +kernel
theorem d7 : decode b0_ 10 = .ok (.if_icmp .ne 6, 3) := by decide +kernel
theorem d8 : decode b0_ 13 = .ok (.bipush 59, 2) := by decide +kernel
theorem d9 : decode b0_ 15 = .ok (.istore_n 1, 1) := by decide +kernel
theorem d10 : decode b0_ 16 = .ok (.iload_n 1, 1) := by decide +kernel
theorem d11 : decode b0_ 17 = .ok (.ireturn, 1) := by decide +kernel
theorem pn_IdentifierToStringPinLaw460 : plainName "com/example/keen_roster/keenroster/core/IdentifierToStringPinLaw" = true := by first | (simp [plainName, overriddenIn]; done) | decide +kernel
abbrev y0_sysChar : MethodName := ⟨"com/example/keen_roster/keenroster/core/IdentifierToStringPinLaw", "sysChar", "(I)C"⟩
def Q_r_sys (Z : State) (p0 : Int32) (h0 : Heap) (n0 : Nat) (v : Option Value) (h : Heap) (L : List Loc) : Prop := v = some (.int (own_sys p0)) ∧ Fr n0 L ∧ h = h0
theorem ef_r_sys1 (p0 : Int32) (m : MethodId) : entryFrame m #[(.int p0)] 2 = mkF m 0 #[.val (.int p0), .unset] [] := by first | (simp [entryFrame, mkF, argsToLocals, Value.category]; done) | rfl
set_option maxRecDepth 65536 in
set_option maxHeartbeats 40000000 in
theorem r_sys1 (l : Launch) (Z : State) (a0 : Array Value) (hw : HW Z a0) (ws : List Jvm.Cond) (p0 : Int32) (h0 : Heap) (n0 : Nat) (Z0 : n0 ≤ h0.size) (hp0 : (p0 &&& (255 : Int32)) = (58 : Int32)) :
    MF l Z y0_sysChar b0_ 2 (some .char) ws ⟨0, 0, 0, 0⟩ #[(.int p0)] h0 (Q_r_sys Z p0 h0 n0) := by
  refine own_body (plainFor_of_name pn_IdentifierToStringPinLaw460) (ef_r_sys1 p0) (by decide) (by decide) ?_
  intro p e s m below meth c s₁ hx hby hml hown hnm hret hZ hh e0 X0
  have N0 := Fr.nil n0
  refine ⟨s₁, _, some (.int 59), X0, (fun h => by cases h <;> rfl), ?_, fun fs hr => ?_⟩
  · show Q_r_sys Z p0 h0 n0 _ s₁.heap _
    rw [e0]
    exact ⟨(own_sys1 hp0), N0, rfl⟩
  · refine t_iloadN 1 X0.here hx (hb hby d0) rfl rfl ?_
    refine t_sipush 4 (r := 255) X0.here hx (hb hby d1) (by decide) rfl ?_
    refine t_iand 5 X0.here hx (hb hby d2) rfl rfl ?_
    refine t_i2c 6 (r := (p0 &&& (255 : Int32))) X0.here hx (hb hby d3) (i2c_mask _) rfl ?_
    refine t_istoreN (pc' := 7) (L' := #[vi p0, vi ((p0 &&& (255 : Int32)))]) X0.here hx (hb hby d4) rfl rfl ?_
    refine t_iloadN 8 X0.here hx (hb hby d5) rfl rfl ?_
    refine t_bipush 10 (r := 58) X0.here hx (hb hby d6) (by decide) rfl ?_
    refine t_icmpNo 13 X0.here hx (hb hby d7) (teq hp0).2 rfl ?_
    refine t_bipush 15 (r := 59) X0.here hx (hb hby d8) (by decide) rfl ?_
    refine t_istoreN (pc' := 16) (L' := #[vi p0, vi 59]) X0.here hx (hb hby d9) rfl rfl ?_
    refine t_iloadN 17 X0.here hx (hb hby d10) rfl rfl ?_
    exact retN X0 hx (t := .char) hret (by simp) (hb hby d11) hr
theorem ef_r_sys2 (p0 : Int32) (m : MethodId) : entryFrame m #[(.int p0)] 2 = mkF m 0 #[.val (.int p0), .unset] [] := by first | (simp [entryFrame, mkF, argsToLocals, Value.category]; done) | rfl
set_option maxRecDepth 65536 in
set_option maxHeartbeats 40000000 in
theorem r_sys2 (l : Launch) (Z : State) (a0 : Array Value) (hw : HW Z a0) (ws : List Jvm.Cond) (p0 : Int32) (h0 : Heap) (n0 : Nat) (Z0 : n0 ≤ h0.size) (hp0 : ¬ ((p0 &&& (255 : Int32)) = (58 : Int32))) :
    MF l Z y0_sysChar b0_ 2 (some .char) ws ⟨0, 0, 0, 0⟩ #[(.int p0)] h0 (Q_r_sys Z p0 h0 n0) := by
  refine own_body (plainFor_of_name pn_IdentifierToStringPinLaw460) (ef_r_sys2 p0) (by decide) (by decide) ?_
  intro p e s m below meth c s₁ hx hby hml hown hnm hret hZ hh e0 X0
  have N0 := Fr.nil n0
  refine ⟨s₁, _, some (.int (p0 &&& (255 : Int32))), X0, (fun h => by cases h <;> rfl), ?_, fun fs hr => ?_⟩
  · show Q_r_sys Z p0 h0 n0 _ s₁.heap _
    rw [e0]
    exact ⟨(own_sys2 hp0), N0, rfl⟩
  · rw [← (show (nar .char (p0 &&& (255 : Int32))) = (p0 &&& (255 : Int32)) from (i2c_mask _))] at hr
    refine t_iloadN 1 X0.here hx (hb hby d0) rfl rfl ?_
    refine t_sipush 4 (r := 255) X0.here hx (hb hby d1) (by decide) rfl ?_
    refine t_iand 5 X0.here hx (hb hby d2) rfl rfl ?_
    refine t_i2c 6 (r := (p0 &&& (255 : Int32))) X0.here hx (hb hby d3) (i2c_mask _) rfl ?_
    refine t_istoreN (pc' := 7) (L' := #[vi p0, vi ((p0 &&& (255 : Int32)))]) X0.here hx (hb hby d4) rfl rfl ?_
    refine t_iloadN 8 X0.here hx (hb hby d5) rfl rfl ?_
    refine t_bipush 10 (r := 58) X0.here hx (hb hby d6) (by decide) rfl ?_
    refine t_icmpYes (pc := 10) 16 X0.here hx (hb hby d7) (feq hp0).2 (by decide) (by decide) ?_
    refine t_iloadN 17 X0.here hx (hb hby d10) rfl rfl ?_
    exact retN X0 hx (t := .char) hret (by simp) (hb hby d11) hr
theorem r_sys (l : Launch) (Z : State) (a0 : Array Value) (hw : HW Z a0) (ws : List Jvm.Cond) (p0 : Int32) (h0 : Heap) (n0 : Nat) (Z0 : n0 ≤ h0.size) :
    MF l Z y0_sysChar b0_ 2 (some .char) ws ⟨0, 0, 0, 0⟩ #[(.int p0)] h0 (Q_r_sys Z p0 h0 n0) := by
  by_cases hc : (p0 &&& (255 : Int32)) = (58 : Int32)
  · exact r_sys1 l Z a0 hw ws p0 h0 n0 Z0 hc
  · exact r_sys2 l Z a0 hw ws p0 h0 n0 Z0 hc
def w0 (hw : HW Z a0) := ow 0 hw rfl
def w3 (hw : HW Z a0) := ow 3 hw rfl
def w2 (hw : HW Z a0) := ow 2 hw rfl
theorem pd_0 : parseMethodDescriptor "(I)C" = some ⟨[.int], some .char⟩ := by decide +kernel
def w1 (hw : HW Z a0) := ow 1 hw rfl
def w4 (hw : HW Z a0) := ow 4 hw rfl
def w5 (hw : HW Z a0) := ow 5 hw rfl
def w6 (hw : HW Z a0) := ow 6 hw rfl
def w31 (hw : HW Z a0) := ow 31 hw rfl
abbrev Fd0 (Z : State) (h : Heap) (a : Addr) (v : Value) : Prop := Fld Z h a "java/lang/String" "coder" "B" v
abbrev sl0 (Z : State) : Nat := Jvm.RoadKit.slotOf Z "java/lang/String" "coder" "B"
def w33 (hw : HW Z a0) := ow 33 hw rfl
abbrev Fd1 (Z : State) (h : Heap) (a : Addr) (v : Value) : Prop := Fld Z h a "java/lang/String" "value" "[B" v
abbrev sl1 (Z : State) : Nat := Jvm.RoadKit.slotOf Z "java/lang/String" "value" "[B"
def w7 (hw : HW Z a0) := ow 7 hw rfl
def w8 (hw : HW Z a0) := ow 8 hw rfl
abbrev b1_ := jdk_42_method_3_code
theorem d12 : decode b1_ 0 = .ok (.aload_n 0, 1) := by decide +kernel
theorem d13 : decode b1_ 1 = .ok (.aload_n 1, 1) := by decide +kernel
theorem d14 : decode b1_ 2 = .ok (.iconst 0, 1) := by decide +kernel
theorem d15 : decode b1_ 3 = .ok (.aload_n 1, 1) := by decide +kernel
theorem d16 : decode b1_ 4 = .ok (.arraylength, 1) := by decide +kernel
theorem d17 : decode b1_ 5 = .ok (.aconst_null, 1) := by decide +kernel
theorem d18 : decode b1_ 6 = .ok (.invokespecial 27, 3) := by decide +kernel
def w11 (hw : HW Z a0) := ow 11 hw rfl
abbrev b2_ := jdk_42_method_149_code
theorem d19 : decode b2_ 0 = .ok (.aload_n 0, 1) := by decide +kernel
theorem d20 : decode b2_ 1 = .ok (.invokespecial 1, 3) := by decide +kernel
def w15 (hw : HW Z a0) := ow 15 hw rfl
def w16 (hw : HW Z a0) := ow 16 hw rfl
def w17 (hw : HW Z a0) := ow 17 hw rfl
theorem d21 : decode b2_ 4 = .ok (.iload_n 3, 1) := by decide +kernel
theorem d22 : decode b2_ 5 = .ok (.ifCond .ne 22, 3) := by decide +kernel
theorem d23 : decode b2_ 27 = .ok (.getstatic 38, 3) := by decide +kernel
def w18 (hw : HW Z a0) := ow 18 hw rfl
theorem d24 : decode b2_ 30 = .ok (.ifCond .eq 28, 3) := by decide +kernel
theorem d25 : decode b2_ 33 = .ok (.aload_n 1, 1) := by decide +kernel
theorem d26 : decode b2_ 34 = .ok (.iload_n 2, 1) := by decide +kernel
theorem d27 : decode b2_ 35 = .ok (.iload_n 3, 1) := by decide +kernel
theorem d28 : decode b2_ 36 = .ok (.invokestatic 177, 3) := by decide +kernel
def w19 (hw : HW Z a0) := ow 19 hw rfl
abbrev b3_ := jdk_52_method_16_code
theorem d29 : decode b3_ 0 = .ok (.iload_n 2, 1) := by decide +kernel
theorem d30 : decode b3_ 1 = .ok (.newarray .byte, 2) := by decide +kernel
def w23 (hw : HW Z a0) := ow 23 hw rfl
theorem d31 : decode b3_ 3 = .ok (.astore_n 3, 1) := by decide +kernel
theorem d32 : decode b3_ 4 = .ok (.aload_n 0, 1) := by decide +kernel
theorem d33 : decode b3_ 5 = .ok (.iload_n 1, 1) := by decide +kernel
theorem d34 : decode b3_ 6 = .ok (.aload_n 3, 1) := by decide +kernel
theorem d35 : decode b3_ 7 = .ok (.iconst 0, 1) := by decide +kernel
theorem d36 : decode b3_ 8 = .ok (.iload_n 2, 1) := by decide +kernel
theorem d37 : decode b3_ 9 = .ok (.invokestatic 115, 3) := by decide +kernel
def w24 (hw : HW Z a0) := ow 24 hw rfl
abbrev b4_ := jdk_52_method_21_code
theorem d38 : decode b4_ 0 = .ok (.iconst 0, 1) := by decide +kernel
theorem d39 : decode b4_ 1 = .ok (.istore 5, 2) := by decide +kernel
theorem d40 : decode b4_ 3 = .ok (.iload 5, 2) := by decide +kernel
theorem d41 : decode b4_ 5 = .ok (.iload 4, 2) := by decide +kernel
theorem d42 : decode b4_ 7 = .ok (.if_icmp .ge 37, 3) := by decide +kernel
theorem d43 : decode b4_ 10 = .ok (.aload_n 0, 1) := by decide +kernel
theorem d44 : decode b4_ 11 = .ok (.iload_n 1, 1) := by decide +kernel
theorem d45 : decode b4_ 12 = .ok (.caload, 1) := by decide +kernel
theorem d46 : decode b4_ 13 = .ok (.istore 6, 2) := by decide +kernel
theorem d47 : decode b4_ 15 = .ok (.iload 6, 2) := by decide +kernel
theorem d48 : decode b4_ 17 = .ok (.sipush 255, 3) := by decide +kernel
theorem d49 : decode b4_ 20 = .ok (.if_icmp .le 6, 3) := by decide +kernel
theorem d50 : decode b4_ 26 = .ok (.aload_n 2, 1) := by decide +kernel
theorem d51 : decode b4_ 27 = .ok (.iload_n 3, 1) := by decide +kernel
theorem d52 : decode b4_ 28 = .ok (.iload 6, 2) := by decide +kernel
theorem d53 : decode b4_ 30 = .ok (.i2b, 1) := by decide +kernel
theorem d54 : decode b4_ 31 = .ok (.bastore, 1) := by decide +kernel
theorem d55 : decode b4_ 32 = .ok (.iinc 1 1, 3) := by decide +kernel
theorem d56 : decode b4_ 35 = .ok (.iinc 3 1, 3) := by decide +kernel
theorem d57 : decode b4_ 38 = .ok (.iinc 5 1, 3) := by decide +kernel
theorem d58 : decode b4_ 41 = .ok (.goto (-38), 3) := by decide +kernel
theorem d59 : decode b4_ 44 = .ok (.iload 4, 2) := by decide +kernel
theorem d60 : decode b4_ 46 = .ok (.ireturn, 1) := by decide +kernel
theorem pn_StringUTF16906 : plainName "java/lang/StringUTF16" = true := by first | (simp [plainName, overriddenIn]; done) | decide +kernel
abbrev y1_compress : MethodName := ⟨"java/lang/StringUTF16", "compress", "([CI[BII)I"⟩
def WS_r4_compress (Z : State) (o2 : Addr) : List (Addr × Nat) := [(o2, (0 : Int32).toNatClampNeg)]
def Q_r4_compress (Z : State) (o0 o2 : Addr) (i_1 : Int32) (k_o0 k_o2 : ClassId) (h0 : Heap) (n0 : Nat) (v : Option Value) (h : Heap) (L : List Loc) : Prop := v = some (.int 1) ∧ Fr n0 L ∧ KL h0 h (WS_r4_compress Z o2) ∧ Arv Z h o2 k_o2 .byte 1 [(.int (i_1.toInt8.toInt32))] z0
theorem ef_r4_compress (o0 o2 : Addr) (m : MethodId) : entryFrame m #[(.ref o0), (.int 0), (.ref o2), (.int 0), (.int 1)] 7 = mkF m 0 #[.val (.ref o0), .val (.int 0), .val (.ref o2), .val (.int 0), .val (.int 1), .unset, .unset] [] := by first | (simp [entryFrame, mkF, argsToLocals, Value.category]; done) | rfl
set_option maxRecDepth 65536 in
set_option maxHeartbeats 40000000 in
theorem r4_compress (l : Launch) (Z : State) (a0 : Array Value) (hw : HW Z a0) (ws : List Jvm.Cond) (o0 o2 : Addr) (i_1 : Int32) (k_o0 k_o2 : ClassId) (h0 : Heap) (n0 : Nat) (Z0 : n0 ≤ h0.size) (V_o0 : Arv Z h0 o0 k_o0 .char 1 [(.int i_1)] z0) (hp0 : ¬ ((255 : Int32) < i_1)) (V_o2 : Arv Z h0 o2 k_o2 .byte 1 [z0] z0) (g_o2 : n0 ≤ o2) :
    MF l Z y1_compress b4_ 7 (some .int) ws ⟨0, 0, 0, 0⟩ #[(.ref o0), z0, (.ref o2), z0, (.int 1)] h0 (Q_r4_compress Z o0 o2 i_1 k_o0 k_o2 h0 n0) := by
  refine own_body (plainFor_of_name pn_StringUTF16906) (ef_r4_compress o0 o2) (by decide) (by decide) ?_
  intro p e s m below meth c s₁ hx hby hml hown hnm hret hZ hh e0 X0
  have N0 := Fr.nil n0
  obtain ⟨T2, h2, X2, e2, W2, V2, st2⟩ := own_astB X0 hx hZ e0 V_o2 (j := 0) (by decide) 0 rfl (Nat.le_of_ble_eq_true rfl) (g := (mkF m 31 #[vr o0, vi 0, vr o2, vi 0, vi 1, vi 0, vi i_1] [(.int (i_1.toInt8.toInt32)), z0, (.ref o2)])) rfl rfl (hb hby d54)
  rw [show (nar .byte (i_1.toInt8.toInt32)) = (i_1.toInt8.toInt32) from (own_narb _)] at V2
  have K2 := KL.ofW W2
  replace V2 : Arv Z h2 o2 k_o2 .byte 1 [(.int (i_1.toInt8.toInt32))] z0 := V2
  have N2 := Fr.snoc X2 N0 g_o2
  have C0 := (KL.refl h0 (WS_r4_compress Z o2)).trans K2 (naO (own_mi 0 rfl) na0)
  refine ⟨T2, _, some (.int 1), X2, (fun h => by cases h <;> rfl), ?_, fun fs hr => ?_⟩
  · show Q_r4_compress Z o0 o2 i_1 k_o0 k_o2 h0 n0 _ T2.heap _
    rw [e2]
    exact ⟨rfl, N2, C0, V2⟩
  · refine t_iconst 1 (r := 0) X0.here hx (hb hby d38) (by decide) rfl ?_
    refine t_istore (pc' := 3) (L' := #[vr o0, vi 0, vr o2, vi 0, vi 1, vi 0, .unset]) X0.here hx (hb hby d39) rfl rfl ?_
    refine t_iload 5 X0.here hx (hb hby d40) rfl rfl ?_
    refine t_iload 7 X0.here hx (hb hby d41) rfl rfl ?_
    refine t_icmpNo 10 X0.here hx (hb hby d42) (by decide) rfl ?_
    refine t_aloadN 11 X0.here hx (hb hby d43) rfl rfl rfl ?_
    refine t_iloadN 12 X0.here hx (hb hby d44) rfl rfl ?_
    refine own_aldC (pc' := 13) X0 hx hZ e0 V_o0 (j := 0) (v := (.int i_1)) (by decide) rfl (hb hby d45) rfl ?_
    refine t_istore (pc' := 15) (L' := #[vr o0, vi 0, vr o2, vi 0, vi 1, vi 0, vi i_1]) X0.here hx (hb hby d46) rfl rfl ?_
    refine t_iload 17 X0.here hx (hb hby d47) rfl rfl ?_
    refine t_sipush 20 (r := 255) X0.here hx (hb hby d48) (by decide) rfl ?_
    refine t_icmpYes (pc := 20) 26 X0.here hx (hb hby d49) (flt hp0).2.2.2 (by decide) (by decide) ?_
    refine t_aloadN 27 X0.here hx (hb hby d50) rfl rfl rfl ?_
    refine t_iloadN 28 X0.here hx (hb hby d51) rfl rfl ?_
    refine t_iload 30 X0.here hx (hb hby d52) rfl rfl ?_
    refine t_i2b 31 X0.here hx (hb hby d53) rfl rfl ?_
    refine st2 _ ?_
    refine t_iinc (pc' := 35) (L' := #[vr o0, vi 1, vr o2, vi 0, vi 1, vi 0, vi i_1]) X2.here hx (hb hby d55) rfl (by first | rfl | decide) rfl ?_
    refine t_iinc (pc' := 38) (L' := #[vr o0, vi 1, vr o2, vi 1, vi 1, vi 0, vi i_1]) X2.here hx (hb hby d56) rfl (by first | rfl | decide) rfl ?_
    refine t_iinc (pc' := 41) (L' := #[vr o0, vi 1, vr o2, vi 1, vi 1, vi 1, vi i_1]) X2.here hx (hb hby d57) rfl (by first | rfl | decide) rfl ?_
    refine t_goto (pc := 41) 3 X2.here hx (hb hby d58) (by decide) (by decide) ?_
    refine t_iload 5 X2.here hx (hb hby d40) rfl rfl ?_
    refine t_iload 7 X2.here hx (hb hby d41) rfl rfl ?_
    refine t_icmpYes (pc := 7) 44 X2.here hx (hb hby d42) (by decide) (by decide) (by decide) ?_
    refine t_iload 46 X2.here hx (hb hby d59) rfl rfl ?_
    exact retI X2 hx hret (hb hby d60) hr
def w26 (hw : HW Z a0) := ow 26 hw rfl
def w21 (hw : HW Z a0) := ow 21 hw rfl
theorem pd_1 : parseMethodDescriptor "([CI[BII)I" = some ⟨[(.array .char), .int, (.array .byte), .int, .int], some .int⟩ := by decide +kernel
def w25 (hw : HW Z a0) := ow 25 hw rfl
theorem d61 : decode b3_ 12 = .ok (.istore 4, 2) := by decide +kernel
theorem d62 : decode b3_ 14 = .ok (.iload 4, 2) := by decide +kernel
theorem d63 : decode b3_ 16 = .ok (.iload_n 2, 1) := by decide +kernel
theorem d64 : decode b3_ 17 = .ok (.if_icmp .eq 40, 3) := by decide +kernel
theorem d65 : decode b3_ 57 = .ok (.aload_n 3, 1) := by decide +kernel
theorem d66 : decode b3_ 58 = .ok (.areturn, 1) := by decide +kernel
abbrev y2_compress : MethodName := ⟨"java/lang/StringUTF16", "compress", "([CII)[B"⟩
def Q_r3_compress (Z : State) (o0 : Addr) (i_2 : Int32) (k_o0 : ClassId) (h0 : Heap) (n0 : Nat) (v : Option Value) (h : Heap) (L : List Loc) : Prop := ∃ b1 : Addr, ∃ k1 : ClassId, v = some (.ref b1) ∧ Fr n0 L ∧ KL h0 h [] ∧ h0.size ≤ b1 ∧ Arv Z h b1 k1 .byte 1 [(.int (i_2.toInt8.toInt32))] z0
theorem ef_r3_compress (o0 : Addr) (m : MethodId) : entryFrame m #[(.ref o0), (.int 0), (.int 1)] 6 = mkF m 0 #[.val (.ref o0), .val (.int 0), .val (.int 1), .unset, .unset, .unset] [] := by first | (simp [entryFrame, mkF, argsToLocals, Value.category]; done) | rfl
set_option maxRecDepth 65536 in
set_option maxHeartbeats 40000000 in
theorem r3_compress (l : Launch) (Z : State) (a0 : Array Value) (hw : HW Z a0) (ws : List Jvm.Cond) (o0 : Addr) (i_2 : Int32) (k_o0 : ClassId) (h0 : Heap) (n0 : Nat) (Z0 : n0 ≤ h0.size) (V_o0 : Arv Z h0 o0 k_o0 .char 1 [(.int i_2)] z0) (hp0 : ¬ ((255 : Int32) < i_2)) :
    MF l Z y2_compress b3_ 6 (some (.array .byte)) ws ⟨1, 1, 1, 18⟩ #[(.ref o0), z0, (.int 1)] h0 (Q_r3_compress Z o0 i_2 k_o0 h0 n0) := by
  refine own_body (plainFor_of_name pn_StringUTF16906) (ef_r3_compress o0) (by decide) (by decide) ?_
  intro p e s m below meth c s₁ hx hby hml hown hnm hret hZ hh e0 X0
  have N0 := Fr.nil n0
  obtain ⟨T1, h1, k1, X1, e1, E1, A1, st1⟩ := newP (aty := .byte) X0 hx hZ (w23 hw) e0 (g := (mkF m 1 #[vr o0, vi 0, vi 1, .unset, .unset, .unset] [(.int 1)])) rfl (hb hby d30) rfl (by decide) (cap := 1) (by decide) (by decide) (by decide) (by decide)
  obtain ⟨b1, g1⟩ : ∃ z, z = h0.size := ⟨_, rfl⟩
  rw [← g1] at A1 st1
  have ge_b1 : h0.size ≤ b1 := Nat.le_of_eq g1.symm
  have K1 := KL.ofE E1
  have V1 : Arv Z h1 b1 k1 .byte 1 [z0] z0 := (Arv.new A1 (by decide)).pad (pad_rep [] z0 1)
  have f4 := (kArv K1 V_o0 na0)
  obtain ⟨_, T3, L3, X3, hQ3, st3⟩ := own_static X1 hx hZ hown (w24 hw) (w25 hw) (w21 hw) (w26 hw) (by decide) (r4_compress l Z a0 hw [] o0 b1 i_2 k_o0 k1 h1 n0 (Nat.le_trans Z0 K1.1) f4 hp0 V1 (Nat.le_trans Z0 ge_b1)) e1 (W := 0) (by decide) (g := (mkF m 9 #[vr o0, vi 0, vi 1, vr b1, .unset, .unset] [(.int 1), z0, (.ref b1), z0, (.ref o0)])) rfl hml.symm (argsL := [(.ref o0), z0, (.ref b1), z0, (.int 1)]) (rest := []) (lenOf pd_1 rfl) rfl rfl (own_wr rfl rfl) (hb hby d37)
  obtain ⟨rfl, N3q, K3, Q3_0⟩ := hQ3
  have N3 := Fr.app N0 N3q
  have C0 := (KL.refl h0 []).trans K1 na0
  have C1 := C0.trans K3 (naO (Or.inr ge_b1) na0)
  refine ⟨T3, _, some (.ref b1), X3, (fun h => by cases h <;> rfl), ?_, fun fs hr => ?_⟩
  · show Q_r3_compress Z o0 i_2 k_o0 h0 n0 _ T3.heap _
    exact ⟨b1, k1, rfl, N3, C1, ge_b1, Q3_0⟩
  · refine t_iloadN 1 X0.here hx (hb hby d29) rfl rfl ?_
    refine st1 _ ?_
    refine t_astoreN (pc' := 4) (L' := #[vr o0, vi 0, vi 1, vr b1, .unset, .unset]) X1.here hx (hb hby d31) rfl rfl rfl ?_
    refine t_aloadN 5 X1.here hx (hb hby d32) rfl rfl rfl ?_
    refine t_iloadN 6 X1.here hx (hb hby d33) rfl rfl ?_
    refine t_aloadN 7 X1.here hx (hb hby d34) rfl rfl rfl ?_
    refine t_iconst 8 (r := 0) X1.here hx (hb hby d35) (by decide) rfl ?_
    refine t_iloadN 9 X1.here hx (hb hby d36) rfl rfl ?_
    refine st3 _ ?_
    refine t_istore (pc' := 14) (L' := #[vr o0, vi 0, vi 1, vr b1, vi 1, .unset]) X3.here hx (hb hby d61) rfl rfl ?_
    refine t_iload 16 X3.here hx (hb hby d62) rfl rfl ?_
    refine t_iloadN 17 X3.here hx (hb hby d63) rfl rfl ?_
    refine t_icmpYes (pc := 17) 57 X3.here hx (hb hby d64) (by decide) (by decide) (by decide) ?_
    refine t_aloadN 58 X3.here hx (hb hby d65) rfl rfl rfl ?_
    jvm_step X3.here [X3.here.top, hx, (hb hby d66), X3.method', hret, Value.isRef, FieldType.isReference]
    first | (intro acts; rw [hr _ acts rfl rfl rfl]) | rw [hr _ _ rfl rfl rfl]
    exact Steps.refl _
def w22 (hw : HW Z a0) := ow 22 hw rfl
theorem pd_2 : parseMethodDescriptor "([CII)[B" = some ⟨[(.array .char), .int, .int], some (.array .byte)⟩ := by decide +kernel
def w20 (hw : HW Z a0) := ow 20 hw rfl
theorem d67 : decode b2_ 39 = .ok (.astore 5, 2) := by decide +kernel
theorem d68 : decode b2_ 41 = .ok (.aload_n 0, 1) := by decide +kernel
theorem d69 : decode b2_ 42 = .ok (.aload 5, 2) := by decide +kernel
theorem d70 : decode b2_ 44 = .ok (.iload_n 3, 1) := by decide +kernel
theorem d71 : decode b2_ 45 = .ok (.invokestatic 47, 3) := by decide +kernel
def w27 (hw : HW Z a0) := ow 27 hw rfl
abbrev b5_ := jdk_52_method_15_code
theorem d72 : decode b5_ 0 = .ok (.iload_n 1, 1) := by decide +kernel
theorem d73 : decode b5_ 1 = .ok (.aload_n 0, 1) := by decide +kernel
theorem d74 : decode b5_ 2 = .ok (.arraylength, 1) := by decide +kernel
theorem d75 : decode b5_ 3 = .ok (.isub, 1) := by decide +kernel
theorem d76 : decode b5_ 4 = .ok (.bipush 31, 2) := by decide +kernel
theorem d77 : decode b5_ 6 = .ok (.iushr, 1) := by decide +kernel
theorem d78 : decode b5_ 7 = .ok (.i2b, 1) := by decide +kernel
theorem d79 : decode b5_ 8 = .ok (.ireturn, 1) := by decide +kernel
abbrev y3_coderFromArrayLen : MethodName := ⟨"java/lang/StringUTF16", "coderFromArrayLen", "([BI)B"⟩
def Q_r5_coderFromArrayLen (Z : State) (o0 : Addr) (i_1 : Int32) (k_o0 : ClassId) (h0 : Heap) (n0 : Nat) (v : Option Value) (h : Heap) (L : List Loc) : Prop := v = some z0 ∧ Fr n0 L ∧ h = h0
theorem ef_r5_coderFromArrayLen (o0 : Addr) (m : MethodId) : entryFrame m #[(.ref o0), (.int 1)] 2 = mkF m 0 #[.val (.ref o0), .val (.int 1)] [] := by first | (simp [entryFrame, mkF, argsToLocals, Value.category]; done) | rfl
set_option maxRecDepth 65536 in
set_option maxHeartbeats 40000000 in
theorem r5_coderFromArrayLen (l : Launch) (Z : State) (a0 : Array Value) (hw : HW Z a0) (ws : List Jvm.Cond) (o0 : Addr) (i_1 : Int32) (k_o0 : ClassId) (h0 : Heap) (n0 : Nat) (Z0 : n0 ≤ h0.size) (V_o0 : Arv Z h0 o0 k_o0 .byte 1 [(.int i_1)] z0) :
    MF l Z y3_coderFromArrayLen b5_ 2 (some .byte) ws ⟨0, 0, 0, 0⟩ #[(.ref o0), (.int 1)] h0 (Q_r5_coderFromArrayLen Z o0 i_1 k_o0 h0 n0) := by
  refine own_body (plainFor_of_name pn_StringUTF16906) (ef_r5_coderFromArrayLen o0) (by decide) (by decide) ?_
  intro p e s m below meth c s₁ hx hby hml hown hnm hret hZ hh e0 X0
  have N0 := Fr.nil n0
  refine ⟨s₁, _, some z0, X0, (fun h => by cases h <;> rfl), ?_, fun fs hr => ?_⟩
  · show Q_r5_coderFromArrayLen Z o0 i_1 k_o0 h0 n0 _ s₁.heap _
    rw [e0]
    exact ⟨rfl, N0, rfl⟩
  · refine t_iloadN 1 X0.here hx (hb hby d72) rfl rfl ?_
    refine t_aloadN 2 X0.here hx (hb hby d73) rfl rfl rfl ?_
    refine own_arlen (pc' := 3) X0 hx hZ e0 V_o0 (hb hby d74) rfl ?_
    refine t_isub 4 (r := 0) X0.here hx (hb hby d75) (by decide : ((1 : Int32) - (1 : Int32)) = (0 : Int32)) rfl ?_
    refine t_bipush 6 (r := 31) X0.here hx (hb hby d76) (by decide) rfl ?_
    refine t_iushr 7 (r := 0) X0.here hx (hb hby d77) (by decide : (((0 : Int32).toUInt32 >>> ((31 : Int32) &&& 31).toUInt32).toInt32) = (0 : Int32)) rfl ?_
    refine t_i2b 8 (r := 0) X0.here hx (hb hby d78) (by decide : ((0 : Int32).toInt8.toInt32) = (0 : Int32)) rfl ?_
    exact retN X0 hx (t := .byte) hret (by simp) (hb hby d79) hr
def w29 (hw : HW Z a0) := ow 29 hw rfl
theorem pd_3 : parseMethodDescriptor "([BI)B" = some ⟨[(.array .byte), .int], some .byte⟩ := by decide +kernel
def w28 (hw : HW Z a0) := ow 28 hw rfl
theorem d80 : decode b2_ 48 = .ok (.putfield 15, 3) := by decide +kernel
def w30 (hw : HW Z a0) := ow 30 hw rfl
abbrev Ex0 (Z : State) (h : Heap) (a : Addr) : Prop := Exa Z h a "java/lang/String"
theorem d81 : decode b2_ 51 = .ok (.aload_n 0, 1) := by decide +kernel
theorem d82 : decode b2_ 52 = .ok (.aload 5, 2) := by decide +kernel
theorem d83 : decode b2_ 54 = .ok (.putfield 9, 3) := by decide +kernel
def w32 (hw : HW Z a0) := ow 32 hw rfl
theorem sn_0 {Z : State} {a0 : Array Value} (hw : HW Z a0) : Jvm.RoadKit.slotOf Z "java/lang/String" "value" "[B" ≠ Jvm.RoadKit.slotOf Z "java/lang/String" "coder" "B" := slot_ne (C := "java/lang/String") (a0 := a0) (Or.inr (w33 hw)) (Or.inr (w31 hw)) (by decide) (t := (.array .byte)) (t' := .byte) (by decide) (by decide)
theorem d84 : decode b2_ 57 = .ok (.return_, 1) := by decide +kernel
theorem sn_1 {Z : State} {a0 : Array Value} (hw : HW Z a0) : Jvm.RoadKit.slotOf Z "java/lang/String" "coder" "B" ≠ Jvm.RoadKit.slotOf Z "java/lang/String" "value" "[B" := slot_ne (C := "java/lang/String") (a0 := a0) (Or.inr (w31 hw)) (Or.inr (w33 hw)) (by decide) (t := .byte) (t' := (.array .byte)) (by decide) (by decide)
theorem pn_String564 : plainName "java/lang/String" = true := by first | (simp [plainName, overriddenIn]; done) | decide +kernel
abbrev y4__init_ : MethodName := ⟨"java/lang/String", "<init>", "([CIILjava/lang/Void;)V"⟩
def WS_r2__init_ (Z : State) (o0 : Addr) : List (Addr × Nat) := [(o0, (sl0 Z)), (o0, (sl1 Z))]
def Q_r2__init_ (Z : State) (o0 o1 : Addr) (i_2 i_4 : Int32) (k_o1 : ClassId) (h0 : Heap) (n0 : Nat) (v : Option Value) (h : Heap) (L : List Loc) : Prop := ∃ b1_5 : Addr, ∃ k1_5 : ClassId, v = none ∧ Fr n0 L ∧ KL h0 h (WS_r2__init_ Z o0) ∧ h0.size ≤ b1_5 ∧ Fd0 Z h o0 z0 ∧ Fd1 Z h o0 (.ref b1_5) ∧ Arv Z h b1_5 k1_5 .byte 1 [(.int (i_4.toInt8.toInt32))] z0
theorem ef_r2__init_ (o0 o1 : Addr) (m : MethodId) : entryFrame m #[(.ref o0), (.ref o1), (.int 0), (.int 1), .null] 6 = mkF m 0 #[.val (.ref o0), .val (.ref o1), .val (.int 0), .val (.int 1), .val .null, .unset] [] := by first | (simp [entryFrame, mkF, argsToLocals, Value.category]; done) | rfl
set_option maxRecDepth 65536 in
set_option maxHeartbeats 40000000 in
theorem r2__init_ (l : Launch) (Z : State) (a0 : Array Value) (hw : HW Z a0) (ws : List Jvm.Cond) (o0 o1 : Addr) (i_2 i_4 : Int32) (k_o1 : ClassId) (h0 : Heap) (n0 : Nat) (Z0 : n0 ≤ h0.size) (sCS : SCS Z i_2) (O0 : Old Z n0 h0) (hp0 : ¬ (i_2 = (0 : Int32))) (V_o1 : Arv Z h0 o1 k_o1 .char 1 [(.int i_4)] z0) (hp1 : ¬ ((255 : Int32) < i_4)) (F_o0_coder : Fd0 Z h0 o0 z0) (E_o0 : Ex0 Z h0 o0) (g_o0 : n0 ≤ o0) (F_o0_value : Fd1 Z h0 o0 .null) :
    MF l Z y4__init_ b2_ 6 none ws ⟨2, 1, 1, 35⟩ #[(.ref o0), (.ref o1), z0, (.int 1), .null] h0 (Q_r2__init_ Z o0 o1 i_2 i_4 k_o1 h0 n0) := by
  refine own_body (plainFor_of_name pn_String564) (ef_r2__init_ o0 o1) (by decide) (by decide) ?_
  intro p e s m below meth c s₁ hx hby hml hown hnm hret hZ hh e0 X0
  have N0 := Fr.nil n0
  obtain ⟨T1, X1, e1, st1⟩ := initO X0 hx hZ hown (w15 hw) (w16 hw) (w17 hw) e0 (g := (mkF m 1 #[vr o0, vr o1, vi 0, vi 1, .val .null, .unset] [(.ref o0)])) rfl hml.symm rfl (hb hby d20) (by decide) (W := 0) (own_wr rfl rfl) (by decide)
  obtain ⟨T3, X3, e3, st3⟩ := getS2 X1 hx hZ hown (host := "") (Or.inl (w18 hw)) Via.refl e1 (Sta.ext O0.2 sCS) (g := (mkF m 27 #[vr o0, vr o1, vi 0, vi 1, .val .null, .unset] [])) rfl (hb hby d23)
  obtain ⟨_, T5, L5, X5, hQ5, st5⟩ := own_static X3 hx hZ hown (w19 hw) (w20 hw) (w21 hw) (w22 hw) (by decide) (r3_compress l Z a0 hw [] o1 i_4 k_o1 h0 n0 Z0 V_o1 hp1) e3 (W := 0) (by decide) (g := (mkF m 36 #[vr o0, vr o1, vi 0, vi 1, .val .null, .unset] [(.int 1), z0, (.ref o1)])) rfl hml.symm (argsL := [(.ref o1), z0, (.int 1)]) (rest := []) (lenOf pd_2 rfl) rfl rfl (own_wr rfl rfl) (hb hby d28)
  obtain ⟨b1_5, k1_5, rfl, N5q, K5, Q5_0, Q5_1⟩ := hQ5
  have N5 := Fr.app N0 N5q
  obtain ⟨_, T7, L7, X7, hQ7, st7⟩ := own_static X5 hx hZ hown (w27 hw) (w28 hw) (w21 hw) (w29 hw) (by decide) (r5_coderFromArrayLen l Z a0 hw [] b1_5 (i_4.toInt8.toInt32) k1_5 T5.heap n0 (Nat.le_trans Z0 K5.1) Q5_1) rfl (W := 1) (by decide) (g := (mkF m 45 #[vr o0, vr o1, vi 0, vi 1, .val .null, vr b1_5] [(.int 1), (.ref b1_5), (.ref o0)])) rfl hml.symm (argsL := [(.ref b1_5), (.int 1)]) (rest := [(.ref o0)]) (lenOf pd_3 rfl) rfl rfl (own_wr rfl rfl) (hb hby d71)
  obtain ⟨rfl, N7q, e7⟩ := hQ7
  have N7 := Fr.app N5 N7q
  have f8 := (kFld K5 F_o0_coder nw0)
  have f9 := (kExa K5 E_o0)
  obtain ⟨T10, h10, X10, e10, W10, st10⟩ := putF X7 hx hZ hown (host := "") (Or.inl (w30 hw)) Via.refl e7 f8 f9 (Or.inr ⟨(w31 hw), rfl, hnm⟩) (w5 hw) (ty := .byte) (by decide) (by decide) (by decide) (g := (mkF m 48 #[vr o0, vr o1, vi 0, vi 1, .val .null, vr b1_5] [z0, (.ref o0)])) rfl rfl (hb hby d80)
  have K10 := KL.ofW W10
  have Fw10 : Fd0 Z h10 o0 z0 := Fld.same W10 f8
  have N10 := Fr.snoc X10 N7 g_o0
  have f11 := (kFld K10 (kFld K5 F_o0_value nw0) (nwS (Or.inr (sn_0 hw)) nw0))
  have f12 := (kExa K10 f9)
  obtain ⟨T13, h13, X13, e13, W13, st13⟩ := putF X10 hx hZ hown (host := "") (Or.inl (w32 hw)) Via.refl e10 f11 f12 (Or.inr ⟨(w33 hw), rfl, hnm⟩) (w5 hw) (ty := (.array .byte)) (by decide) rfl rfl (g := (mkF m 54 #[vr o0, vr o1, vi 0, vi 1, .val .null, vr b1_5] [(.ref b1_5), (.ref o0)])) rfl rfl (hb hby d83)
  have K13 := KL.ofW W13
  have Fw13 : Fd1 Z h13 o0 (.ref b1_5) := Fld.same W13 f11
  have N13 := Fr.snoc X13 N10 g_o0
  have C0 := (KL.refl h0 (WS_r2__init_ Z o0)).trans K5 na0
  have C1 := C0.trans K10 (naO (own_mi 0 rfl) na0)
  have C2 := C1.trans K13 (naO (own_mi 1 rfl) na0)
  have f14 := (kFld K13 Fw10 (nwS (Or.inr (sn_1 hw)) nw0))
  have lt_o0 : o0 < h0.size := Fld.lt F_o0_coder
  have f15 := (kArv K13 (kArv K10 Q5_1 (naN (lt_ne lt_o0 Q5_0) na0)) (naN (lt_ne lt_o0 Q5_0) na0))
  refine ⟨T13, _, none, X13, (fun h => by cases h <;> rfl), ?_, fun fs hr => ?_⟩
  · show Q_r2__init_ Z o0 o1 i_2 i_4 k_o1 h0 n0 _ T13.heap _
    rw [e13]
    exact ⟨b1_5, k1_5, rfl, N13, C2, Q5_0, f14, Fw13, f15⟩
  · refine t_aloadN 1 X0.here hx (hb hby d19) rfl rfl rfl ?_
    refine st1 _ ?_
    refine t_iloadN 5 X1.here hx (hb hby d21) rfl rfl ?_
    refine t_ifYes (pc := 5) 27 X1.here hx (hb hby d22) (by decide) (by decide) (by decide) ?_
    refine st3 _ ?_
    refine t_ifNo 33 X3.here hx (hb hby d24) ((if0 _ _).trans (feq hp0).1) rfl ?_
    refine t_aloadN 34 X3.here hx (hb hby d25) rfl rfl rfl ?_
    refine t_iloadN 35 X3.here hx (hb hby d26) rfl rfl ?_
    refine t_iloadN 36 X3.here hx (hb hby d27) rfl rfl ?_
    refine st5 _ ?_
    refine t_astore (pc' := 41) (L' := #[vr o0, vr o1, vi 0, vi 1, .val .null, vr b1_5]) X5.here hx (hb hby d67) rfl rfl rfl ?_
    refine t_aloadN 42 X5.here hx (hb hby d68) rfl rfl rfl ?_
    refine t_aload 44 X5.here hx (hb hby d69) rfl rfl rfl ?_
    refine t_iloadN 45 X5.here hx (hb hby d70) rfl rfl ?_
    refine st7 _ ?_
    refine st10 _ ?_
    refine t_aloadN 52 X10.here hx (hb hby d81) rfl rfl rfl ?_
    refine t_aload 54 X10.here hx (hb hby d82) rfl rfl rfl ?_
    refine st13 _ ?_
    exact X13.returnOut hx hret (hb hby d84) hr
def w14 (hw : HW Z a0) := ow 14 hw rfl
theorem pd_4 : parseMethodDescriptor "([CIILjava/lang/Void;)V" = some ⟨[(.array .char), .int, .int, (.object "java/lang/Void")], none⟩ := by decide +kernel
def w12 (hw : HW Z a0) := ow 12 hw rfl
theorem d85 : decode b1_ 9 = .ok (.return_, 1) := by decide +kernel
abbrev y5__init_ : MethodName := ⟨"java/lang/String", "<init>", "([C)V"⟩
def WS_r1__init_ (Z : State) (o0 : Addr) : List (Addr × Nat) := [(o0, (sl0 Z)), (o0, (sl1 Z))]
def Q_r1__init_ (Z : State) (o0 o1 : Addr) (i_1 : Int32) (k_o1 : ClassId) (i_2 : Int32) (h0 : Heap) (n0 : Nat) (v : Option Value) (h : Heap) (L : List Loc) : Prop := ∃ b1_5_3 : Addr, ∃ k1_5_3 : ClassId, v = none ∧ Fr n0 L ∧ KL h0 h (WS_r1__init_ Z o0) ∧ h0.size ≤ b1_5_3 ∧ Fd0 Z h o0 z0 ∧ Fd1 Z h o0 (.ref b1_5_3) ∧ Arv Z h b1_5_3 k1_5_3 .byte 1 [(.int (i_1.toInt8.toInt32))] z0
theorem ef_r1__init_ (o0 o1 : Addr) (m : MethodId) : entryFrame m #[(.ref o0), (.ref o1)] 2 = mkF m 0 #[.val (.ref o0), .val (.ref o1)] [] := by first | (simp [entryFrame, mkF, argsToLocals, Value.category]; done) | rfl
set_option maxRecDepth 65536 in
set_option maxHeartbeats 40000000 in
theorem r1__init_ (l : Launch) (Z : State) (a0 : Array Value) (hw : HW Z a0) (ws : List Jvm.Cond) (o0 o1 : Addr) (i_1 : Int32) (k_o1 : ClassId) (i_2 : Int32) (h0 : Heap) (n0 : Nat) (Z0 : n0 ≤ h0.size) (V_o1 : Arv Z h0 o1 k_o1 .char 1 [(.int i_1)] z0) (sCS : SCS Z i_2) (F_o0_coder : Fd0 Z h0 o0 z0) (E_o0 : Ex0 Z h0 o0) (F_o0_value : Fd1 Z h0 o0 .null) (O0 : Old Z n0 h0) (hp0 : ¬ (i_2 = (0 : Int32))) (hp1 : ¬ ((255 : Int32) < i_1)) (g_o0 : n0 ≤ o0) :
    MF l Z y5__init_ b1_ 2 none ws ⟨3, 1, 1, 52⟩ #[(.ref o0), (.ref o1)] h0 (Q_r1__init_ Z o0 o1 i_1 k_o1 i_2 h0 n0) := by
  refine own_body (plainFor_of_name pn_String564) (ef_r1__init_ o0 o1) (by decide) (by decide) ?_
  intro p e s m below meth c s₁ hx hby hml hown hnm hret hZ hh e0 X0
  have N0 := Fr.nil n0
  obtain ⟨_, T3, L3, X3, hQ3, st3⟩ := own_init X0 hx hZ rfl hown (w11 hw) (w12 hw) (w6 hw) (w14 hw) (by decide) (r2__init_ l Z a0 hw [] o0 o1 i_2 i_1 k_o1 h0 n0 Z0 sCS O0 hp0 V_o1 hp1 F_o0_coder E_o0 g_o0 F_o0_value) e0 (W := 0) (by decide) (g := (mkF m 6 #[vr o0, vr o1] [.null, (.int 1), z0, (.ref o1), (.ref o0)])) rfl hml.symm (argsL := [(.ref o1), z0, (.int 1), .null]) (rest := []) (lenOf pd_4 rfl) rfl rfl (own_wr rfl rfl) (hb hby d18)
  obtain ⟨b1_5_3, k1_5_3, rfl, N3q, K3, Q3_0, Q3_1, Q3_2, Q3_3⟩ := hQ3
  have N3 := Fr.app N0 N3q
  have C0 := (KL.refl h0 (WS_r1__init_ Z o0)).trans K3 (naO (own_mi 0 rfl) (naO (own_mi 1 rfl) na0))
  refine ⟨T3, _, none, X3, (fun h => by cases h <;> rfl), ?_, fun fs hr => ?_⟩
  · show Q_r1__init_ Z o0 o1 i_1 k_o1 i_2 h0 n0 _ T3.heap _
    exact ⟨b1_5_3, k1_5_3, rfl, N3, C0, Q3_0, Q3_1, Q3_2, Q3_3⟩
  · refine t_aloadN 1 X0.here hx (hb hby d12) rfl rfl rfl ?_
    refine t_aloadN 2 X0.here hx (hb hby d13) rfl rfl rfl ?_
    refine t_iconst 3 (r := 0) X0.here hx (hb hby d14) (by decide) rfl ?_
    refine t_aloadN 4 X0.here hx (hb hby d15) rfl rfl rfl ?_
    refine own_arlen (pc' := 5) X0 hx hZ e0 V_o1 (hb hby d16) rfl ?_
    refine t_aconst_null 6 X0.here hx (hb hby d17) rfl ?_
    refine st3 _ ?_
    exact X3.returnOut hx hret (hb hby d85) hr
def w10 (hw : HW Z a0) := ow 10 hw rfl
theorem pd_5 : parseMethodDescriptor "([C)V" = some ⟨[(.array .char)], none⟩ := by decide +kernel
def w9 (hw : HW Z a0) := ow 9 hw rfl
def w34 (hw : HW Z a0) := ow 34 hw rfl
def w35 (hw : HW Z a0) := ow 35 hw rfl
def w36 (hw : HW Z a0) := ow 36 hw rfl
def w102 (hw : HW Z a0) := ow 102 hw rfl
abbrev Fd2 (Z : State) (h : Heap) (a : Addr) (v : Value) : Prop := Fld Z h a "com/example/keen_roster/keenroster/core/Identifier" "system" "Ljava/lang/String;" v
abbrev sl2 (Z : State) : Nat := Jvm.RoadKit.slotOf Z "com/example/keen_roster/keenroster/core/Identifier" "system" "Ljava/lang/String;"
def w104 (hw : HW Z a0) := ow 104 hw rfl
abbrev Fd3 (Z : State) (h : Heap) (a : Addr) (v : Value) : Prop := Fld Z h a "com/example/keen_roster/keenroster/core/Identifier" "id" "Ljava/lang/String;" v
abbrev sl3 (Z : State) : Nat := Jvm.RoadKit.slotOf Z "com/example/keen_roster/keenroster/core/Identifier" "id" "Ljava/lang/String;"
def w37 (hw : HW Z a0) := ow 37 hw rfl
abbrev b6_ := prog_2_method_1_code
theorem d86 : decode b6_ 0 = .ok (.aload_n 0, 1) := by decide +kernel
theorem d87 : decode b6_ 1 = .ok (.invokespecial 1, 3) := by decide +kernel
def w40 (hw : HW Z a0) := ow 40 hw rfl
abbrev b7_ := jdk_30_method_1_code
theorem d88 : decode b7_ 0 = .ok (.aload_n 0, 1) := by decide +kernel
theorem d89 : decode b7_ 1 = .ok (.invokespecial 1, 3) := by decide +kernel
def w45 (hw : HW Z a0) := ow 45 hw rfl
theorem d90 : decode b7_ 4 = .ok (.return_, 1) := by decide +kernel
theorem pn_Record540 : plainName "java/lang/Record" = true := by first | (simp [plainName, overriddenIn]; done) | decide +kernel
abbrev y6__init_ : MethodName := ⟨"java/lang/Record", "<init>", "()V"⟩
def Q_r7__init_ (Z : State) (o0 : Addr) (h0 : Heap) (n0 : Nat) (v : Option Value) (h : Heap) (L : List Loc) : Prop := v = none ∧ Fr n0 L ∧ h = h0
theorem ef_r7__init_ (o0 : Addr) (m : MethodId) : entryFrame m #[(.ref o0)] 1 = mkF m 0 #[.val (.ref o0)] [] := by first | (simp [entryFrame, mkF, argsToLocals, Value.category]; done) | rfl
set_option maxRecDepth 65536 in
set_option maxHeartbeats 40000000 in
theorem r7__init_ (l : Launch) (Z : State) (a0 : Array Value) (hw : HW Z a0) (ws : List Jvm.Cond) (o0 : Addr) (h0 : Heap) (n0 : Nat) (Z0 : n0 ≤ h0.size) :
    MF l Z y6__init_ b7_ 1 none ws ⟨1, 0, 0, 12⟩ #[(.ref o0)] h0 (Q_r7__init_ Z o0 h0 n0) := by
  refine own_body (plainFor_of_name pn_Record540) (ef_r7__init_ o0) (by decide) (by decide) ?_
  intro p e s m below meth c s₁ hx hby hml hown hnm hret hZ hh e0 X0
  have N0 := Fr.nil n0
  obtain ⟨T1, X1, e1, st1⟩ := initO X0 hx hZ hown (w45 hw) (w16 hw) (w17 hw) e0 (g := (mkF m 1 #[vr o0] [(.ref o0)])) rfl hml.symm rfl (hb hby d89) (by decide) (W := 0) (own_wr rfl rfl) (by decide)
  refine ⟨T1, _, none, X1, (fun h => by cases h <;> rfl), ?_, fun fs hr => ?_⟩
  · show Q_r7__init_ Z o0 h0 n0 _ T1.heap _
    rw [e1]
    exact ⟨rfl, N0, rfl⟩
  · refine t_aloadN 1 X0.here hx (hb hby d88) rfl rfl rfl ?_
    refine st1 _ ?_
    exact X1.returnOut hx hret (hb hby d90) hr
def w44 (hw : HW Z a0) := ow 44 hw rfl
def w43 (hw : HW Z a0) := ow 43 hw rfl
theorem pd_6 : parseMethodDescriptor "()V" = some ⟨[], none⟩ := by decide +kernel
def w41 (hw : HW Z a0) := ow 41 hw rfl
theorem d91 : decode b6_ 4 = .ok (.aload_n 1, 1) := by decide +kernel
theorem d92 : decode b6_ 5 = .ok (.ldc 7, 2) := by decide +kernel
def w46 (hw : HW Z a0) := ow 46 hw rfl
def w166 (hw : HW Z a0) := ow 166 hw rfl
def w53 (hw : HW Z a0) := ow 53 hw rfl
theorem own_EW {Z : State} {a0 : Array Value} (hw : HW Z a0) : EW Z a0 consts_1 := (EW.cons (w46 hw) (by decide) (EW.cons (w53 hw) (by decide) (EW.cons (w166 hw) (by decide) (fun p hp => nomatch hp))))
def w47 (hw : HW Z a0) := ow 47 hw rfl
def w48 (hw : HW Z a0) := ow 48 hw rfl
theorem own_wS {Z : State} {a0 : Array Value} (hw : HW Z a0) : ∀ a ∈ Bundle.stringAtoms, a.before a0 Z = true := fun a ha => by
  simp only [Bundle.stringAtoms, List.mem_cons, List.not_mem_nil, or_false] at ha
  rcases ha with rfl | rfl | rfl | rfl | rfl | rfl | rfl
  all_goals first | exact (w5 hw) | exact (w6 hw) | exact (w23 hw) | exact (w33 hw) | exact (w31 hw) | exact (w47 hw) | exact (w48 hw)
theorem d93 : decode b6_ 7 = .ok (.invokestatic 9, 3) := by decide +kernel
def w49 (hw : HW Z a0) := ow 49 hw rfl
abbrev b8_ := jdk_31_method_11_code
theorem d94 : decode b8_ 0 = .ok (.aload_n 0, 1) := by decide +kernel
theorem d95 : decode b8_ 1 = .ok (.ifnonnull 12, 3) := by decide +kernel
theorem d96 : decode b8_ 13 = .ok (.aload_n 0, 1) := by decide +kernel
theorem d97 : decode b8_ 14 = .ok (.areturn, 1) := by decide +kernel
theorem pn_Objects675 : plainName "java/util/Objects" = true := by first | (simp [plainName, overriddenIn]; done) | decide +kernel
abbrev y7_requireNonNull : MethodName := ⟨"java/util/Objects", "requireNonNull", "(Ljava/lang/Object;Ljava/lang/String;)Ljava/lang/Object;"⟩
def Q_r8_requireNonNull (Z : State) (o0 o1 : Addr) (h0 : Heap) (n0 : Nat) (v : Option Value) (h : Heap) (L : List Loc) : Prop := v = some (.ref o0) ∧ Fr n0 L ∧ h = h0
theorem ef_r8_requireNonNull (o0 o1 : Addr) (m : MethodId) : entryFrame m #[(.ref o0), (.ref o1)] 2 = mkF m 0 #[.val (.ref o0), .val (.ref o1)] [] := by first | (simp [entryFrame, mkF, argsToLocals, Value.category]; done) | rfl
set_option maxRecDepth 65536 in
set_option maxHeartbeats 40000000 in
theorem r8_requireNonNull (l : Launch) (Z : State) (a0 : Array Value) (hw : HW Z a0) (ws : List Jvm.Cond) (o0 o1 : Addr) (h0 : Heap) (n0 : Nat) (Z0 : n0 ≤ h0.size) :
    MF l Z y7_requireNonNull b8_ 2 (some (.object "java/lang/Object")) ws ⟨0, 0, 0, 0⟩ #[(.ref o0), (.ref o1)] h0 (Q_r8_requireNonNull Z o0 o1 h0 n0) := by
  refine own_body (plainFor_of_name pn_Objects675) (ef_r8_requireNonNull o0 o1) (by decide) (by decide) ?_
  intro p e s m below meth c s₁ hx hby hml hown hnm hret hZ hh e0 X0
  have N0 := Fr.nil n0
  refine ⟨s₁, _, some (.ref o0), X0, (fun h => by cases h <;> rfl), ?_, fun fs hr => ?_⟩
  · show Q_r8_requireNonNull Z o0 o1 h0 n0 _ s₁.heap _
    rw [e0]
    exact ⟨rfl, N0, rfl⟩
  · refine t_aloadN 1 X0.here hx (hb hby d94) rfl rfl rfl ?_
    refine t_ifnonnullYes (pc := 1) 13 X0.here hx (hb hby d95) (by decide) (by decide) ?_
    refine t_aloadN 14 X0.here hx (hb hby d96) rfl rfl rfl ?_
    jvm_step X0.here [X0.here.top, hx, (hb hby d97), X0.method', hret, Value.isRef, FieldType.isReference]
    first | (intro acts; rw [hr _ acts rfl rfl rfl]) | rw [hr _ _ rfl rfl rfl]
    exact Steps.refl _
def w52 (hw : HW Z a0) := ow 52 hw rfl
def w51 (hw : HW Z a0) := ow 51 hw rfl
theorem pd_7 : parseMethodDescriptor "(Ljava/lang/Object;Ljava/lang/String;)Ljava/lang/Object;" = some ⟨[(.object "java/lang/Object"), (.object "java/lang/String")], some (.object "java/lang/Object")⟩ := by decide +kernel
def w50 (hw : HW Z a0) := ow 50 hw rfl
theorem d98 : decode b6_ 10 = .ok (.pop, 1) := by decide +kernel
theorem d99 : decode b6_ 11 = .ok (.aload_n 2, 1) := by decide +kernel
theorem d100 : decode b6_ 12 = .ok (.ldc 15, 2) := by decide +kernel
theorem d101 : decode b6_ 14 = .ok (.invokestatic 9, 3) := by decide +kernel
theorem d102 : decode b6_ 17 = .ok (.pop, 1) := by decide +kernel
theorem d103 : decode b6_ 18 = .ok (.aload_n 1, 1) := by decide +kernel
theorem d104 : decode b6_ 19 = .ok (.invokevirtual 17, 3) := by decide +kernel
def w54 (hw : HW Z a0) := ow 54 hw rfl
def w57 (hw : HW Z a0) := ow 57 hw rfl
abbrev b9_ := jdk_42_method_55_code
theorem d105 : decode b9_ 0 = .ok (.aload_n 0, 1) := by decide +kernel
theorem d106 : decode b9_ 1 = .ok (.getfield 9, 3) := by decide +kernel
theorem d107 : decode b9_ 4 = .ok (.arraylength, 1) := by decide +kernel
theorem d108 : decode b9_ 5 = .ok (.ifCond .ne 7, 3) := by decide +kernel
theorem d109 : decode b9_ 12 = .ok (.iconst 0, 1) := by decide +kernel
theorem d110 : decode b9_ 13 = .ok (.ireturn, 1) := by decide +kernel
abbrev y8_isEmpty : MethodName := ⟨"java/lang/String", "isEmpty", "()Z"⟩
def Q_r9_isEmpty (Z : State) (o0 o_1 : Addr) (i_3 : Int32) (k_o_1 : ClassId) (h0 : Heap) (n0 : Nat) (v : Option Value) (h : Heap) (L : List Loc) : Prop := v = some z0 ∧ Fr n0 L ∧ h = h0
theorem ef_r9_isEmpty (o0 : Addr) (m : MethodId) : entryFrame m #[(.ref o0)] 1 = mkF m 0 #[.val (.ref o0)] [] := by first | (simp [entryFrame, mkF, argsToLocals, Value.category]; done) | rfl
set_option maxRecDepth 65536 in
set_option maxHeartbeats 40000000 in
theorem r9_isEmpty (l : Launch) (Z : State) (a0 : Array Value) (hw : HW Z a0) (ws : List Jvm.Cond) (o0 o_1 : Addr) (i_3 : Int32) (k_o_1 : ClassId) (h0 : Heap) (n0 : Nat) (Z0 : n0 ≤ h0.size) (F_o0_value : Fd1 Z h0 o0 (.ref o_1)) (V_o_1 : Arv Z h0 o_1 k_o_1 .byte 1 [(.int i_3)] z0) :
    MF l Z y8_isEmpty b9_ 1 (some .boolean) ws ⟨0, 0, 0, 0⟩ #[(.ref o0)] h0 (Q_r9_isEmpty Z o0 o_1 i_3 k_o_1 h0 n0) := by
  refine own_body (plainFor_of_name pn_String564) (ef_r9_isEmpty o0) (by decide) (by decide) ?_
  intro p e s m below meth c s₁ hx hby hml hown hnm hret hZ hh e0 X0
  have N0 := Fr.nil n0
  obtain ⟨T2, X2, e2, st2⟩ := getF X0 hx hZ hown (host := "") (Or.inl (w32 hw)) Via.refl e0 F_o0_value (g := (mkF m 1 #[vr o0] [(.ref o0)])) rfl rfl (hb hby d106)
  refine ⟨T2, _, some z0, X2, (fun h => by cases h <;> rfl), ?_, fun fs hr => ?_⟩
  · show Q_r9_isEmpty Z o0 o_1 i_3 k_o_1 h0 n0 _ T2.heap _
    rw [e2]
    exact ⟨rfl, N0, rfl⟩
  · refine t_aloadN 1 X0.here hx (hb hby d105) rfl rfl rfl ?_
    refine st2 _ ?_
    refine own_arlen (pc' := 5) X2 hx hZ e2 V_o_1 (hb hby d107) rfl ?_
    refine t_ifYes (pc := 5) 12 X2.here hx (hb hby d108) (by decide) (by decide) (by decide) ?_
    refine t_iconst 13 (r := 0) X2.here hx (hb hby d109) (by decide) rfl ?_
    exact retN X2 hx (t := .boolean) hret (by simp) (hb hby d110) hr
def w58 (hw : HW Z a0) := ow 58 hw rfl
theorem pd_8 : parseMethodDescriptor "()Z" = some ⟨[], some .boolean⟩ := by decide +kernel
def w55 (hw : HW Z a0) := ow 55 hw rfl
def w56 (hw : HW Z a0) := ow 56 hw rfl
theorem d111 : decode b6_ 22 = .ok (.ifCond .ne 12, 3) := by decide +kernel
theorem d112 : decode b6_ 25 = .ok (.aload_n 1, 1) := by decide +kernel
theorem d113 : decode b6_ 26 = .ok (.bipush 58, 2) := by decide +kernel
theorem d114 : decode b6_ 28 = .ok (.invokevirtual 23, 3) := by decide +kernel
def w59 (hw : HW Z a0) := ow 59 hw rfl
def w62 (hw : HW Z a0) := ow 62 hw rfl
abbrev b10_ := jdk_42_method_79_code
theorem d115 : decode b10_ 0 = .ok (.aload_n 0, 1) := by decide +kernel
theorem d116 : decode b10_ 1 = .ok (.iload_n 1, 1) := by decide +kernel
theorem d117 : decode b10_ 2 = .ok (.iconst 0, 1) := by decide +kernel
theorem d118 : decode b10_ 3 = .ok (.invokevirtual 633, 3) := by decide +kernel
def w64 (hw : HW Z a0) := ow 64 hw rfl
def w67 (hw : HW Z a0) := ow 67 hw rfl
abbrev b11_ := jdk_42_method_80_code
theorem d119 : decode b11_ 0 = .ok (.aload_n 0, 1) := by decide +kernel
theorem d120 : decode b11_ 1 = .ok (.invokevirtual 492, 3) := by decide +kernel
def w69 (hw : HW Z a0) := ow 69 hw rfl
def w72 (hw : HW Z a0) := ow 72 hw rfl
abbrev b12_ := jdk_42_method_154_code
theorem d121 : decode b12_ 0 = .ok (.getstatic 38, 3) := by decide +kernel
theorem d122 : decode b12_ 3 = .ok (.ifCond .eq 14, 3) := by decide +kernel
theorem d123 : decode b12_ 6 = .ok (.aload_n 0, 1) := by decide +kernel
theorem d124 : decode b12_ 7 = .ok (.getfield 15, 3) := by decide +kernel
theorem d125 : decode b12_ 10 = .ok (.ifCond .ne 7, 3) := by decide +kernel
theorem d126 : decode b12_ 13 = .ok (.iconst 1, 1) := by decide +kernel
theorem d127 : decode b12_ 14 = .ok (.goto 4, 3) := by decide +kernel
theorem d128 : decode b12_ 18 = .ok (.ireturn, 1) := by decide +kernel
abbrev y9_isLatin1 : MethodName := ⟨"java/lang/String", "isLatin1", "()Z"⟩
def Q_r12_isLatin1 (Z : State) (o0 : Addr) (i_1 : Int32) (h0 : Heap) (n0 : Nat) (v : Option Value) (h : Heap) (L : List Loc) : Prop := v = some (.int 1) ∧ Fr n0 L ∧ h = h0
theorem ef_r12_isLatin1 (o0 : Addr) (m : MethodId) : entryFrame m #[(.ref o0)] 1 = mkF m 0 #[.val (.ref o0)] [] := by first | (simp [entryFrame, mkF, argsToLocals, Value.category]; done) | rfl
set_option maxRecDepth 65536 in
set_option maxHeartbeats 40000000 in
theorem r12_isLatin1 (l : Launch) (Z : State) (a0 : Array Value) (hw : HW Z a0) (ws : List Jvm.Cond) (o0 : Addr) (i_1 : Int32) (h0 : Heap) (n0 : Nat) (Z0 : n0 ≤ h0.size) (sCS : SCS Z i_1) (O0 : Old Z n0 h0) (hp0 : ¬ (i_1 = (0 : Int32))) (F_o0_coder : Fd0 Z h0 o0 z0) :
    MF l Z y9_isLatin1 b12_ 1 (some .boolean) ws ⟨0, 0, 0, 0⟩ #[(.ref o0)] h0 (Q_r12_isLatin1 Z o0 i_1 h0 n0) := by
  refine own_body (plainFor_of_name pn_String564) (ef_r12_isLatin1 o0) (by decide) (by decide) ?_
  intro p e s m below meth c s₁ hx hby hml hown hnm hret hZ hh e0 X0
  have N0 := Fr.nil n0
  obtain ⟨T2, X2, e2, st2⟩ := getS2 X0 hx hZ hown (host := "") (Or.inl (w18 hw)) Via.refl e0 (Sta.ext O0.2 sCS) (g := (mkF m 0 #[vr o0] [])) rfl (hb hby d121)
  obtain ⟨T3, X3, e3, st3⟩ := getF X2 hx hZ hown (host := "") (Or.inl (w30 hw)) Via.refl e2 F_o0_coder (g := (mkF m 7 #[vr o0] [(.ref o0)])) rfl rfl (hb hby d124)
  refine ⟨T3, _, some (.int 1), X3, (fun h => by cases h <;> rfl), ?_, fun fs hr => ?_⟩
  · show Q_r12_isLatin1 Z o0 i_1 h0 n0 _ T3.heap _
    rw [e3]
    exact ⟨rfl, N0, rfl⟩
  · refine st2 _ ?_
    refine t_ifNo 6 X2.here hx (hb hby d122) ((if0 _ _).trans (feq hp0).1) rfl ?_
    refine t_aloadN 7 X2.here hx (hb hby d123) rfl rfl rfl ?_
    refine st3 _ ?_
    refine t_ifNo 13 X3.here hx (hb hby d125) (by decide) rfl ?_
    refine t_iconst 14 (r := 1) X3.here hx (hb hby d126) (by decide) rfl ?_
    refine t_goto (pc := 14) 18 X3.here hx (hb hby d127) (by decide) (by decide) ?_
    exact retN X3 hx (t := .boolean) hret (by simp) (hb hby d128) hr
def w73 (hw : HW Z a0) := ow 73 hw rfl
def w70 (hw : HW Z a0) := ow 70 hw rfl
def w71 (hw : HW Z a0) := ow 71 hw rfl
theorem d129 : decode b11_ 4 = .ok (.ifCond .eq 19, 3) := by decide +kernel
theorem d130 : decode b11_ 7 = .ok (.aload_n 0, 1) := by decide +kernel
theorem d131 : decode b11_ 8 = .ok (.getfield 9, 3) := by decide +kernel
theorem d132 : decode b11_ 11 = .ok (.iload_n 1, 1) := by decide +kernel
theorem d133 : decode b11_ 12 = .ok (.iload_n 2, 1) := by decide +kernel
theorem d134 : decode b11_ 13 = .ok (.aload_n 0, 1) := by decide +kernel
theorem d135 : decode b11_ 14 = .ok (.invokevirtual 505, 3) := by decide +kernel
def w74 (hw : HW Z a0) := ow 74 hw rfl
def w77 (hw : HW Z a0) := ow 77 hw rfl
abbrev b13_ := jdk_42_method_54_code
theorem d136 : decode b13_ 0 = .ok (.aload_n 0, 1) := by decide +kernel
theorem d137 : decode b13_ 1 = .ok (.getfield 9, 3) := by decide +kernel
theorem d138 : decode b13_ 4 = .ok (.arraylength, 1) := by decide +kernel
theorem d139 : decode b13_ 5 = .ok (.aload_n 0, 1) := by decide +kernel
theorem d140 : decode b13_ 6 = .ok (.invokevirtual 335, 3) := by decide +kernel
def w79 (hw : HW Z a0) := ow 79 hw rfl
def w82 (hw : HW Z a0) := ow 82 hw rfl
abbrev b14_ := jdk_42_method_152_code
theorem d141 : decode b14_ 0 = .ok (.getstatic 38, 3) := by decide +kernel
theorem d142 : decode b14_ 3 = .ok (.ifCond .eq 10, 3) := by decide +kernel
theorem d143 : decode b14_ 6 = .ok (.aload_n 0, 1) := by decide +kernel
theorem d144 : decode b14_ 7 = .ok (.getfield 15, 3) := by decide +kernel
theorem d145 : decode b14_ 10 = .ok (.goto 4, 3) := by decide +kernel
theorem d146 : decode b14_ 14 = .ok (.ireturn, 1) := by decide +kernel
abbrev y10_coder : MethodName := ⟨"java/lang/String", "coder", "()B"⟩
def Q_r14_coder (Z : State) (o0 : Addr) (i_1 : Int32) (h0 : Heap) (n0 : Nat) (v : Option Value) (h : Heap) (L : List Loc) : Prop := v = some z0 ∧ Fr n0 L ∧ h = h0
theorem ef_r14_coder (o0 : Addr) (m : MethodId) : entryFrame m #[(.ref o0)] 1 = mkF m 0 #[.val (.ref o0)] [] := by first | (simp [entryFrame, mkF, argsToLocals, Value.category]; done) | rfl
set_option maxRecDepth 65536 in
set_option maxHeartbeats 40000000 in
theorem r14_coder (l : Launch) (Z : State) (a0 : Array Value) (hw : HW Z a0) (ws : List Jvm.Cond) (o0 : Addr) (i_1 : Int32) (h0 : Heap) (n0 : Nat) (Z0 : n0 ≤ h0.size) (sCS : SCS Z i_1) (O0 : Old Z n0 h0) (hp0 : ¬ (i_1 = (0 : Int32))) (F_o0_coder : Fd0 Z h0 o0 z0) :
    MF l Z y10_coder b14_ 1 (some .byte) ws ⟨0, 0, 0, 0⟩ #[(.ref o0)] h0 (Q_r14_coder Z o0 i_1 h0 n0) := by
  refine own_body (plainFor_of_name pn_String564) (ef_r14_coder o0) (by decide) (by decide) ?_
  intro p e s m below meth c s₁ hx hby hml hown hnm hret hZ hh e0 X0
  have N0 := Fr.nil n0
  obtain ⟨T2, X2, e2, st2⟩ := getS2 X0 hx hZ hown (host := "") (Or.inl (w18 hw)) Via.refl e0 (Sta.ext O0.2 sCS) (g := (mkF m 0 #[vr o0] [])) rfl (hb hby d141)
  obtain ⟨T3, X3, e3, st3⟩ := getF X2 hx hZ hown (host := "") (Or.inl (w30 hw)) Via.refl e2 F_o0_coder (g := (mkF m 7 #[vr o0] [(.ref o0)])) rfl rfl (hb hby d144)
  refine ⟨T3, _, some z0, X3, (fun h => by cases h <;> rfl), ?_, fun fs hr => ?_⟩
  · show Q_r14_coder Z o0 i_1 h0 n0 _ T3.heap _
    rw [e3]
    exact ⟨rfl, N0, rfl⟩
  · refine st2 _ ?_
    refine t_ifNo 6 X2.here hx (hb hby d142) ((if0 _ _).trans (feq hp0).1) rfl ?_
    refine t_aloadN 7 X2.here hx (hb hby d143) rfl rfl rfl ?_
    refine st3 _ ?_
    refine t_goto (pc := 10) 14 X3.here hx (hb hby d145) (by decide) (by decide) ?_
    exact retN X3 hx (t := .byte) hret (by simp) (hb hby d146) hr
def w83 (hw : HW Z a0) := ow 83 hw rfl
theorem pd_9 : parseMethodDescriptor "()B" = some ⟨[], some .byte⟩ := by decide +kernel
def w80 (hw : HW Z a0) := ow 80 hw rfl
def w81 (hw : HW Z a0) := ow 81 hw rfl
theorem d147 : decode b13_ 9 = .ok (.ishr, 1) := by decide +kernel
theorem d148 : decode b13_ 10 = .ok (.ireturn, 1) := by decide +kernel
abbrev y11_length : MethodName := ⟨"java/lang/String", "length", "()I"⟩
def Q_r13_length (Z : State) (o0 o_1 : Addr) (i_3 : Int32) (k_o_1 : ClassId) (i_4 : Int32) (h0 : Heap) (n0 : Nat) (v : Option Value) (h : Heap) (L : List Loc) : Prop := v = some (.int 1) ∧ Fr n0 L ∧ h = h0
theorem ef_r13_length (o0 : Addr) (m : MethodId) : entryFrame m #[(.ref o0)] 1 = mkF m 0 #[.val (.ref o0)] [] := by first | (simp [entryFrame, mkF, argsToLocals, Value.category]; done) | rfl
set_option maxRecDepth 65536 in
set_option maxHeartbeats 40000000 in
theorem r13_length (l : Launch) (Z : State) (a0 : Array Value) (hw : HW Z a0) (ws : List Jvm.Cond) (o0 o_1 : Addr) (i_3 : Int32) (k_o_1 : ClassId) (i_4 : Int32) (h0 : Heap) (n0 : Nat) (Z0 : n0 ≤ h0.size) (F_o0_value : Fd1 Z h0 o0 (.ref o_1)) (V_o_1 : Arv Z h0 o_1 k_o_1 .byte 1 [(.int i_3)] z0) (E_o0 : Ex0 Z h0 o0) (sCS : SCS Z i_4) (F_o0_coder : Fd0 Z h0 o0 z0) (O0 : Old Z n0 h0) (hp0 : ¬ (i_4 = (0 : Int32))) :
    MF l Z y11_length b13_ 1 (some .int) ws ⟨1, 0, 0, 13⟩ #[(.ref o0)] h0 (Q_r13_length Z o0 o_1 i_3 k_o_1 i_4 h0 n0) := by
  refine own_body (plainFor_of_name pn_String564) (ef_r13_length o0) (by decide) (by decide) ?_
  intro p e s m below meth c s₁ hx hby hml hown hnm hret hZ hh e0 X0
  have N0 := Fr.nil n0
  obtain ⟨T2, X2, e2, st2⟩ := getF X0 hx hZ hown (host := "") (Or.inl (w32 hw)) Via.refl e0 F_o0_value (g := (mkF m 1 #[vr o0] [(.ref o0)])) rfl rfl (hb hby d137)
  obtain ⟨_, T5, L5, X5, hQ5, st5⟩ := own_virtual X2 hx hZ hown (w79 hw) (w80 hw) (nfS hZ (w82 hw)) (w82 hw) (w81 hw) (w6 hw) (w83 hw) (by decide) (r14_coder l Z a0 hw [] o0 i_4 h0 n0 Z0 sCS O0 hp0 F_o0_coder) e2 E_o0 (W := 1) (by decide) (g := (mkF m 6 #[vr o0] [(.ref o0), (.int 1)])) rfl hml.symm (argsL := []) (rest := [(.int 1)]) (lenOf pd_9 rfl) rfl rfl (own_wr rfl rfl) (hb hby d140)
  obtain ⟨rfl, N5q, e5⟩ := hQ5
  have N5 := Fr.app N0 N5q
  refine ⟨T5, _, some (.int 1), X5, (fun h => by cases h <;> rfl), ?_, fun fs hr => ?_⟩
  · show Q_r13_length Z o0 o_1 i_3 k_o_1 i_4 h0 n0 _ T5.heap _
    rw [e5]
    exact ⟨rfl, N5, rfl⟩
  · refine t_aloadN 1 X0.here hx (hb hby d136) rfl rfl rfl ?_
    refine st2 _ ?_
    refine own_arlen (pc' := 5) X2 hx hZ e2 V_o_1 (hb hby d138) rfl ?_
    refine t_aloadN 6 X2.here hx (hb hby d139) rfl rfl rfl ?_
    refine st5 _ ?_
    refine t_ishr 10 (r := 1) X5.here hx (hb hby d147) (by decide : ((1 : Int32) >>> ((0 : Int32) &&& 31)) = (1 : Int32)) rfl ?_
    exact retI X5 hx hret (hb hby d148) hr
def w78 (hw : HW Z a0) := ow 78 hw rfl
theorem pd_10 : parseMethodDescriptor "()I" = some ⟨[], some .int⟩ := by decide +kernel
def w75 (hw : HW Z a0) := ow 75 hw rfl
def w76 (hw : HW Z a0) := ow 76 hw rfl
theorem d149 : decode b11_ 17 = .ok (.invokestatic 637, 3) := by decide +kernel
def w84 (hw : HW Z a0) := ow 84 hw rfl
abbrev b15_ := jdk_43_method_22_code
theorem d150 : decode b15_ 0 = .ok (.iload_n 1, 1) := by decide +kernel
theorem d151 : decode b15_ 1 = .ok (.invokestatic 88, 3) := by decide +kernel
def w88 (hw : HW Z a0) := ow 88 hw rfl
abbrev b16_ := jdk_43_method_4_code
theorem d152 : decode b16_ 0 = .ok (.iload_n 0, 1) := by decide +kernel
theorem d153 : decode b16_ 1 = .ok (.ifCond .lt 14, 3) := by decide +kernel
theorem d154 : decode b16_ 4 = .ok (.iload_n 0, 1) := by decide +kernel
theorem d155 : decode b16_ 5 = .ok (.sipush 255, 3) := by decide +kernel
theorem d156 : decode b16_ 8 = .ok (.if_icmp .gt 7, 3) := by decide +kernel
theorem d157 : decode b16_ 11 = .ok (.iconst 1, 1) := by decide +kernel
theorem d158 : decode b16_ 12 = .ok (.goto 4, 3) := by decide +kernel
theorem d159 : decode b16_ 16 = .ok (.ireturn, 1) := by decide +kernel
theorem pn_StringLatin1120 : plainName "java/lang/StringLatin1" = true := by first | (simp [plainName, overriddenIn]; done) | decide +kernel
abbrev y12_canEncode : MethodName := ⟨"java/lang/StringLatin1", "canEncode", "(I)Z"⟩
def Q_r16_canEncode (Z : State)  (h0 : Heap) (n0 : Nat) (v : Option Value) (h : Heap) (L : List Loc) : Prop := v = some (.int 1) ∧ Fr n0 L ∧ h = h0
theorem ef_r16_canEncode (m : MethodId) : entryFrame m #[(.int 58)] 1 = mkF m 0 #[.val (.int 58)] [] := by first | (simp [entryFrame, mkF, argsToLocals, Value.category]; done) | rfl
set_option maxRecDepth 65536 in
set_option maxHeartbeats 40000000 in
theorem r16_canEncode (l : Launch) (Z : State) (a0 : Array Value) (hw : HW Z a0) (ws : List Jvm.Cond)  (h0 : Heap) (n0 : Nat) (Z0 : n0 ≤ h0.size) :
    MF l Z y12_canEncode b16_ 1 (some .boolean) ws ⟨0, 0, 0, 0⟩ #[(.int 58)] h0 (Q_r16_canEncode Z  h0 n0) := by
  refine own_body (plainFor_of_name pn_StringLatin1120) (ef_r16_canEncode) (by decide) (by decide) ?_
  intro p e s m below meth c s₁ hx hby hml hown hnm hret hZ hh e0 X0
  have N0 := Fr.nil n0
  refine ⟨s₁, _, some (.int 1), X0, (fun h => by cases h <;> rfl), ?_, fun fs hr => ?_⟩
  · show Q_r16_canEncode Z  h0 n0 _ s₁.heap _
    rw [e0]
    exact ⟨rfl, N0, rfl⟩
  · refine t_iloadN 1 X0.here hx (hb hby d152) rfl rfl ?_
    refine t_ifNo 4 X0.here hx (hb hby d153) (by decide) rfl ?_
    refine t_iloadN 5 X0.here hx (hb hby d154) rfl rfl ?_
    refine t_sipush 8 (r := 255) X0.here hx (hb hby d155) (by decide) rfl ?_
    refine t_icmpNo 11 X0.here hx (hb hby d156) (by decide) rfl ?_
    refine t_iconst 12 (r := 1) X0.here hx (hb hby d157) (by decide) rfl ?_
    refine t_goto (pc := 12) 16 X0.here hx (hb hby d158) (by decide) (by decide) ?_
    exact retN X0 hx (t := .boolean) hret (by simp) (hb hby d159) hr
def w90 (hw : HW Z a0) := ow 90 hw rfl
def w86 (hw : HW Z a0) := ow 86 hw rfl
theorem pd_11 : parseMethodDescriptor "(I)Z" = some ⟨[.int], some .boolean⟩ := by decide +kernel
def w89 (hw : HW Z a0) := ow 89 hw rfl
theorem d160 : decode b15_ 4 = .ok (.ifCond .ne 5, 3) := by decide +kernel
theorem d161 : decode b15_ 9 = .ok (.iload_n 2, 1) := by decide +kernel
theorem d162 : decode b15_ 10 = .ok (.iconst 0, 1) := by decide +kernel
theorem d163 : decode b15_ 11 = .ok (.invokestatic 92, 3) := by decide +kernel
def w91 (hw : HW Z a0) := ow 91 hw rfl
abbrev b17_ := jdk_29_method_65_code
theorem d164 : decode b17_ 0 = .ok (.iload_n 0, 1) := by decide +kernel
theorem d165 : decode b17_ 1 = .ok (.iload_n 1, 1) := by decide +kernel
theorem d166 : decode b17_ 2 = .ok (.if_icmp .lt 7, 3) := by decide +kernel
theorem d167 : decode b17_ 5 = .ok (.iload_n 0, 1) := by decide +kernel
theorem d168 : decode b17_ 6 = .ok (.goto 4, 3) := by decide +kernel
theorem d169 : decode b17_ 10 = .ok (.ireturn, 1) := by decide +kernel
abbrev y13_max : MethodName := ⟨"java/lang/Math", "max", "(II)I"⟩
def Q_r17_max (Z : State)  (h0 : Heap) (n0 : Nat) (v : Option Value) (h : Heap) (L : List Loc) : Prop := v = some z0 ∧ Fr n0 L ∧ h = h0
theorem ef_r17_max (m : MethodId) : entryFrame m #[(.int 0), (.int 0)] 2 = mkF m 0 #[.val (.int 0), .val (.int 0)] [] := by first | (simp [entryFrame, mkF, argsToLocals, Value.category]; done) | rfl
set_option maxRecDepth 65536 in
set_option maxHeartbeats 40000000 in
theorem r17_max (l : Launch) (Z : State) (a0 : Array Value) (hw : HW Z a0) (ws : List Jvm.Cond)  (h0 : Heap) (n0 : Nat) (Z0 : n0 ≤ h0.size) :
    MF l Z y13_max b17_ 2 (some .int) ws ⟨0, 0, 0, 0⟩ #[z0, z0] h0 (Q_r17_max Z  h0 n0) := by
  refine own_body (Jvm.Free.JP.mathPlain rfl (by decide +kernel)) (ef_r17_max) (by decide) (by decide) ?_
  intro p e s m below meth c s₁ hx hby hml hown hnm hret hZ hh e0 X0
  have N0 := Fr.nil n0
  refine ⟨s₁, _, some z0, X0, (fun h => by cases h <;> rfl), ?_, fun fs hr => ?_⟩
  · show Q_r17_max Z  h0 n0 _ s₁.heap _
    rw [e0]
    exact ⟨rfl, N0, rfl⟩
  · refine t_iloadN 1 X0.here hx (hb hby d164) rfl rfl ?_
    refine t_iloadN 2 X0.here hx (hb hby d165) rfl rfl ?_
    refine t_icmpNo 5 X0.here hx (hb hby d166) (by decide) rfl ?_
    refine t_iloadN 6 X0.here hx (hb hby d167) rfl rfl ?_
    refine t_goto (pc := 6) 10 X0.here hx (hb hby d168) (by decide) (by decide) ?_
    exact retI X0 hx hret (hb hby d169) hr
def w94 (hw : HW Z a0) := ow 94 hw rfl
def w93 (hw : HW Z a0) := ow 93 hw rfl
theorem pd_12 : parseMethodDescriptor "(II)I" = some ⟨[.int, .int], some .int⟩ := by decide +kernel
def w92 (hw : HW Z a0) := ow 92 hw rfl
theorem d170 : decode b15_ 14 = .ok (.istore_n 2, 1) := by decide +kernel
theorem d171 : decode b15_ 15 = .ok (.iload_n 3, 1) := by decide +kernel
theorem d172 : decode b15_ 16 = .ok (.aload_n 0, 1) := by decide +kernel
theorem d173 : decode b15_ 17 = .ok (.arraylength, 1) := by decide +kernel
theorem d174 : decode b15_ 18 = .ok (.invokestatic 38, 3) := by decide +kernel
def w95 (hw : HW Z a0) := ow 95 hw rfl
abbrev b18_ := jdk_29_method_69_code
theorem d175 : decode b18_ 0 = .ok (.iload_n 0, 1) := by decide +kernel
theorem d176 : decode b18_ 1 = .ok (.iload_n 1, 1) := by decide +kernel
theorem d177 : decode b18_ 2 = .ok (.if_icmp .gt 7, 3) := by decide +kernel
theorem d178 : decode b18_ 5 = .ok (.iload_n 0, 1) := by decide +kernel
theorem d179 : decode b18_ 6 = .ok (.goto 4, 3) := by decide +kernel
theorem d180 : decode b18_ 10 = .ok (.ireturn, 1) := by decide +kernel
abbrev y14_min : MethodName := ⟨"java/lang/Math", "min", "(II)I"⟩
def Q_r18_min (Z : State)  (h0 : Heap) (n0 : Nat) (v : Option Value) (h : Heap) (L : List Loc) : Prop := v = some (.int 1) ∧ Fr n0 L ∧ h = h0
theorem ef_r18_min (m : MethodId) : entryFrame m #[(.int 1), (.int 1)] 2 = mkF m 0 #[.val (.int 1), .val (.int 1)] [] := by first | (simp [entryFrame, mkF, argsToLocals, Value.category]; done) | rfl
set_option maxRecDepth 65536 in
set_option maxHeartbeats 40000000 in
theorem r18_min (l : Launch) (Z : State) (a0 : Array Value) (hw : HW Z a0) (ws : List Jvm.Cond)  (h0 : Heap) (n0 : Nat) (Z0 : n0 ≤ h0.size) :
    MF l Z y14_min b18_ 2 (some .int) ws ⟨0, 0, 0, 0⟩ #[(.int 1), (.int 1)] h0 (Q_r18_min Z  h0 n0) := by
  refine own_body (Jvm.Free.JP.mathPlain rfl (by decide +kernel)) (ef_r18_min) (by decide) (by decide) ?_
  intro p e s m below meth c s₁ hx hby hml hown hnm hret hZ hh e0 X0
  have N0 := Fr.nil n0
  refine ⟨s₁, _, some (.int 1), X0, (fun h => by cases h <;> rfl), ?_, fun fs hr => ?_⟩
  · show Q_r18_min Z  h0 n0 _ s₁.heap _
    rw [e0]
    exact ⟨rfl, N0, rfl⟩
  · refine t_iloadN 1 X0.here hx (hb hby d175) rfl rfl ?_
    refine t_iloadN 2 X0.here hx (hb hby d176) rfl rfl ?_
    refine t_icmpNo 5 X0.here hx (hb hby d177) (by decide) rfl ?_
    refine t_iloadN 6 X0.here hx (hb hby d178) rfl rfl ?_
    refine t_goto (pc := 6) 10 X0.here hx (hb hby d179) (by decide) (by decide) ?_
    exact retI X0 hx hret (hb hby d180) hr
def w97 (hw : HW Z a0) := ow 97 hw rfl
def w96 (hw : HW Z a0) := ow 96 hw rfl
theorem d181 : decode b15_ 21 = .ok (.istore_n 3, 1) := by decide +kernel
theorem d182 : decode b15_ 22 = .ok (.iload_n 2, 1) := by decide +kernel
theorem d183 : decode b15_ 23 = .ok (.iload_n 3, 1) := by decide +kernel
theorem d184 : decode b15_ 24 = .ok (.if_icmp .lt 5, 3) := by decide +kernel
theorem d185 : decode b15_ 29 = .ok (.aload_n 0, 1) := by decide +kernel
theorem d186 : decode b15_ 30 = .ok (.iload_n 1, 1) := by decide +kernel
theorem d187 : decode b15_ 31 = .ok (.iload_n 2, 1) := by decide +kernel
theorem d188 : decode b15_ 32 = .ok (.iload_n 3, 1) := by decide +kernel
theorem d189 : decode b15_ 33 = .ok (.invokestatic 95, 3) := by decide +kernel
def w98 (hw : HW Z a0) := ow 98 hw rfl
abbrev b19_ := jdk_43_method_23_code
theorem d190 : decode b19_ 0 = .ok (.iload_n 1, 1) := by decide +kernel
theorem d191 : decode b19_ 1 = .ok (.i2b, 1) := by decide +kernel
theorem d192 : decode b19_ 2 = .ok (.istore 4, 2) := by decide +kernel
theorem d193 : decode b19_ 4 = .ok (.iload_n 2, 1) := by decide +kernel
theorem d194 : decode b19_ 5 = .ok (.istore 5, 2) := by decide +kernel
theorem d195 : decode b19_ 7 = .ok (.iload 5, 2) := by decide +kernel
theorem d196 : decode b19_ 9 = .ok (.iload_n 3, 1) := by decide +kernel
theorem d197 : decode b19_ 10 = .ok (.if_icmp .ge 21, 3) := by decide +kernel
theorem d198 : decode b19_ 13 = .ok (.aload_n 0, 1) := by decide +kernel
theorem d199 : decode b19_ 14 = .ok (.iload 5, 2) := by decide +kernel
theorem d200 : decode b19_ 16 = .ok (.baload, 1) := by decide +kernel
theorem d201 : decode b19_ 17 = .ok (.iload 4, 2) := by decide +kernel
theorem d202 : decode b19_ 19 = .ok (.if_icmp .ne 6, 3) := by decide +kernel
theorem d203 : decode b19_ 25 = .ok (.iinc 5 1, 3) := by decide +kernel
theorem d204 : decode b19_ 28 = .ok (.goto (-21), 3) := by decide +kernel
theorem d205 : decode b19_ 31 = .ok (.iconst (-1), 1) := by decide +kernel
theorem d206 : decode b19_ 32 = .ok (.ireturn, 1) := by decide +kernel
abbrev y15_indexOfChar : MethodName := ⟨"java/lang/StringLatin1", "indexOfChar", "([BIII)I"⟩
def Q_r19_indexOfChar (Z : State) (o0 : Addr) (i_1 : Int32) (k_o0 : ClassId) (h0 : Heap) (n0 : Nat) (v : Option Value) (h : Heap) (L : List Loc) : Prop := v = some (.int (-1)) ∧ Fr n0 L ∧ h = h0
theorem ef_r19_indexOfChar (o0 : Addr) (m : MethodId) : entryFrame m #[(.ref o0), (.int 58), (.int 0), (.int 1)] 6 = mkF m 0 #[.val (.ref o0), .val (.int 58), .val (.int 0), .val (.int 1), .unset, .unset] [] := by first | (simp [entryFrame, mkF, argsToLocals, Value.category]; done) | rfl
set_option maxRecDepth 65536 in
set_option maxHeartbeats 40000000 in
theorem r19_indexOfChar (l : Launch) (Z : State) (a0 : Array Value) (hw : HW Z a0) (ws : List Jvm.Cond) (o0 : Addr) (i_1 : Int32) (k_o0 : ClassId) (h0 : Heap) (n0 : Nat) (Z0 : n0 ≤ h0.size) (V_o0 : Arv Z h0 o0 k_o0 .byte 1 [(.int i_1)] z0) (hp0 : ¬ (i_1 = (58 : Int32))) :
    MF l Z y15_indexOfChar b19_ 6 (some .int) ws ⟨0, 0, 0, 0⟩ #[(.ref o0), (.int 58), z0, (.int 1)] h0 (Q_r19_indexOfChar Z o0 i_1 k_o0 h0 n0) := by
  refine own_body (plainFor_of_name pn_StringLatin1120) (ef_r19_indexOfChar o0) (by decide) (by decide) ?_
  intro p e s m below meth c s₁ hx hby hml hown hnm hret hZ hh e0 X0
  have N0 := Fr.nil n0
  refine ⟨s₁, _, some (.int (-1)), X0, (fun h => by cases h <;> rfl), ?_, fun fs hr => ?_⟩
  · show Q_r19_indexOfChar Z o0 i_1 k_o0 h0 n0 _ s₁.heap _
    rw [e0]
    exact ⟨rfl, N0, rfl⟩
  · refine t_iloadN 1 X0.here hx (hb hby d190) rfl rfl ?_
    refine t_i2b 2 (r := 58) X0.here hx (hb hby d191) (by decide : ((58 : Int32).toInt8.toInt32) = (58 : Int32)) rfl ?_
    refine t_istore (pc' := 4) (L' := #[vr o0, vi 58, vi 0, vi 1, vi 58, .unset]) X0.here hx (hb hby d192) rfl rfl ?_
    refine t_iloadN 5 X0.here hx (hb hby d193) rfl rfl ?_
    refine t_istore (pc' := 7) (L' := #[vr o0, vi 58, vi 0, vi 1, vi 58, vi 0]) X0.here hx (hb hby d194) rfl rfl ?_
    refine t_iload 9 X0.here hx (hb hby d195) rfl rfl ?_
    refine t_iloadN 10 X0.here hx (hb hby d196) rfl rfl ?_
    refine t_icmpNo 13 X0.here hx (hb hby d197) (by decide) rfl ?_
    refine t_aloadN 14 X0.here hx (hb hby d198) rfl rfl rfl ?_
    refine t_iload 16 X0.here hx (hb hby d199) rfl rfl ?_
    refine own_aldB (pc' := 17) X0 hx hZ e0 V_o0 (j := 0) (v := (.int i_1)) (by decide) rfl (hb hby d200) rfl ?_
    refine t_iload 19 X0.here hx (hb hby d201) rfl rfl ?_
    refine t_icmpYes (pc := 19) 25 X0.here hx (hb hby d202) (feq hp0).2 (by decide) (by decide) ?_
    refine t_iinc (pc' := 28) (L' := #[vr o0, vi 58, vi 0, vi 1, vi 58, vi 1]) X0.here hx (hb hby d203) rfl (by first | rfl | decide) rfl ?_
    refine t_goto (pc := 28) 7 X0.here hx (hb hby d204) (by decide) (by decide) ?_
    refine t_iload 9 X0.here hx (hb hby d195) rfl rfl ?_
    refine t_iloadN 10 X0.here hx (hb hby d196) rfl rfl ?_
    refine t_icmpYes (pc := 10) 31 X0.here hx (hb hby d197) (by decide) (by decide) (by decide) ?_
    refine t_iconst 32 (r := (-1 : Int32)) X0.here hx (hb hby d205) (by decide) rfl ?_
    exact retI X0 hx hret (hb hby d206) hr
def w100 (hw : HW Z a0) := ow 100 hw rfl
theorem pd_13 : parseMethodDescriptor "([BIII)I" = some ⟨[(.array .byte), .int, .int, .int], some .int⟩ := by decide +kernel
def w99 (hw : HW Z a0) := ow 99 hw rfl
theorem d207 : decode b15_ 36 = .ok (.ireturn, 1) := by decide +kernel
abbrev y16_indexOf : MethodName := ⟨"java/lang/StringLatin1", "indexOf", "([BIII)I"⟩
def Q_r15_indexOf (Z : State) (o0 : Addr) (i_3 : Int32) (k_o0 : ClassId) (h0 : Heap) (n0 : Nat) (v : Option Value) (h : Heap) (L : List Loc) : Prop := v = some (.int (-1)) ∧ Fr n0 L ∧ h = h0
theorem ef_r15_indexOf (o0 : Addr) (m : MethodId) : entryFrame m #[(.ref o0), (.int 58), (.int 0), (.int 1)] 4 = mkF m 0 #[.val (.ref o0), .val (.int 58), .val (.int 0), .val (.int 1)] [] := by first | (simp [entryFrame, mkF, argsToLocals, Value.category]; done) | rfl
set_option maxRecDepth 65536 in
set_option maxHeartbeats 40000000 in
theorem r15_indexOf (l : Launch) (Z : State) (a0 : Array Value) (hw : HW Z a0) (ws : List Jvm.Cond) (o0 : Addr) (i_3 : Int32) (k_o0 : ClassId) (h0 : Heap) (n0 : Nat) (Z0 : n0 ≤ h0.size) (V_o0 : Arv Z h0 o0 k_o0 .byte 1 [(.int i_3)] z0) (hp0 : ¬ (i_3 = (58 : Int32))) :
    MF l Z y16_indexOf b15_ 4 (some .int) ws ⟨1, 0, 0, 17⟩ #[(.ref o0), (.int 58), z0, (.int 1)] h0 (Q_r15_indexOf Z o0 i_3 k_o0 h0 n0) := by
  refine own_body (plainFor_of_name pn_StringLatin1120) (ef_r15_indexOf o0) (by decide) (by decide) ?_
  intro p e s m below meth c s₁ hx hby hml hown hnm hret hZ hh e0 X0
  have N0 := Fr.nil n0
  obtain ⟨_, T1, L1, X1, hQ1, st1⟩ := own_static X0 hx hZ hown (w88 hw) (w89 hw) (w86 hw) (w90 hw) (by decide) (r16_canEncode l Z a0 hw []  h0 n0 Z0) e0 (W := 0) (by decide) (g := (mkF m 1 #[vr o0, vi 58, vi 0, vi 1] [(.int 58)])) rfl hml.symm (argsL := [(.int 58)]) (rest := []) (lenOf pd_11 rfl) rfl rfl (own_wr rfl rfl) (hb hby d151)
  obtain ⟨rfl, N1q, e1⟩ := hQ1
  have N1 := Fr.app N0 N1q
  obtain ⟨_, T2, L2, X2, hQ2, st2⟩ := own_static X1 hx hZ hown (w91 hw) (w92 hw) (w93 hw) (w94 hw) (by decide) (r17_max l Z a0 hw []  h0 n0 Z0) e1 (W := 0) (by decide) (g := (mkF m 11 #[vr o0, vi 58, vi 0, vi 1] [z0, z0])) rfl hml.symm (argsL := [z0, z0]) (rest := []) (lenOf pd_12 rfl) rfl rfl (own_wr rfl rfl) (hb hby d163)
  obtain ⟨rfl, N2q, e2⟩ := hQ2
  have N2 := Fr.app N1 N2q
  obtain ⟨_, T4, L4, X4, hQ4, st4⟩ := own_static X2 hx hZ hown (w95 hw) (w96 hw) (w93 hw) (w97 hw) (by decide) (r18_min l Z a0 hw []  h0 n0 Z0) e2 (W := 0) (by decide) (g := (mkF m 18 #[vr o0, vi 58, vi 0, vi 1] [(.int 1), (.int 1)])) rfl hml.symm (argsL := [(.int 1), (.int 1)]) (rest := []) (lenOf pd_12 rfl) rfl rfl (own_wr rfl rfl) (hb hby d174)
  obtain ⟨rfl, N4q, e4⟩ := hQ4
  have N4 := Fr.app N2 N4q
  obtain ⟨_, T5, L5, X5, hQ5, st5⟩ := own_static X4 hx hZ hown (w98 hw) (w99 hw) (w86 hw) (w100 hw) (by decide) (r19_indexOfChar l Z a0 hw [] o0 i_3 k_o0 h0 n0 Z0 V_o0 hp0) e4 (W := 0) (by decide) (g := (mkF m 33 #[vr o0, vi 58, vi 0, vi 1] [(.int 1), z0, (.int 58), (.ref o0)])) rfl hml.symm (argsL := [(.ref o0), (.int 58), z0, (.int 1)]) (rest := []) (lenOf pd_13 rfl) rfl rfl (own_wr rfl rfl) (hb hby d189)
  obtain ⟨rfl, N5q, e5⟩ := hQ5
  have N5 := Fr.app N4 N5q
  refine ⟨T5, _, some (.int (-1)), X5, (fun h => by cases h <;> rfl), ?_, fun fs hr => ?_⟩
  · show Q_r15_indexOf Z o0 i_3 k_o0 h0 n0 _ T5.heap _
    rw [e5]
    exact ⟨rfl, N5, rfl⟩
  · refine t_iloadN 1 X0.here hx (hb hby d150) rfl rfl ?_
    refine st1 _ ?_
    refine t_ifYes (pc := 4) 9 X1.here hx (hb hby d160) (by decide) (by decide) (by decide) ?_
    refine t_iloadN 10 X1.here hx (hb hby d161) rfl rfl ?_
    refine t_iconst 11 (r := 0) X1.here hx (hb hby d162) (by decide) rfl ?_
    refine st2 _ ?_
    refine t_istoreN (pc' := 15) (L' := #[vr o0, vi 58, vi 0, vi 1]) X2.here hx (hb hby d170) rfl rfl ?_
    refine t_iloadN 16 X2.here hx (hb hby d171) rfl rfl ?_
    refine t_aloadN 17 X2.here hx (hb hby d172) rfl rfl rfl ?_
    refine own_arlen (pc' := 18) X2 hx hZ e2 V_o0 (hb hby d173) rfl ?_
    refine st4 _ ?_
    refine t_istoreN (pc' := 22) (L' := #[vr o0, vi 58, vi 0, vi 1]) X4.here hx (hb hby d181) rfl rfl ?_
    refine t_iloadN 23 X4.here hx (hb hby d182) rfl rfl ?_
    refine t_iloadN 24 X4.here hx (hb hby d183) rfl rfl ?_
    refine t_icmpYes (pc := 24) 29 X4.here hx (hb hby d184) (by decide) (by decide) (by decide) ?_
    refine t_aloadN 30 X4.here hx (hb hby d185) rfl rfl rfl ?_
    refine t_iloadN 31 X4.here hx (hb hby d186) rfl rfl ?_
    refine t_iloadN 32 X4.here hx (hb hby d187) rfl rfl ?_
    refine t_iloadN 33 X4.here hx (hb hby d188) rfl rfl ?_
    refine st5 _ ?_
    exact retI X5 hx hret (hb hby d207) hr
def w87 (hw : HW Z a0) := ow 87 hw rfl
def w85 (hw : HW Z a0) := ow 85 hw rfl
theorem d208 : decode b11_ 20 = .ok (.goto 16, 3) := by decide +kernel
theorem d209 : decode b11_ 36 = .ok (.ireturn, 1) := by decide +kernel
abbrev y17_indexOf : MethodName := ⟨"java/lang/String", "indexOf", "(II)I"⟩
def Q_r11_indexOf (Z : State) (o0 : Addr) (i_1 : Int32) (o_3 : Addr) (i_5 : Int32) (k_o_3 : ClassId) (h0 : Heap) (n0 : Nat) (v : Option Value) (h : Heap) (L : List Loc) : Prop := v = some (.int (-1)) ∧ Fr n0 L ∧ h = h0
theorem ef_r11_indexOf (o0 : Addr) (m : MethodId) : entryFrame m #[(.ref o0), (.int 58), (.int 0)] 3 = mkF m 0 #[.val (.ref o0), .val (.int 58), .val (.int 0)] [] := by first | (simp [entryFrame, mkF, argsToLocals, Value.category]; done) | rfl
set_option maxRecDepth 65536 in
set_option maxHeartbeats 40000000 in
theorem r11_indexOf (l : Launch) (Z : State) (a0 : Array Value) (hw : HW Z a0) (ws : List Jvm.Cond) (o0 : Addr) (i_1 : Int32) (o_3 : Addr) (i_5 : Int32) (k_o_3 : ClassId) (h0 : Heap) (n0 : Nat) (Z0 : n0 ≤ h0.size) (E_o0 : Ex0 Z h0 o0) (sCS : SCS Z i_1) (F_o0_coder : Fd0 Z h0 o0 z0) (O0 : Old Z n0 h0) (hp0 : ¬ (i_1 = (0 : Int32))) (F_o0_value : Fd1 Z h0 o0 (.ref o_3)) (V_o_3 : Arv Z h0 o_3 k_o_3 .byte 1 [(.int i_5)] z0) (hp1 : ¬ (i_5 = (58 : Int32))) :
    MF l Z y17_indexOf b11_ 3 (some .int) ws ⟨2, 0, 0, 32⟩ #[(.ref o0), (.int 58), z0] h0 (Q_r11_indexOf Z o0 i_1 o_3 i_5 k_o_3 h0 n0) := by
  refine own_body (plainFor_of_name pn_String564) (ef_r11_indexOf o0) (by decide) (by decide) ?_
  intro p e s m below meth c s₁ hx hby hml hown hnm hret hZ hh e0 X0
  have N0 := Fr.nil n0
  obtain ⟨_, T2, L2, X2, hQ2, st2⟩ := own_virtual X0 hx hZ hown (w69 hw) (w70 hw) (nfS hZ (w72 hw)) (w72 hw) (w71 hw) (w6 hw) (w73 hw) (by decide) (r12_isLatin1 l Z a0 hw [] o0 i_1 h0 n0 Z0 sCS O0 hp0 F_o0_coder) e0 E_o0 (W := 0) (by decide) (g := (mkF m 1 #[vr o0, vi 58, vi 0] [(.ref o0)])) rfl hml.symm (argsL := []) (rest := []) (lenOf pd_8 rfl) rfl rfl (own_wr rfl rfl) (hb hby d120)
  obtain ⟨rfl, N2q, e2⟩ := hQ2
  have N2 := Fr.app N0 N2q
  obtain ⟨T4, X4, e4, st4⟩ := getF X2 hx hZ hown (host := "") (Or.inl (w32 hw)) Via.refl e2 F_o0_value (g := (mkF m 8 #[vr o0, vi 58, vi 0] [(.ref o0)])) rfl rfl (hb hby d131)
  obtain ⟨_, T6, L6, X6, hQ6, st6⟩ := own_virtual X4 hx hZ hown (w74 hw) (w75 hw) (nfS hZ (w77 hw)) (w77 hw) (w76 hw) (w6 hw) (w78 hw) (by decide) (r13_length l Z a0 hw [] o0 o_3 i_5 k_o_3 i_1 h0 n0 Z0 F_o0_value V_o_3 E_o0 sCS F_o0_coder O0 hp0) e4 E_o0 (W := 3) (by decide) (g := (mkF m 14 #[vr o0, vi 58, vi 0] [(.ref o0), z0, (.int 58), (.ref o_3)])) rfl hml.symm (argsL := []) (rest := [z0, (.int 58), (.ref o_3)]) (lenOf pd_10 rfl) rfl rfl (own_wr rfl rfl) (hb hby d135)
  obtain ⟨rfl, N6q, e6⟩ := hQ6
  have N6 := Fr.app N2 N6q
  obtain ⟨_, T7, L7, X7, hQ7, st7⟩ := own_static X6 hx hZ hown (w84 hw) (w85 hw) (w86 hw) (w87 hw) (by decide) (r15_indexOf l Z a0 hw [] o_3 i_5 k_o_3 h0 n0 Z0 V_o_3 hp1) e6 (W := 0) (by decide) (g := (mkF m 17 #[vr o0, vi 58, vi 0] [(.int 1), z0, (.int 58), (.ref o_3)])) rfl hml.symm (argsL := [(.ref o_3), (.int 58), z0, (.int 1)]) (rest := []) (lenOf pd_13 rfl) rfl rfl (own_wr rfl rfl) (hb hby d149)
  obtain ⟨rfl, N7q, e7⟩ := hQ7
  have N7 := Fr.app N6 N7q
  refine ⟨T7, _, some (.int (-1)), X7, (fun h => by cases h <;> rfl), ?_, fun fs hr => ?_⟩
  · show Q_r11_indexOf Z o0 i_1 o_3 i_5 k_o_3 h0 n0 _ T7.heap _
    rw [e7]
    exact ⟨rfl, N7, rfl⟩
  · refine t_aloadN 1 X0.here hx (hb hby d119) rfl rfl rfl ?_
    refine st2 _ ?_
    refine t_ifNo 7 X2.here hx (hb hby d129) (by decide) rfl ?_
    refine t_aloadN 8 X2.here hx (hb hby d130) rfl rfl rfl ?_
    refine st4 _ ?_
    refine t_iloadN 12 X4.here hx (hb hby d132) rfl rfl ?_
    refine t_iloadN 13 X4.here hx (hb hby d133) rfl rfl ?_
    refine t_aloadN 14 X4.here hx (hb hby d134) rfl rfl rfl ?_
    refine st6 _ ?_
    refine st7 _ ?_
    refine t_goto (pc := 20) 36 X7.here hx (hb hby d208) (by decide) (by decide) ?_
    exact retI X7 hx hret (hb hby d209) hr
def w68 (hw : HW Z a0) := ow 68 hw rfl
def w65 (hw : HW Z a0) := ow 65 hw rfl
def w66 (hw : HW Z a0) := ow 66 hw rfl
theorem d210 : decode b10_ 6 = .ok (.ireturn, 1) := by decide +kernel
abbrev y18_indexOf : MethodName := ⟨"java/lang/String", "indexOf", "(I)I"⟩
def Q_r10_indexOf (Z : State) (o0 : Addr) (i_1 : Int32) (o_2 : Addr) (i_3 : Int32) (k_o_2 : ClassId) (h0 : Heap) (n0 : Nat) (v : Option Value) (h : Heap) (L : List Loc) : Prop := v = some (.int (-1)) ∧ Fr n0 L ∧ h = h0
theorem ef_r10_indexOf (o0 : Addr) (m : MethodId) : entryFrame m #[(.ref o0), (.int 58)] 2 = mkF m 0 #[.val (.ref o0), .val (.int 58)] [] := by first | (simp [entryFrame, mkF, argsToLocals, Value.category]; done) | rfl
set_option maxRecDepth 65536 in
set_option maxHeartbeats 40000000 in
theorem r10_indexOf (l : Launch) (Z : State) (a0 : Array Value) (hw : HW Z a0) (ws : List Jvm.Cond) (o0 : Addr) (i_1 : Int32) (o_2 : Addr) (i_3 : Int32) (k_o_2 : ClassId) (h0 : Heap) (n0 : Nat) (Z0 : n0 ≤ h0.size) (E_o0 : Ex0 Z h0 o0) (sCS : SCS Z i_1) (F_o0_coder : Fd0 Z h0 o0 z0) (F_o0_value : Fd1 Z h0 o0 (.ref o_2)) (V_o_2 : Arv Z h0 o_2 k_o_2 .byte 1 [(.int i_3)] z0) (O0 : Old Z n0 h0) (hp0 : ¬ (i_1 = (0 : Int32))) (hp1 : ¬ (i_3 = (58 : Int32))) :
    MF l Z y18_indexOf b10_ 2 (some .int) ws ⟨3, 0, 0, 46⟩ #[(.ref o0), (.int 58)] h0 (Q_r10_indexOf Z o0 i_1 o_2 i_3 k_o_2 h0 n0) := by
  refine own_body (plainFor_of_name pn_String564) (ef_r10_indexOf o0) (by decide) (by decide) ?_
  intro p e s m below meth c s₁ hx hby hml hown hnm hret hZ hh e0 X0
  have N0 := Fr.nil n0
  obtain ⟨_, T4, L4, X4, hQ4, st4⟩ := own_virtual X0 hx hZ hown (w64 hw) (w65 hw) (nfS hZ (w67 hw)) (w67 hw) (w66 hw) (w6 hw) (w68 hw) (by decide) (r11_indexOf l Z a0 hw [] o0 i_1 o_2 i_3 k_o_2 h0 n0 Z0 E_o0 sCS F_o0_coder O0 hp0 F_o0_value V_o_2 hp1) e0 E_o0 (W := 0) (by decide) (g := (mkF m 3 #[vr o0, vi 58] [z0, (.int 58), (.ref o0)])) rfl hml.symm (argsL := [(.int 58), z0]) (rest := []) (lenOf pd_12 rfl) rfl rfl (own_wr rfl rfl) (hb hby d118)
  obtain ⟨rfl, N4q, e4⟩ := hQ4
  have N4 := Fr.app N0 N4q
  refine ⟨T4, _, some (.int (-1)), X4, (fun h => by cases h <;> rfl), ?_, fun fs hr => ?_⟩
  · show Q_r10_indexOf Z o0 i_1 o_2 i_3 k_o_2 h0 n0 _ T4.heap _
    rw [e4]
    exact ⟨rfl, N4, rfl⟩
  · refine t_aloadN 1 X0.here hx (hb hby d115) rfl rfl rfl ?_
    refine t_iloadN 2 X0.here hx (hb hby d116) rfl rfl ?_
    refine t_iconst 3 (r := 0) X0.here hx (hb hby d117) (by decide) rfl ?_
    refine st4 _ ?_
    exact retI X4 hx hret (hb hby d210) hr
def w63 (hw : HW Z a0) := ow 63 hw rfl
theorem pd_14 : parseMethodDescriptor "(I)I" = some ⟨[.int], some .int⟩ := by decide +kernel
def w60 (hw : HW Z a0) := ow 60 hw rfl
def w61 (hw : HW Z a0) := ow 61 hw rfl
theorem d211 : decode b6_ 31 = .ok (.ifCond .lt 35, 3) := by decide +kernel
theorem d212 : decode b6_ 66 = .ok (.aload_n 2, 1) := by decide +kernel
theorem d213 : decode b6_ 67 = .ok (.invokevirtual 17, 3) := by decide +kernel
theorem d214 : decode b6_ 70 = .ok (.ifCond .eq 13, 3) := by decide +kernel
theorem d215 : decode b6_ 83 = .ok (.aload_n 0, 1) := by decide +kernel
theorem d216 : decode b6_ 84 = .ok (.aload_n 1, 1) := by decide +kernel
theorem d217 : decode b6_ 85 = .ok (.putfield 49, 3) := by decide +kernel
def w101 (hw : HW Z a0) := ow 101 hw rfl
abbrev Ex1 (Z : State) (h : Heap) (a : Addr) : Prop := Exa Z h a "com/example/keen_roster/keenroster/core/Identifier"
theorem d218 : decode b6_ 88 = .ok (.aload_n 0, 1) := by decide +kernel
theorem d219 : decode b6_ 89 = .ok (.aload_n 2, 1) := by decide +kernel
theorem d220 : decode b6_ 90 = .ok (.putfield 54, 3) := by decide +kernel
def w103 (hw : HW Z a0) := ow 103 hw rfl
theorem sn_2 {Z : State} {a0 : Array Value} (hw : HW Z a0) : Jvm.RoadKit.slotOf Z "com/example/keen_roster/keenroster/core/Identifier" "id" "Ljava/lang/String;" ≠ Jvm.RoadKit.slotOf Z "com/example/keen_roster/keenroster/core/Identifier" "system" "Ljava/lang/String;" := slot_ne (C := "com/example/keen_roster/keenroster/core/Identifier") (a0 := a0) (Or.inr (w104 hw)) (Or.inr (w102 hw)) (by decide) (t := (.object "java/lang/String")) (t' := (.object "java/lang/String")) (by decide) (by decide)
theorem d221 : decode b6_ 93 = .ok (.return_, 1) := by decide +kernel
theorem sn_3 {Z : State} {a0 : Array Value} (hw : HW Z a0) : Jvm.RoadKit.slotOf Z "com/example/keen_roster/keenroster/core/Identifier" "system" "Ljava/lang/String;" ≠ Jvm.RoadKit.slotOf Z "com/example/keen_roster/keenroster/core/Identifier" "id" "Ljava/lang/String;" := slot_ne (C := "com/example/keen_roster/keenroster/core/Identifier") (a0 := a0) (Or.inr (w102 hw)) (Or.inr (w104 hw)) (by decide) (t := (.object "java/lang/String")) (t' := (.object "java/lang/String")) (by decide) (by decide)
theorem pn_Identifier44 : plainName "com/example/keen_roster/keenroster/core/Identifier" = true := by first | (simp [plainName, overriddenIn]; done) | decide +kernel
abbrev y19__init_ : MethodName := ⟨"com/example/keen_roster/keenroster/core/Identifier", "<init>", "(Ljava/lang/String;Ljava/lang/String;)V"⟩
def WS_r6__init_ (Z : State) (o0 : Addr) : List (Addr × Nat) := [(o0, (sl2 Z)), (o0, (sl3 Z))]
def Q_r6__init_ (Z : State) (o0 o1 o2 o_6 : Addr) (i_7 : Int32) (k_o_6 : ClassId) (i_12 : Int32) (o_16 : Addr) (i_17 : Int32) (k_o_16 : ClassId) (h0 : Heap) (n0 : Nat) (v : Option Value) (h : Heap) (L : List Loc) : Prop := v = none ∧ Fr n0 L ∧ KL h0 h (WS_r6__init_ Z o0) ∧ Fd2 Z h o0 (.ref o1) ∧ Fd3 Z h o0 (.ref o2)
theorem ef_r6__init_ (o0 o1 o2 : Addr) (m : MethodId) : entryFrame m #[(.ref o0), (.ref o1), (.ref o2)] 3 = mkF m 0 #[.val (.ref o0), .val (.ref o1), .val (.ref o2)] [] := by first | (simp [entryFrame, mkF, argsToLocals, Value.category]; done) | rfl
set_option maxRecDepth 65536 in
set_option maxHeartbeats 40000000 in
theorem r6__init_ (l : Launch) (Z : State) (a0 : Array Value) (hw : HW Z a0) (ws : List Jvm.Cond) (o0 o1 o2 o_6 : Addr) (i_7 : Int32) (k_o_6 : ClassId) (i_12 : Int32) (o_16 : Addr) (i_17 : Int32) (k_o_16 : ClassId) (h0 : Heap) (n0 : Nat) (Z0 : n0 ≤ h0.size) (E_o1 : Ex0 Z h0 o1) (F_o1_value : Fd1 Z h0 o1 (.ref o_6)) (V_o_6 : Arv Z h0 o_6 k_o_6 .byte 1 [(.int i_7)] z0) (sCS : SCS Z i_12) (F_o1_coder : Fd0 Z h0 o1 z0) (O0 : Old Z n0 h0) (hp0 : ¬ (i_12 = (0 : Int32))) (hp1 : ¬ (i_7 = (58 : Int32))) (E_o2 : Ex0 Z h0 o2) (F_o2_value : Fd1 Z h0 o2 (.ref o_16)) (V_o_16 : Arv Z h0 o_16 k_o_16 .byte 1 [(.int i_17)] z0) (F_o0_system : Fd2 Z h0 o0 .null) (E_o0 : Ex1 Z h0 o0) (g_o0 : n0 ≤ o0) (F_o0_id : Fd3 Z h0 o0 .null) :
    OMH l Z consts_1 [] y19__init_ b6_ 3 none ws ⟨4, 4, 40, 59⟩ #[(.ref o0), (.ref o1), (.ref o2)] h0 (Q_r6__init_ Z o0 o1 o2 o_6 i_7 k_o_6 i_12 o_16 i_17 k_o_16 h0 n0) := by
  refine own_bodyH (k := 4) (n := 40) (own_EW hw) (plainFor_of_name pn_Identifier44) (ef_r6__init_ o0 o1 o2) (by decide) (by decide) ?_
  intro p e s m below meth c s₁ hx hby hml hown hnm hret hZ e0 hS0 hk0 X0 hC0 hSF0
  have N0 := Fr.nil n0
  obtain ⟨_, T1, L1, X1, hQ1, st1⟩ := own_init X0 hx hZ rfl hown (w40 hw) (w41 hw) (w43 hw) (w44 hw) (by decide) (r7__init_ l Z a0 hw [] o0 h0 n0 Z0) e0 (W := 0) (by decide) (g := (mkF m 1 #[vr o0, vr o1, vr o2] [(.ref o0)])) rfl hml.symm (argsL := []) (rest := []) (lenOf pd_6 rfl) rfl rfl (own_wr rfl rfl) (hb hby d87)
  obtain ⟨rfl, N1q, e1⟩ := hQ1
  have N1 := Fr.app N0 N1q
  obtain ⟨c2, T2, h2, k2, b2, kb2, X2, e2, E2, hS2, hk2, hZ2, hown2, Ex2, Fc2, Fv2, Ar2, lta2, ltb2, hC2, Lt2, hne2, st2⟩ := ldcCH X1 hx hZ hown (w46 hw) (own_wS hw) e1 hS0 hk0 (own_EW hw) (by decide) (CHr.refl hC0).1 (vs := [(.int 115), (.int 121), (.int 115), (.int 116), (.int 101), (.int 109)]) (z := 6) ⟨by decide, rfl⟩ (by decide) rfl (g := (mkF m 5 #[vr o0, vr o1, vr o2] [(.ref o1)])) rfl (hb hby d92) (n := 24) (by decide) (by decide) (by decide) (by decide)
  have K2 := KL.ofE E2
  have Ah1 := (CHr.refl hC0).trans hC2
  obtain ⟨_, T3, L3, X3, hQ3, st3⟩ := own_static X2 hx hZ2 hown2 (w49 hw) (w50 hw) (w51 hw) (w52 hw) (by decide) (r8_requireNonNull l Z a0 hw [] o1 c2 h2 n0 (Nat.le_trans Z0 K2.1)) e2 (W := 0) (by decide) (g := (mkF m 7 #[vr o0, vr o1, vr o2] [(.ref c2), (.ref o1)])) rfl hml.symm (argsL := [(.ref o1), (.ref c2)]) (rest := []) (lenOf pd_7 rfl) rfl rfl (own_wr rfl rfl) (hb hby d93)
  obtain ⟨rfl, N3q, e3⟩ := hQ3
  have N3 := Fr.app N1 N3q
  obtain ⟨c4, T4, h4, k4, b4, kb4, X4, e4, E4, hS4, hk4, hZ4, hown4, Ex4, Fc4, Fv4, Ar4, lta4, ltb4, hC4, Lt4, hne4, st4⟩ := ldcCH X3 hx hZ2 hown2 (w53 hw) (own_wS hw) e3 hS2 hk2 (own_EW hw) (by decide) Ah1.1 (vs := [(.int 105), (.int 100)]) (z := 2) ⟨by decide, rfl⟩ (by decide) rfl (g := (mkF m 12 #[vr o0, vr o1, vr o2] [(.ref o2)])) rfl (hb hby d100) (n := 8) (by decide) (by decide) (by decide) (by decide)
  have K4 := KL.ofE E4
  have Ah2 := Ah1.trans hC4
  have sz_0_2 := (Nat.le_trans K2.1 K4.1)
  obtain ⟨_, T5, L5, X5, hQ5, st5⟩ := own_static X4 hx hZ4 hown4 (w49 hw) (w50 hw) (w51 hw) (w52 hw) (by decide) (r8_requireNonNull l Z a0 hw [] o2 c4 h4 n0 (Nat.le_trans Z0 sz_0_2)) e4 (W := 0) (by decide) (g := (mkF m 14 #[vr o0, vr o1, vr o2] [(.ref c4), (.ref o2)])) rfl hml.symm (argsL := [(.ref o2), (.ref c4)]) (rest := []) (lenOf pd_7 rfl) rfl rfl (own_wr rfl rfl) (hb hby d101)
  obtain ⟨rfl, N5q, e5⟩ := hQ5
  have N5 := Fr.app N3 N5q
  have f9 := (kFld K4 (kFld K2 F_o1_value nw0) nw0)
  have f10 := (kArv K4 (kArv K2 V_o_6 na0) na0)
  have f11 := (kExa K4 (kExa K2 E_o1))
  obtain ⟨_, T8, L8, X8, hQ8, st8⟩ := own_virtual X5 hx hZ4 hown4 (w54 hw) (w55 hw) (nfS hZ4 (w57 hw)) (w57 hw) (w56 hw) (w6 hw) (w58 hw) (by decide) (r9_isEmpty l Z a0 hw [] o1 o_6 i_7 k_o_6 h4 n0 (Nat.le_trans Z0 sz_0_2) f9 f10) e5 f11 (W := 0) (by decide) (g := (mkF m 19 #[vr o0, vr o1, vr o2] [(.ref o1)])) rfl hml.symm (argsL := []) (rest := []) (lenOf pd_8 rfl) rfl rfl (own_wr rfl rfl) (hb hby d104)
  obtain ⟨rfl, N8q, e8⟩ := hQ8
  have N8 := Fr.app N5 N8q
  have f14 := (kFld K4 (kFld K2 F_o1_coder nw0) nw0)
  have f15 := (kOld K4 (kOld K2 O0 na0) na0)
  obtain ⟨_, T13, L13, X13, hQ13, st13⟩ := own_virtual X8 hx hZ4 hown4 (w59 hw) (w60 hw) (nfS hZ4 (w62 hw)) (w62 hw) (w61 hw) (w6 hw) (w63 hw) (by decide) (r10_indexOf l Z a0 hw [] o1 i_12 o_6 i_7 k_o_6 h4 n0 (Nat.le_trans Z0 sz_0_2) f11 sCS f14 f9 f10 f15 hp0 hp1) e8 f11 (W := 0) (by decide) (g := (mkF m 28 #[vr o0, vr o1, vr o2] [(.int 58), (.ref o1)])) rfl hml.symm (argsL := [(.int 58)]) (rest := []) (lenOf pd_14 rfl) rfl rfl (own_wr rfl rfl) (hb hby d114)
  obtain ⟨rfl, N13q, e13⟩ := hQ13
  have N13 := Fr.app N8 N13q
  have f19 := (kFld K4 (kFld K2 F_o2_value nw0) nw0)
  have f20 := (kArv K4 (kArv K2 V_o_16 na0) na0)
  have f21 := (kExa K4 (kExa K2 E_o2))
  obtain ⟨_, T18, L18, X18, hQ18, st18⟩ := own_virtual X13 hx hZ4 hown4 (w54 hw) (w55 hw) (nfS hZ4 (w57 hw)) (w57 hw) (w56 hw) (w6 hw) (w58 hw) (by decide) (r9_isEmpty l Z a0 hw [] o2 o_16 i_17 k_o_16 h4 n0 (Nat.le_trans Z0 sz_0_2) f19 f20) e13 f21 (W := 0) (by decide) (g := (mkF m 67 #[vr o0, vr o1, vr o2] [(.ref o2)])) rfl hml.symm (argsL := []) (rest := []) (lenOf pd_8 rfl) rfl rfl (own_wr rfl rfl) (hb hby d213)
  obtain ⟨rfl, N18q, e18⟩ := hQ18
  have N18 := Fr.app N13 N18q
  have f22 := (kFld K4 (kFld K2 F_o0_system nw0) nw0)
  have f23 := (kExa K4 (kExa K2 E_o0))
  obtain ⟨T24, h24, X24, e24, W24, st24⟩ := putF X18 hx hZ4 hown4 (host := "") (Or.inl (w101 hw)) Via.refl e18 f22 f23 (Or.inr ⟨(w102 hw), rfl, hnm⟩) (w35 hw) (ty := (.object "java/lang/String")) (by decide) rfl rfl (g := (mkF m 85 #[vr o0, vr o1, vr o2] [(.ref o1), (.ref o0)])) rfl rfl (hb hby d217)
  have K24 := KL.ofW W24
  have Ck2 := own_chK K24 (naF (Safe.exa hZ4.alike f23 (by decide) (by decide)) na0) Ah2.1
  have Ah3 := Ah2.trans Ck2.1
  have Fw24 : Fd2 Z h24 o0 (.ref o1) := Fld.same W24 f22
  have N24 := Fr.snoc X24 N18 g_o0
  have f25 := (kFld K24 (kFld K4 (kFld K2 F_o0_id nw0) nw0) (nwS (Or.inr (sn_2 hw)) nw0))
  have f26 := (kExa K24 f23)
  obtain ⟨T27, h27, X27, e27, W27, st27⟩ := putF X24 hx hZ4 hown4 (host := "") (Or.inl (w103 hw)) Via.refl e24 f25 f26 (Or.inr ⟨(w104 hw), rfl, hnm⟩) (w35 hw) (ty := (.object "java/lang/String")) (by decide) rfl rfl (g := (mkF m 90 #[vr o0, vr o1, vr o2] [(.ref o2), (.ref o0)])) rfl rfl (hb hby d220)
  have K27 := KL.ofW W27
  have Ck3 := own_chK K27 (naF (Safe.exa hZ4.alike f26 (by decide) (by decide)) na0) Ah3.1
  have Ah4 := Ah3.trans Ck3.1
  have Fw27 : Fd3 Z h27 o0 (.ref o2) := Fld.same W27 f25
  have N27 := Fr.snoc X27 N24 g_o0
  have C0 := (KL.refl h0 (WS_r6__init_ Z o0)).trans K2 na0
  have C1 := C0.trans K4 na0
  have C2 := C1.trans K24 (naO (own_mi 0 rfl) na0)
  have C3 := C2.trans K27 (naO (own_mi 1 rfl) na0)
  have f28 := (kFld K27 Fw24 (nwS (Or.inr (sn_3 hw)) nw0))
  have sz_2_4 := (Nat.le_trans K24.1 K27.1)
  refine ⟨T27, _, none, _, _, X27, hS4, (by rw [e27]; exact (Nat.le_trans hk4 sz_2_4)), (fun h => by cases h <;> rfl), ?_, (by rw [e27]; exact Ah4), hZ4, fun fs hr => ?_⟩
  · show Q_r6__init_ Z o0 o1 o2 o_6 i_7 k_o_6 i_12 o_16 i_17 k_o_16 h0 n0 _ T27.heap _
    rw [e27]
    exact ⟨rfl, N27, C3, f28, Fw27⟩
  · refine t_aloadN 1 X0.here hx (hb hby d86) rfl rfl rfl ?_
    refine st1 _ ?_
    refine t_aloadN 5 X1.here hx (hb hby d91) rfl rfl rfl ?_
    refine st2 _ ?_
    refine st3 _ ?_
    refine t_pop 11 X3.here hx (hb hby d98) rfl rfl ?_
    refine t_aloadN 12 X3.here hx (hb hby d99) rfl rfl rfl ?_
    refine st4 _ ?_
    refine st5 _ ?_
    refine t_pop 18 X5.here hx (hb hby d102) rfl rfl ?_
    refine t_aloadN 19 X5.here hx (hb hby d103) rfl rfl rfl ?_
    refine st8 _ ?_
    refine t_ifNo 25 X8.here hx (hb hby d111) (by decide) rfl ?_
    refine t_aloadN 26 X8.here hx (hb hby d112) rfl rfl rfl ?_
    refine t_bipush 28 (r := 58) X8.here hx (hb hby d113) (by decide) rfl ?_
    refine st13 _ ?_
    refine t_ifYes (pc := 31) 66 X13.here hx (hb hby d211) (by decide) (by decide) (by decide) ?_
    refine t_aloadN 67 X13.here hx (hb hby d212) rfl rfl rfl ?_
    refine st18 _ ?_
    refine t_ifYes (pc := 70) 83 X18.here hx (hb hby d214) (by decide) (by decide) (by decide) ?_
    refine t_aloadN 84 X18.here hx (hb hby d215) rfl rfl rfl ?_
    refine t_aloadN 85 X18.here hx (hb hby d216) rfl rfl rfl ?_
    refine st24 _ ?_
    refine t_aloadN 89 X24.here hx (hb hby d218) rfl rfl rfl ?_
    refine t_aloadN 90 X24.here hx (hb hby d219) rfl rfl rfl ?_
    refine st27 _ ?_
    exact X27.returnOut hx hret (hb hby d221) hr
def w39 (hw : HW Z a0) := ow 39 hw rfl
theorem pd_15 : parseMethodDescriptor "(Ljava/lang/String;Ljava/lang/String;)V" = some ⟨[(.object "java/lang/String"), (.object "java/lang/String")], none⟩ := by decide +kernel
def w38 (hw : HW Z a0) := ow 38 hw rfl
def w105 (hw : HW Z a0) := ow 105 hw rfl
def w108 (hw : HW Z a0) := ow 108 hw rfl
abbrev b20_ := prog_2_method_3_code
theorem d222 : decode b20_ 0 = .ok (.new 29, 3) := by decide +kernel
def w110 (hw : HW Z a0) := ow 110 hw rfl
def w111 (hw : HW Z a0) := ow 111 hw rfl
def w112 (hw : HW Z a0) := ow 112 hw rfl
def w125 (hw : HW Z a0) := ow 125 hw rfl
abbrev Fd4 (Z : State) (h : Heap) (a : Addr) (v : Value) : Prop := Fld Z h a "java/lang/AbstractStringBuilder" "value" "[B" v
abbrev sl4 (Z : State) : Nat := Jvm.RoadKit.slotOf Z "java/lang/AbstractStringBuilder" "value" "[B"
def w127 (hw : HW Z a0) := ow 127 hw rfl
abbrev Fd5 (Z : State) (h : Heap) (a : Addr) (v : Value) : Prop := Fld Z h a "java/lang/AbstractStringBuilder" "coder" "B" v
abbrev sl5 (Z : State) : Nat := Jvm.RoadKit.slotOf Z "java/lang/AbstractStringBuilder" "coder" "B"
def w140 (hw : HW Z a0) := ow 140 hw rfl
abbrev Fd6 (Z : State) (h : Heap) (a : Addr) (v : Value) : Prop := Fld Z h a "java/lang/AbstractStringBuilder" "count" "I" v
abbrev sl6 (Z : State) : Nat := Jvm.RoadKit.slotOf Z "java/lang/AbstractStringBuilder" "count" "I"
theorem d223 : decode b20_ 3 = .ok (.dup, 1) := by decide +kernel
theorem d224 : decode b20_ 4 = .ok (.invokespecial 31, 3) := by decide +kernel
def w113 (hw : HW Z a0) := ow 113 hw rfl
abbrev b21_ := jdk_67_method_1_code
theorem d225 : decode b21_ 0 = .ok (.aload_n 0, 1) := by decide +kernel
theorem d226 : decode b21_ 1 = .ok (.bipush 16, 2) := by decide +kernel
theorem d227 : decode b21_ 3 = .ok (.invokespecial 1, 3) := by decide +kernel
def w116 (hw : HW Z a0) := ow 116 hw rfl
abbrev b22_ := jdk_68_method_2_code
theorem d228 : decode b22_ 0 = .ok (.aload_n 0, 1) := by decide +kernel
theorem d229 : decode b22_ 1 = .ok (.invokespecial 3, 3) := by decide +kernel
def w122 (hw : HW Z a0) := ow 122 hw rfl
theorem d230 : decode b22_ 4 = .ok (.getstatic 18, 3) := by decide +kernel
def w123 (hw : HW Z a0) := ow 123 hw rfl
theorem d231 : decode b22_ 7 = .ok (.ifCond .eq 18, 3) := by decide +kernel
theorem d232 : decode b22_ 10 = .ok (.aload_n 0, 1) := by decide +kernel
theorem d233 : decode b22_ 11 = .ok (.iload_n 1, 1) := by decide +kernel
theorem d234 : decode b22_ 12 = .ok (.newarray .byte, 2) := by decide +kernel
theorem d235 : decode b22_ 14 = .ok (.putfield 15, 3) := by decide +kernel
def w124 (hw : HW Z a0) := ow 124 hw rfl
abbrev Ex2 (Z : State) (h : Heap) (a : Addr) : Prop := Exa Z h a "java/lang/StringBuilder"
theorem d236 : decode b22_ 17 = .ok (.aload_n 0, 1) := by decide +kernel
theorem d237 : decode b22_ 18 = .ok (.iconst 0, 1) := by decide +kernel
theorem d238 : decode b22_ 19 = .ok (.putfield 22, 3) := by decide +kernel
def w126 (hw : HW Z a0) := ow 126 hw rfl
theorem sn_4 {Z : State} {a0 : Array Value} (hw : HW Z a0) : Jvm.RoadKit.slotOf Z "java/lang/AbstractStringBuilder" "coder" "B" ≠ Jvm.RoadKit.slotOf Z "java/lang/AbstractStringBuilder" "value" "[B" := slot_ne (C := "java/lang/StringBuilder") (a0 := a0) (Or.inl (w127 hw)) (Or.inl (w125 hw)) (by decide) (t := .byte) (t' := (.array .byte)) (by decide) (by decide)
theorem d239 : decode b22_ 22 = .ok (.goto 16, 3) := by decide +kernel
theorem d240 : decode b22_ 38 = .ok (.return_, 1) := by decide +kernel
theorem sn_5 {Z : State} {a0 : Array Value} (hw : HW Z a0) : Jvm.RoadKit.slotOf Z "java/lang/AbstractStringBuilder" "value" "[B" ≠ Jvm.RoadKit.slotOf Z "java/lang/AbstractStringBuilder" "coder" "B" := slot_ne (C := "java/lang/StringBuilder") (a0 := a0) (Or.inl (w125 hw)) (Or.inl (w127 hw)) (by decide) (t := (.array .byte)) (t' := .byte) (by decide) (by decide)
theorem pn_AbstractStringBuilder101 : plainName "java/lang/AbstractStringBuilder" = true := by first | (simp [plainName, overriddenIn]; done) | decide +kernel
abbrev y20__init_ : MethodName := ⟨"java/lang/AbstractStringBuilder", "<init>", "(I)V"⟩
def WS_r22__init_ (Z : State) (o0 : Addr) : List (Addr × Nat) := [(o0, (sl4 Z)), (o0, (sl5 Z))]
def Q_r22__init_ (Z : State) (o0 : Addr) (i_2 : Int32) (h0 : Heap) (n0 : Nat) (v : Option Value) (h : Heap) (L : List Loc) : Prop := ∃ b4 : Addr, ∃ k4 : ClassId, v = none ∧ Fr n0 L ∧ KL h0 h (WS_r22__init_ Z o0) ∧ h0.size ≤ b4 ∧ Fd4 Z h o0 (.ref b4) ∧ Fd5 Z h o0 z0 ∧ Arv Z h b4 k4 .byte 16 [z0, z0, z0, z0, z0, z0, z0, z0, z0, z0, z0, z0, z0, z0, z0, z0] z0
theorem ef_r22__init_ (o0 : Addr) (m : MethodId) : entryFrame m #[(.ref o0), (.int 16)] 2 = mkF m 0 #[.val (.ref o0), .val (.int 16)] [] := by first | (simp [entryFrame, mkF, argsToLocals, Value.category]; done) | rfl
set_option maxRecDepth 65536 in
set_option maxHeartbeats 40000000 in
theorem r22__init_ (l : Launch) (Z : State) (a0 : Array Value) (hw : HW Z a0) (ws : List Jvm.Cond) (o0 : Addr) (i_2 : Int32) (h0 : Heap) (n0 : Nat) (Z0 : n0 ≤ h0.size) (sCS : SCS Z i_2) (O0 : Old Z n0 h0) (hp0 : ¬ (i_2 = (0 : Int32))) (F_o0_value : Fd4 Z h0 o0 .null) (E_o0 : Ex2 Z h0 o0) (g_o0 : n0 ≤ o0) (F_o0_coder : Fd5 Z h0 o0 z0) :
    MF l Z y20__init_ b22_ 2 none ws ⟨1, 1, 16, 12⟩ #[(.ref o0), (.int 16)] h0 (Q_r22__init_ Z o0 i_2 h0 n0) := by
  refine own_body (plainFor_of_name pn_AbstractStringBuilder101) (ef_r22__init_ o0) (by decide) (by decide) ?_
  intro p e s m below meth c s₁ hx hby hml hown hnm hret hZ hh e0 X0
  have N0 := Fr.nil n0
  obtain ⟨T1, X1, e1, st1⟩ := initO X0 hx hZ hown (w122 hw) (w16 hw) (w17 hw) e0 (g := (mkF m 1 #[vr o0, vi 16] [(.ref o0)])) rfl hml.symm rfl (hb hby d229) (by decide) (W := 0) (own_wr rfl rfl) (by decide)
  obtain ⟨T3, X3, e3, st3⟩ := getS2 X1 hx hZ hown (host := "") (Or.inl (w123 hw)) Via.refl e1 (Sta.ext O0.2 sCS) (g := (mkF m 4 #[vr o0, vi 16] [])) rfl (hb hby d230)
  obtain ⟨T4, h4, k4, X4, e4, E4, A4, st4⟩ := newP (aty := .byte) X3 hx hZ (w23 hw) e3 (g := (mkF m 12 #[vr o0, vi 16] [(.int 16), (.ref o0)])) rfl (hb hby d234) rfl (by decide) (cap := 16) (by decide) (by decide) (by decide) (by decide)
  obtain ⟨b4, g4⟩ : ∃ z, z = h0.size := ⟨_, rfl⟩
  rw [← g4] at A4 st4
  have ge_b4 : h0.size ≤ b4 := Nat.le_of_eq g4.symm
  have K4 := KL.ofE E4
  have V4 : Arv Z h4 b4 k4 .byte 16 [z0, z0, z0, z0, z0, z0, z0, z0, z0, z0, z0, z0, z0, z0, z0, z0] z0 := (Arv.new A4 (by decide)).pad (pad_rep [] z0 16)
  have f5 := (kFld K4 F_o0_value nw0)
  have f6 := (kExa K4 E_o0)
  obtain ⟨T7, h7, X7, e7, W7, st7⟩ := putF X4 hx hZ hown (host := "") (Or.inl (w124 hw)) Via.refl e4 f5 f6 (Or.inl (w125 hw)) (w111 hw) (ty := (.array .byte)) (by decide) rfl rfl (g := (mkF m 14 #[vr o0, vi 16] [(.ref b4), (.ref o0)])) rfl rfl (hb hby d235)
  have K7 := KL.ofW W7
  have Fw7 : Fd4 Z h7 o0 (.ref b4) := Fld.same W7 f5
  have N7 := Fr.snoc X7 N0 g_o0
  have f8 := (kFld K7 (kFld K4 F_o0_coder nw0) (nwS (Or.inr (sn_4 hw)) nw0))
  have f9 := (kExa K7 f6)
  obtain ⟨T10, h10, X10, e10, W10, st10⟩ := putF X7 hx hZ hown (host := "") (Or.inl (w126 hw)) Via.refl e7 f8 f9 (Or.inl (w127 hw)) (w111 hw) (ty := .byte) (by decide) (by decide) (by decide) (g := (mkF m 19 #[vr o0, vi 16] [z0, (.ref o0)])) rfl rfl (hb hby d238)
  have K10 := KL.ofW W10
  have Fw10 : Fd5 Z h10 o0 z0 := Fld.same W10 f8
  have N10 := Fr.snoc X10 N7 g_o0
  have C0 := (KL.refl h0 (WS_r22__init_ Z o0)).trans K4 na0
  have C1 := C0.trans K7 (naO (own_mi 0 rfl) na0)
  have C2 := C1.trans K10 (naO (own_mi 1 rfl) na0)
  have f11 := (kFld K10 Fw7 (nwS (Or.inr (sn_5 hw)) nw0))
  have lt_o0 : o0 < h0.size := Fld.lt F_o0_value
  have f12 := (kArv K10 (kArv K7 V4 (naN (lt_ne lt_o0 ge_b4) na0)) (naN (lt_ne lt_o0 ge_b4) na0))
  refine ⟨T10, _, none, X10, (fun h => by cases h <;> rfl), ?_, fun fs hr => ?_⟩
  · show Q_r22__init_ Z o0 i_2 h0 n0 _ T10.heap _
    rw [e10]
    exact ⟨b4, k4, rfl, N10, C2, ge_b4, f11, Fw10, f12⟩
  · refine t_aloadN 1 X0.here hx (hb hby d228) rfl rfl rfl ?_
    refine st1 _ ?_
    refine st3 _ ?_
    refine t_ifNo 10 X3.here hx (hb hby d231) ((if0 _ _).trans (feq hp0).1) rfl ?_
    refine t_aloadN 11 X3.here hx (hb hby d232) rfl rfl rfl ?_
    refine t_iloadN 12 X3.here hx (hb hby d233) rfl rfl ?_
    refine st4 _ ?_
    refine st7 _ ?_
    refine t_aloadN 18 X7.here hx (hb hby d236) rfl rfl rfl ?_
    refine t_iconst 19 (r := 0) X7.here hx (hb hby d237) (by decide) rfl ?_
    refine st10 _ ?_
    refine t_goto (pc := 22) 38 X10.here hx (hb hby d239) (by decide) (by decide) ?_
    exact X10.returnOut hx hret (hb hby d240) hr
def w121 (hw : HW Z a0) := ow 121 hw rfl
def w120 (hw : HW Z a0) := ow 120 hw rfl
theorem pd_16 : parseMethodDescriptor "(I)V" = some ⟨[.int], none⟩ := by decide +kernel
def w117 (hw : HW Z a0) := ow 117 hw rfl
theorem d241 : decode b21_ 6 = .ok (.return_, 1) := by decide +kernel
theorem pn_StringBuilder278 : plainName "java/lang/StringBuilder" = true := by first | (simp [plainName, overriddenIn]; done) | decide +kernel
abbrev y21__init_ : MethodName := ⟨"java/lang/StringBuilder", "<init>", "()V"⟩
def WS_r21__init_ (Z : State) (o0 : Addr) : List (Addr × Nat) := [(o0, (sl4 Z)), (o0, (sl5 Z))]
def Q_r21__init_ (Z : State) (o0 : Addr) (i_1 : Int32) (h0 : Heap) (n0 : Nat) (v : Option Value) (h : Heap) (L : List Loc) : Prop := ∃ b4_2 : Addr, ∃ k4_2 : ClassId, v = none ∧ Fr n0 L ∧ KL h0 h (WS_r21__init_ Z o0) ∧ h0.size ≤ b4_2 ∧ Fd4 Z h o0 (.ref b4_2) ∧ Fd5 Z h o0 z0 ∧ Arv Z h b4_2 k4_2 .byte 16 [z0, z0, z0, z0, z0, z0, z0, z0, z0, z0, z0, z0, z0, z0, z0, z0] z0
theorem ef_r21__init_ (o0 : Addr) (m : MethodId) : entryFrame m #[(.ref o0)] 1 = mkF m 0 #[.val (.ref o0)] [] := by first | (simp [entryFrame, mkF, argsToLocals, Value.category]; done) | rfl
set_option maxRecDepth 65536 in
set_option maxHeartbeats 40000000 in
theorem r21__init_ (l : Launch) (Z : State) (a0 : Array Value) (hw : HW Z a0) (ws : List Jvm.Cond) (o0 : Addr) (i_1 : Int32) (h0 : Heap) (n0 : Nat) (Z0 : n0 ≤ h0.size) (sCS : SCS Z i_1) (F_o0_value : Fd4 Z h0 o0 .null) (E_o0 : Ex2 Z h0 o0) (F_o0_coder : Fd5 Z h0 o0 z0) (O0 : Old Z n0 h0) (hp0 : ¬ (i_1 = (0 : Int32))) (g_o0 : n0 ≤ o0) :
    MF l Z y21__init_ b21_ 1 none ws ⟨2, 1, 16, 25⟩ #[(.ref o0)] h0 (Q_r21__init_ Z o0 i_1 h0 n0) := by
  refine own_body (plainFor_of_name pn_StringBuilder278) (ef_r21__init_ o0) (by decide) (by decide) ?_
  intro p e s m below meth c s₁ hx hby hml hown hnm hret hZ hh e0 X0
  have N0 := Fr.nil n0
  obtain ⟨_, T2, L2, X2, hQ2, st2⟩ := own_init X0 hx hZ rfl hown (w116 hw) (w117 hw) (w120 hw) (w121 hw) (by decide) (r22__init_ l Z a0 hw [] o0 i_1 h0 n0 Z0 sCS O0 hp0 F_o0_value E_o0 g_o0 F_o0_coder) e0 (W := 0) (by decide) (g := (mkF m 3 #[vr o0] [(.int 16), (.ref o0)])) rfl hml.symm (argsL := [(.int 16)]) (rest := []) (lenOf pd_16 rfl) rfl rfl (own_wr rfl rfl) (hb hby d227)
  obtain ⟨b4_2, k4_2, rfl, N2q, K2, Q2_0, Q2_1, Q2_2, Q2_3⟩ := hQ2
  have N2 := Fr.app N0 N2q
  have C0 := (KL.refl h0 (WS_r21__init_ Z o0)).trans K2 (naO (own_mi 0 rfl) (naO (own_mi 1 rfl) na0))
  refine ⟨T2, _, none, X2, (fun h => by cases h <;> rfl), ?_, fun fs hr => ?_⟩
  · show Q_r21__init_ Z o0 i_1 h0 n0 _ T2.heap _
    exact ⟨b4_2, k4_2, rfl, N2, C0, Q2_0, Q2_1, Q2_2, Q2_3⟩
  · refine t_aloadN 1 X0.here hx (hb hby d225) rfl rfl rfl ?_
    refine t_bipush 3 (r := 16) X0.here hx (hb hby d226) (by decide) rfl ?_
    refine st2 _ ?_
    exact X2.returnOut hx hret (hb hby d241) hr
def w115 (hw : HW Z a0) := ow 115 hw rfl
def w114 (hw : HW Z a0) := ow 114 hw rfl
theorem d242 : decode b20_ 7 = .ok (.aload_n 0, 1) := by decide +kernel
theorem d243 : decode b20_ 8 = .ok (.getfield 49, 3) := by decide +kernel
theorem d244 : decode b20_ 11 = .ok (.invokevirtual 34, 3) := by decide +kernel
def w128 (hw : HW Z a0) := ow 128 hw rfl
def w131 (hw : HW Z a0) := ow 131 hw rfl
abbrev b23_ := jdk_67_method_7_code
theorem d245 : decode b23_ 0 = .ok (.aload_n 0, 1) := by decide +kernel
theorem d246 : decode b23_ 1 = .ok (.aload_n 1, 1) := by decide +kernel
theorem d247 : decode b23_ 2 = .ok (.invokespecial 29, 3) := by decide +kernel
def w133 (hw : HW Z a0) := ow 133 hw rfl
abbrev b24_ := jdk_68_method_22_code
theorem d248 : decode b24_ 0 = .ok (.aload_n 1, 1) := by decide +kernel
theorem d249 : decode b24_ 1 = .ok (.ifnonnull 8, 3) := by decide +kernel
theorem d250 : decode b24_ 9 = .ok (.aload_n 1, 1) := by decide +kernel
theorem d251 : decode b24_ 10 = .ok (.invokevirtual 32, 3) := by decide +kernel
def w138 (hw : HW Z a0) := ow 138 hw rfl
theorem d252 : decode b24_ 13 = .ok (.istore_n 2, 1) := by decide +kernel
theorem d253 : decode b24_ 14 = .ok (.aload_n 0, 1) := by decide +kernel
theorem d254 : decode b24_ 15 = .ok (.aload_n 0, 1) := by decide +kernel
theorem d255 : decode b24_ 16 = .ok (.getfield 79, 3) := by decide +kernel
def w139 (hw : HW Z a0) := ow 139 hw rfl
theorem d256 : decode b24_ 19 = .ok (.iload_n 2, 1) := by decide +kernel
theorem d257 : decode b24_ 20 = .ok (.iadd, 1) := by decide +kernel
theorem d258 : decode b24_ 21 = .ok (.invokevirtual 100, 3) := by decide +kernel
def w141 (hw : HW Z a0) := ow 141 hw rfl
abbrev b25_ := jdk_68_method_9_code
theorem d259 : decode b25_ 0 = .ok (.aload_n 0, 1) := by decide +kernel
theorem d260 : decode b25_ 1 = .ok (.getfield 15, 3) := by decide +kernel
theorem d261 : decode b25_ 4 = .ok (.arraylength, 1) := by decide +kernel
theorem d262 : decode b25_ 5 = .ok (.aload_n 0, 1) := by decide +kernel
theorem d263 : decode b25_ 6 = .ok (.getfield 22, 3) := by decide +kernel
theorem d264 : decode b25_ 9 = .ok (.ishr, 1) := by decide +kernel
theorem d265 : decode b25_ 10 = .ok (.istore_n 2, 1) := by decide +kernel
theorem d266 : decode b25_ 11 = .ok (.iload_n 1, 1) := by decide +kernel
theorem d267 : decode b25_ 12 = .ok (.iload_n 2, 1) := by decide +kernel
theorem d268 : decode b25_ 13 = .ok (.isub, 1) := by decide +kernel
theorem d269 : decode b25_ 14 = .ok (.ifCond .le 24, 3) := by decide +kernel
theorem d270 : decode b25_ 38 = .ok (.return_, 1) := by decide +kernel
abbrev y22_ensureCapacityInternal : MethodName := ⟨"java/lang/AbstractStringBuilder", "ensureCapacityInternal", "(I)V"⟩
def Q_r25_ensureCapacityInternal (Z : State) (o0 o_1 : Addr) (k_o_1 : ClassId) (h0 : Heap) (n0 : Nat) (v : Option Value) (h : Heap) (L : List Loc) : Prop := v = none ∧ Fr n0 L ∧ h = h0
theorem ef_r25_ensureCapacityInternal (o0 : Addr) (m : MethodId) : entryFrame m #[(.ref o0), (.int 1)] 3 = mkF m 0 #[.val (.ref o0), .val (.int 1), .unset] [] := by first | (simp [entryFrame, mkF, argsToLocals, Value.category]; done) | rfl
set_option maxRecDepth 65536 in
set_option maxHeartbeats 40000000 in
theorem r25_ensureCapacityInternal (l : Launch) (Z : State) (a0 : Array Value) (hw : HW Z a0) (ws : List Jvm.Cond) (o0 o_1 : Addr) (k_o_1 : ClassId) (h0 : Heap) (n0 : Nat) (Z0 : n0 ≤ h0.size) (F_o0_value : Fd4 Z h0 o0 (.ref o_1)) (V_o_1 : Arv Z h0 o_1 k_o_1 .byte 16 [z0, z0, z0, z0, z0, z0, z0, z0, z0, z0, z0, z0, z0, z0, z0, z0] z0) (F_o0_coder : Fd5 Z h0 o0 z0) :
    MF l Z y22_ensureCapacityInternal b25_ 3 none ws ⟨0, 0, 0, 0⟩ #[(.ref o0), (.int 1)] h0 (Q_r25_ensureCapacityInternal Z o0 o_1 k_o_1 h0 n0) := by
  refine own_body (plainFor_of_name pn_AbstractStringBuilder101) (ef_r25_ensureCapacityInternal o0) (by decide) (by decide) ?_
  intro p e s m below meth c s₁ hx hby hml hown hnm hret hZ hh e0 X0
  have N0 := Fr.nil n0
  obtain ⟨T2, X2, e2, st2⟩ := getF X0 hx hZ hown (host := "") (Or.inl (w124 hw)) Via.refl e0 F_o0_value (g := (mkF m 1 #[vr o0, vi 1, .unset] [(.ref o0)])) rfl rfl (hb hby d260)
  obtain ⟨T3, X3, e3, st3⟩ := getF X2 hx hZ hown (host := "") (Or.inl (w126 hw)) Via.refl e2 F_o0_coder (g := (mkF m 6 #[vr o0, vi 1, .unset] [(.ref o0), (.int 16)])) rfl rfl (hb hby d263)
  refine ⟨T3, _, none, X3, (fun h => by cases h <;> rfl), ?_, fun fs hr => ?_⟩
  · show Q_r25_ensureCapacityInternal Z o0 o_1 k_o_1 h0 n0 _ T3.heap _
    rw [e3]
    exact ⟨rfl, N0, rfl⟩
  · refine t_aloadN 1 X0.here hx (hb hby d259) rfl rfl rfl ?_
    refine st2 _ ?_
    refine own_arlen (pc' := 5) X2 hx hZ e2 V_o_1 (hb hby d261) rfl ?_
    refine t_aloadN 6 X2.here hx (hb hby d262) rfl rfl rfl ?_
    refine st3 _ ?_
    refine t_ishr 10 (r := 16) X3.here hx (hb hby d264) (by decide : ((16 : Int32) >>> ((0 : Int32) &&& 31)) = (16 : Int32)) rfl ?_
    refine t_istoreN (pc' := 11) (L' := #[vr o0, vi 1, vi 16]) X3.here hx (hb hby d265) rfl rfl ?_
    refine t_iloadN 12 X3.here hx (hb hby d266) rfl rfl ?_
    refine t_iloadN 13 X3.here hx (hb hby d267) rfl rfl ?_
    refine t_isub 14 (r := (-15 : Int32)) X3.here hx (hb hby d268) (by decide : ((1 : Int32) - (16 : Int32)) = (-15 : Int32)) rfl ?_
    refine t_ifYes (pc := 14) 38 X3.here hx (hb hby d269) (by decide) (by decide) (by decide) ?_
    exact X3.returnOut hx hret (hb hby d270) hr
def w145 (hw : HW Z a0) := ow 145 hw rfl
def w142 (hw : HW Z a0) := ow 142 hw rfl
def w144 (hw : HW Z a0) := ow 144 hw rfl
def w143 (hw : HW Z a0) := ow 143 hw rfl
theorem d271 : decode b24_ 24 = .ok (.aload_n 0, 1) := by decide +kernel
theorem d272 : decode b24_ 25 = .ok (.aload_n 0, 1) := by decide +kernel
theorem d273 : decode b24_ 26 = .ok (.getfield 79, 3) := by decide +kernel
theorem d274 : decode b24_ 29 = .ok (.aload_n 1, 1) := by decide +kernel
theorem d275 : decode b24_ 30 = .ok (.invokevirtual 208, 3) := by decide +kernel
def w146 (hw : HW Z a0) := ow 146 hw rfl
abbrev b26_ := jdk_68_method_73_code
theorem d276 : decode b26_ 0 = .ok (.aload_n 0, 1) := by decide +kernel
theorem d277 : decode b26_ 1 = .ok (.aload_n 2, 1) := by decide +kernel
theorem d278 : decode b26_ 2 = .ok (.invokevirtual 397, 3) := by decide +kernel
def w151 (hw : HW Z a0) := ow 151 hw rfl
abbrev b27_ := jdk_68_method_71_code
theorem d279 : decode b27_ 0 = .ok (.getstatic 18, 3) := by decide +kernel
theorem d280 : decode b27_ 3 = .ok (.ifCond .eq 18, 3) := by decide +kernel
theorem d281 : decode b27_ 6 = .ok (.aload_n 0, 1) := by decide +kernel
theorem d282 : decode b27_ 7 = .ok (.getfield 22, 3) := by decide +kernel
theorem d283 : decode b27_ 10 = .ok (.aload_n 1, 1) := by decide +kernel
theorem d284 : decode b27_ 11 = .ok (.invokevirtual 40, 3) := by decide +kernel
def w156 (hw : HW Z a0) := ow 156 hw rfl
theorem d285 : decode b27_ 14 = .ok (.if_icmp .eq 7, 3) := by decide +kernel
theorem d286 : decode b27_ 21 = .ok (.return_, 1) := by decide +kernel
abbrev y23_inflateIfNeededFor : MethodName := ⟨"java/lang/AbstractStringBuilder", "inflateIfNeededFor", "(Ljava/lang/String;)V"⟩
def Q_r27_inflateIfNeededFor (Z : State) (o0 o1 : Addr) (i_1 : Int32) (h0 : Heap) (n0 : Nat) (v : Option Value) (h : Heap) (L : List Loc) : Prop := v = none ∧ Fr n0 L ∧ h = h0
theorem ef_r27_inflateIfNeededFor (o0 o1 : Addr) (m : MethodId) : entryFrame m #[(.ref o0), (.ref o1)] 2 = mkF m 0 #[.val (.ref o0), .val (.ref o1)] [] := by first | (simp [entryFrame, mkF, argsToLocals, Value.category]; done) | rfl
set_option maxRecDepth 65536 in
set_option maxHeartbeats 40000000 in
theorem r27_inflateIfNeededFor (l : Launch) (Z : State) (a0 : Array Value) (hw : HW Z a0) (ws : List Jvm.Cond) (o0 o1 : Addr) (i_1 : Int32) (h0 : Heap) (n0 : Nat) (Z0 : n0 ≤ h0.size) (sCS : SCS Z i_1) (O0 : Old Z n0 h0) (hp0 : ¬ (i_1 = (0 : Int32))) (F_o0_coder : Fd5 Z h0 o0 z0) (E_o1 : Ex0 Z h0 o1) (F_o1_coder : Fd0 Z h0 o1 z0) :
    MF l Z y23_inflateIfNeededFor b27_ 2 none ws ⟨1, 0, 0, 13⟩ #[(.ref o0), (.ref o1)] h0 (Q_r27_inflateIfNeededFor Z o0 o1 i_1 h0 n0) := by
  refine own_body (plainFor_of_name pn_AbstractStringBuilder101) (ef_r27_inflateIfNeededFor o0 o1) (by decide) (by decide) ?_
  intro p e s m below meth c s₁ hx hby hml hown hnm hret hZ hh e0 X0
  have N0 := Fr.nil n0
  obtain ⟨T2, X2, e2, st2⟩ := getS2 X0 hx hZ hown (host := "") (Or.inl (w123 hw)) Via.refl e0 (Sta.ext O0.2 sCS) (g := (mkF m 0 #[vr o0, vr o1] [])) rfl (hb hby d279)
  obtain ⟨T3, X3, e3, st3⟩ := getF X2 hx hZ hown (host := "") (Or.inl (w126 hw)) Via.refl e2 F_o0_coder (g := (mkF m 7 #[vr o0, vr o1] [(.ref o0)])) rfl rfl (hb hby d282)
  obtain ⟨_, T4, L4, X4, hQ4, st4⟩ := own_virtual X3 hx hZ hown (w156 hw) (w80 hw) (nfS hZ (w82 hw)) (w82 hw) (w81 hw) (w6 hw) (w83 hw) (by decide) (r14_coder l Z a0 hw [] o1 i_1 h0 n0 Z0 sCS O0 hp0 F_o1_coder) e3 E_o1 (W := 1) (by decide) (g := (mkF m 11 #[vr o0, vr o1] [(.ref o1), z0])) rfl hml.symm (argsL := []) (rest := [z0]) (lenOf pd_9 rfl) rfl rfl (own_wr rfl rfl) (hb hby d284)
  obtain ⟨rfl, N4q, e4⟩ := hQ4
  have N4 := Fr.app N0 N4q
  refine ⟨T4, _, none, X4, (fun h => by cases h <;> rfl), ?_, fun fs hr => ?_⟩
  · show Q_r27_inflateIfNeededFor Z o0 o1 i_1 h0 n0 _ T4.heap _
    rw [e4]
    exact ⟨rfl, N4, rfl⟩
  · refine st2 _ ?_
    refine t_ifNo 6 X2.here hx (hb hby d280) ((if0 _ _).trans (feq hp0).1) rfl ?_
    refine t_aloadN 7 X2.here hx (hb hby d281) rfl rfl rfl ?_
    refine st3 _ ?_
    refine t_aloadN 11 X3.here hx (hb hby d283) rfl rfl rfl ?_
    refine st4 _ ?_
    refine t_icmpYes (pc := 14) 21 X4.here hx (hb hby d285) (by decide) (by decide) (by decide) ?_
    exact X4.returnOut hx hret (hb hby d286) hr
def w155 (hw : HW Z a0) := ow 155 hw rfl
theorem pd_17 : parseMethodDescriptor "(Ljava/lang/String;)V" = some ⟨[(.object "java/lang/String")], none⟩ := by decide +kernel
def w152 (hw : HW Z a0) := ow 152 hw rfl
def w153 (hw : HW Z a0) := ow 153 hw rfl
theorem d287 : decode b26_ 5 = .ok (.aload_n 2, 1) := by decide +kernel
theorem d288 : decode b26_ 6 = .ok (.aload_n 0, 1) := by decide +kernel
theorem d289 : decode b26_ 7 = .ok (.getfield 15, 3) := by decide +kernel
theorem d290 : decode b26_ 10 = .ok (.iload_n 1, 1) := by decide +kernel
theorem d291 : decode b26_ 11 = .ok (.aload_n 0, 1) := by decide +kernel
theorem d292 : decode b26_ 12 = .ok (.getfield 22, 3) := by decide +kernel
theorem d293 : decode b26_ 15 = .ok (.invokevirtual 399, 3) := by decide +kernel
def w157 (hw : HW Z a0) := ow 157 hw rfl
def w160 (hw : HW Z a0) := ow 160 hw rfl
abbrev b28_ := jdk_42_method_147_code
theorem d294 : decode b28_ 0 = .ok (.aload_n 0, 1) := by decide +kernel
theorem d295 : decode b28_ 1 = .ok (.invokevirtual 335, 3) := by decide +kernel
theorem d296 : decode b28_ 4 = .ok (.iload_n 3, 1) := by decide +kernel
theorem d297 : decode b28_ 5 = .ok (.if_icmp .ne 23, 3) := by decide +kernel
theorem d298 : decode b28_ 8 = .ok (.aload_n 0, 1) := by decide +kernel
theorem d299 : decode b28_ 9 = .ok (.getfield 9, 3) := by decide +kernel
theorem d300 : decode b28_ 12 = .ok (.iconst 0, 1) := by decide +kernel
theorem d301 : decode b28_ 13 = .ok (.aload_n 1, 1) := by decide +kernel
theorem d302 : decode b28_ 14 = .ok (.iload_n 2, 1) := by decide +kernel
theorem d303 : decode b28_ 15 = .ok (.iload_n 3, 1) := by decide +kernel
theorem d304 : decode b28_ 16 = .ok (.ishl, 1) := by decide +kernel
theorem d305 : decode b28_ 17 = .ok (.aload_n 0, 1) := by decide +kernel
theorem d306 : decode b28_ 18 = .ok (.getfield 9, 3) := by decide +kernel
theorem d307 : decode b28_ 21 = .ok (.arraylength, 1) := by decide +kernel
theorem d308 : decode b28_ 22 = .ok (.invokestatic 212, 3) := by decide +kernel
def w162 (hw : HW Z a0) := ow 162 hw rfl
def w165 (hw : HW Z a0) := ow 165 hw rfl
def w163 (hw : HW Z a0) := ow 163 hw rfl
def w164 (hw : HW Z a0) := ow 164 hw rfl
theorem d309 : decode b28_ 25 = .ok (.goto 18, 3) := by decide +kernel
theorem d310 : decode b28_ 43 = .ok (.return_, 1) := by decide +kernel
abbrev y24_getBytes : MethodName := ⟨"java/lang/String", "getBytes", "([BIB)V"⟩
def WS_r28_getBytes (Z : State) (o1 : Addr) : List (Addr × Nat) := [(o1, 0), (o1, 1), (o1, 2), (o1, 3), (o1, 4), (o1, 5), (o1, 6), (o1, 7), (o1, 8), (o1, 9), (o1, 10), (o1, 11), (o1, 12), (o1, 13), (o1, 14), (o1, 15)]
def Q_r28_getBytes (Z : State) (o0 o1 : Addr) (i_1 : Int32) (o_3 : Addr) (i_6 : Int32) (k_o_3 k_o1 : ClassId) (h0 : Heap) (n0 : Nat) (v : Option Value) (h : Heap) (L : List Loc) : Prop := v = none ∧ Fr n0 L ∧ KL h0 h (WS_r28_getBytes Z o1) ∧ Arv Z h o1 k_o1 .byte 16 [(.int i_6), z0, z0, z0, z0, z0, z0, z0, z0, z0, z0, z0, z0, z0, z0, z0] z0
theorem ef_r28_getBytes (o0 o1 : Addr) (m : MethodId) : entryFrame m #[(.ref o0), (.ref o1), (.int 0), (.int 0)] 4 = mkF m 0 #[.val (.ref o0), .val (.ref o1), .val (.int 0), .val (.int 0)] [] := by first | (simp [entryFrame, mkF, argsToLocals, Value.category]; done) | rfl
set_option maxRecDepth 65536 in
set_option maxHeartbeats 40000000 in
theorem r28_getBytes (l : Launch) (Z : State) (a0 : Array Value) (hw : HW Z a0) (ws : List Jvm.Cond) (o0 o1 : Addr) (i_1 : Int32) (o_3 : Addr) (i_6 : Int32) (k_o_3 k_o1 : ClassId) (h0 : Heap) (n0 : Nat) (Z0 : n0 ≤ h0.size) (E_o0 : Ex0 Z h0 o0) (sCS : SCS Z i_1) (F_o0_coder : Fd0 Z h0 o0 z0) (O0 : Old Z n0 h0) (hp0 : ¬ (i_1 = (0 : Int32))) (F_o0_value : Fd1 Z h0 o0 (.ref o_3)) (V_o_3 : Arv Z h0 o_3 k_o_3 .byte 1 [(.int i_6)] z0) (V_o1 : Arv Z h0 o1 k_o1 .byte 16 [z0, z0, z0, z0, z0, z0, z0, z0, z0, z0, z0, z0, z0, z0, z0, z0] z0) (g_o1 : n0 ≤ o1) :
    MF l Z y24_getBytes b28_ 4 none ws ⟨1, 0, 0, 18⟩ #[(.ref o0), (.ref o1), z0, z0] h0 (Q_r28_getBytes Z o0 o1 i_1 o_3 i_6 k_o_3 k_o1 h0 n0) := by
  refine own_body (plainFor_of_name pn_String564) (ef_r28_getBytes o0 o1) (by decide) (by decide) ?_
  intro p e s m below meth c s₁ hx hby hml hown hnm hret hZ hh e0 X0
  have N0 := Fr.nil n0
  obtain ⟨_, T2, L2, X2, hQ2, st2⟩ := own_virtual X0 hx hZ hown (w79 hw) (w80 hw) (nfS hZ (w82 hw)) (w82 hw) (w81 hw) (w6 hw) (w83 hw) (by decide) (r14_coder l Z a0 hw [] o0 i_1 h0 n0 Z0 sCS O0 hp0 F_o0_coder) e0 E_o0 (W := 0) (by decide) (g := (mkF m 1 #[vr o0, vr o1, vi 0, vi 0] [(.ref o0)])) rfl hml.symm (argsL := []) (rest := []) (lenOf pd_9 rfl) rfl rfl (own_wr rfl rfl) (hb hby d295)
  obtain ⟨rfl, N2q, e2⟩ := hQ2
  have N2 := Fr.app N0 N2q
  obtain ⟨T4, X4, e4, st4⟩ := getF X2 hx hZ hown (host := "") (Or.inl (w32 hw)) Via.refl e2 F_o0_value (g := (mkF m 9 #[vr o0, vr o1, vi 0, vi 0] [(.ref o0)])) rfl rfl (hb hby d299)
  obtain ⟨T5, X5, e5, st5⟩ := getF X4 hx hZ hown (host := "") (Or.inl (w32 hw)) Via.refl e4 F_o0_value (g := (mkF m 18 #[vr o0, vr o1, vi 0, vi 0] [(.ref o0), z0, (.ref o1), z0, (.ref o_3)])) rfl rfl (hb hby d306)
  obtain ⟨T7, h7, L7, X7, e7, N7, Kp7, V7, st7⟩ := cpA X5 hx hZ hown (w162 hw) (w165 hw) (w163 hw) (w164 hw) e5 (us := [(.int i_6)]) V_o_3 V_o1 (Or.inl ⟨rfl, rfl⟩) (by decide) (by decide) (by decide) (by decide) (by decide) rfl (by first | decide | exact Nat.le_of_ble_eq_true rfl) N2 g_o1 (g := (mkF m 22 #[vr o0, vr o1, vi 0, vi 0] [(.int 1), z0, (.ref o1), z0, (.ref o_3)])) rfl hml.symm rfl (hb hby d308) (by decide) (W := 0) (own_wr rfl rfl) (by decide)
  have K7 : KL h0 h7 [(o1, 0), (o1, 1), (o1, 2), (o1, 3), (o1, 4), (o1, 5), (o1, 6), (o1, 7), (o1, 8), (o1, 9), (o1, 10), (o1, 11), (o1, 12), (o1, 13), (o1, 14), (o1, 15)] := own_kcp Kp7 V_o1 (n := 16) rfl ⟨_, rfl⟩
  replace V7 : Arv Z h7 o1 k_o1 .byte 16 [(.int i_6), z0, z0, z0, z0, z0, z0, z0, z0, z0, z0, z0, z0, z0, z0, z0] z0 := V7
  have C0 := (KL.refl h0 (WS_r28_getBytes Z o1)).trans K7 (naO (own_mi 0 rfl) (naO (own_mi 1 rfl) (naO (own_mi 2 rfl) (naO (own_mi 3 rfl) (naO (own_mi 4 rfl) (naO (own_mi 5 rfl) (naO (own_mi 6 rfl) (naO (own_mi 7 rfl) (naO (own_mi 8 rfl) (naO (own_mi 9 rfl) (naO (own_mi 10 rfl) (naO (own_mi 11 rfl) (naO (own_mi 12 rfl) (naO (own_mi 13 rfl) (naO (own_mi 14 rfl) (naO (own_mi 15 rfl) na0))))))))))))))))
  refine ⟨T7, _, none, X7, (fun h => by cases h <;> rfl), ?_, fun fs hr => ?_⟩
  · show Q_r28_getBytes Z o0 o1 i_1 o_3 i_6 k_o_3 k_o1 h0 n0 _ T7.heap _
    rw [e7]
    exact ⟨rfl, N7, C0, V7⟩
  · refine t_aloadN 1 X0.here hx (hb hby d294) rfl rfl rfl ?_
    refine st2 _ ?_
    refine t_iloadN 5 X2.here hx (hb hby d296) rfl rfl ?_
    refine t_icmpNo 8 X2.here hx (hb hby d297) (by decide) rfl ?_
    refine t_aloadN 9 X2.here hx (hb hby d298) rfl rfl rfl ?_
    refine st4 _ ?_
    refine t_iconst 13 (r := 0) X4.here hx (hb hby d300) (by decide) rfl ?_
    refine t_aloadN 14 X4.here hx (hb hby d301) rfl rfl rfl ?_
    refine t_iloadN 15 X4.here hx (hb hby d302) rfl rfl ?_
    refine t_iloadN 16 X4.here hx (hb hby d303) rfl rfl ?_
    refine t_ishl 17 (r := 0) X4.here hx (hb hby d304) (by decide : ((0 : Int32) <<< ((0 : Int32) &&& 31)) = (0 : Int32)) rfl ?_
    refine t_aloadN 18 X4.here hx (hb hby d305) rfl rfl rfl ?_
    refine st5 _ ?_
    refine own_arlen (pc' := 22) X5 hx hZ e5 V_o_3 (hb hby d307) rfl ?_
    refine st7 _ ?_
    refine t_goto (pc := 25) 43 X7.here hx (hb hby d309) (by decide) (by decide) ?_
    exact X7.returnOut hx hret (hb hby d310) hr
def w161 (hw : HW Z a0) := ow 161 hw rfl
theorem pd_18 : parseMethodDescriptor "([BIB)V" = some ⟨[(.array .byte), .int, .byte], none⟩ := by decide +kernel
def w158 (hw : HW Z a0) := ow 158 hw rfl
def w159 (hw : HW Z a0) := ow 159 hw rfl
theorem d311 : decode b26_ 18 = .ok (.return_, 1) := by decide +kernel
abbrev y25_putStringAt : MethodName := ⟨"java/lang/AbstractStringBuilder", "putStringAt", "(ILjava/lang/String;)V"⟩
def WS_r26_putStringAt (Z : State) (o_3 : Addr) : List (Addr × Nat) := [(o_3, 0), (o_3, 1), (o_3, 2), (o_3, 3), (o_3, 4), (o_3, 5), (o_3, 6), (o_3, 7), (o_3, 8), (o_3, 9), (o_3, 10), (o_3, 11), (o_3, 12), (o_3, 13), (o_3, 14), (o_3, 15)]
def Q_r26_putStringAt (Z : State) (o0 o2 : Addr) (i_1 : Int32) (o_3 o_6 : Addr) (i_7 : Int32) (k_o_6 k_o_3 : ClassId) (h0 : Heap) (n0 : Nat) (v : Option Value) (h : Heap) (L : List Loc) : Prop := v = none ∧ Fr n0 L ∧ KL h0 h (WS_r26_putStringAt Z o_3) ∧ Arv Z h o_3 k_o_3 .byte 16 [(.int i_7), z0, z0, z0, z0, z0, z0, z0, z0, z0, z0, z0, z0, z0, z0, z0] z0
theorem ef_r26_putStringAt (o0 o2 : Addr) (m : MethodId) : entryFrame m #[(.ref o0), (.int 0), (.ref o2)] 3 = mkF m 0 #[.val (.ref o0), .val (.int 0), .val (.ref o2)] [] := by first | (simp [entryFrame, mkF, argsToLocals, Value.category]; done) | rfl
set_option maxRecDepth 65536 in
set_option maxHeartbeats 40000000 in
theorem r26_putStringAt (l : Launch) (Z : State) (a0 : Array Value) (hw : HW Z a0) (ws : List Jvm.Cond) (o0 o2 : Addr) (i_1 : Int32) (o_3 o_6 : Addr) (i_7 : Int32) (k_o_6 k_o_3 : ClassId) (h0 : Heap) (n0 : Nat) (Z0 : n0 ≤ h0.size) (E_o0 : Ex2 Z h0 o0) (sCS : SCS Z i_1) (F_o0_coder : Fd5 Z h0 o0 z0) (E_o2 : Ex0 Z h0 o2) (F_o2_coder : Fd0 Z h0 o2 z0) (O0 : Old Z n0 h0) (hp0 : ¬ (i_1 = (0 : Int32))) (F_o0_value : Fd4 Z h0 o0 (.ref o_3)) (F_o2_value : Fd1 Z h0 o2 (.ref o_6)) (V_o_6 : Arv Z h0 o_6 k_o_6 .byte 1 [(.int i_7)] z0) (V_o_3 : Arv Z h0 o_3 k_o_3 .byte 16 [z0, z0, z0, z0, z0, z0, z0, z0, z0, z0, z0, z0, z0, z0, z0, z0] z0) (g_o_3 : n0 ≤ o_3) :
    MF l Z y25_putStringAt b26_ 3 none ws ⟨2, 0, 0, 33⟩ #[(.ref o0), z0, (.ref o2)] h0 (Q_r26_putStringAt Z o0 o2 i_1 o_3 o_6 i_7 k_o_6 k_o_3 h0 n0) := by
  refine own_body (plainFor_of_name pn_AbstractStringBuilder101) (ef_r26_putStringAt o0 o2) (by decide) (by decide) ?_
  intro p e s m below meth c s₁ hx hby hml hown hnm hret hZ hh e0 X0
  have N0 := Fr.nil n0
  obtain ⟨_, T2, L2, X2, hQ2, st2⟩ := own_private X0 hx hZ hown (w151 hw) (w152 hw) (w144 hw) rfl (w153 hw) (w120 hw) (w155 hw) (by decide) (r27_inflateIfNeededFor l Z a0 hw [] o0 o2 i_1 h0 n0 Z0 sCS O0 hp0 F_o0_coder E_o2 F_o2_coder) e0 E_o0 (W := 0) (by decide) (g := (mkF m 2 #[vr o0, vi 0, vr o2] [(.ref o2), (.ref o0)])) rfl hml.symm (argsL := [(.ref o2)]) (rest := []) (lenOf pd_17 rfl) rfl rfl (own_wr rfl rfl) (hb hby d278)
  obtain ⟨rfl, N2q, e2⟩ := hQ2
  have N2 := Fr.app N0 N2q
  obtain ⟨T4, X4, e4, st4⟩ := getF X2 hx hZ hown (host := "") (Or.inl (w124 hw)) Via.refl e2 F_o0_value (g := (mkF m 7 #[vr o0, vi 0, vr o2] [(.ref o0), (.ref o2)])) rfl rfl (hb hby d289)
  obtain ⟨T5, X5, e5, st5⟩ := getF X4 hx hZ hown (host := "") (Or.inl (w126 hw)) Via.refl e4 F_o0_coder (g := (mkF m 12 #[vr o0, vi 0, vr o2] [(.ref o0), z0, (.ref o_3), (.ref o2)])) rfl rfl (hb hby d292)
  obtain ⟨_, T8, L8, X8, hQ8, st8⟩ := own_virtual X5 hx hZ hown (w157 hw) (w158 hw) (nfS hZ (w160 hw)) (w160 hw) (w159 hw) (w6 hw) (w161 hw) (by decide) (r28_getBytes l Z a0 hw [] o2 o_3 i_1 o_6 i_7 k_o_6 k_o_3 h0 n0 Z0 E_o2 sCS F_o2_coder O0 hp0 F_o2_value V_o_6 V_o_3 g_o_3) e5 E_o2 (W := 0) (by decide) (g := (mkF m 15 #[vr o0, vi 0, vr o2] [z0, z0, (.ref o_3), (.ref o2)])) rfl hml.symm (argsL := [(.ref o_3), z0, z0]) (rest := []) (lenOf pd_18 rfl) rfl rfl (own_wr rfl rfl) (hb hby d293)
  obtain ⟨rfl, N8q, K8, Q8_0⟩ := hQ8
  have N8 := Fr.app N2 N8q
  have C0 := (KL.refl h0 (WS_r26_putStringAt Z o_3)).trans K8 (naO (own_mi 0 rfl) (naO (own_mi 1 rfl) (naO (own_mi 2 rfl) (naO (own_mi 3 rfl) (naO (own_mi 4 rfl) (naO (own_mi 5 rfl) (naO (own_mi 6 rfl) (naO (own_mi 7 rfl) (naO (own_mi 8 rfl) (naO (own_mi 9 rfl) (naO (own_mi 10 rfl) (naO (own_mi 11 rfl) (naO (own_mi 12 rfl) (naO (own_mi 13 rfl) (naO (own_mi 14 rfl) (naO (own_mi 15 rfl) na0))))))))))))))))
  refine ⟨T8, _, none, X8, (fun h => by cases h <;> rfl), ?_, fun fs hr => ?_⟩
  · show Q_r26_putStringAt Z o0 o2 i_1 o_3 o_6 i_7 k_o_6 k_o_3 h0 n0 _ T8.heap _
    exact ⟨rfl, N8, C0, Q8_0⟩
  · refine t_aloadN 1 X0.here hx (hb hby d276) rfl rfl rfl ?_
    refine t_aloadN 2 X0.here hx (hb hby d277) rfl rfl rfl ?_
    refine st2 _ ?_
    refine t_aloadN 6 X2.here hx (hb hby d287) rfl rfl rfl ?_
    refine t_aloadN 7 X2.here hx (hb hby d288) rfl rfl rfl ?_
    refine st4 _ ?_
    refine t_iloadN 11 X4.here hx (hb hby d290) rfl rfl ?_
    refine t_aloadN 12 X4.here hx (hb hby d291) rfl rfl rfl ?_
    refine st5 _ ?_
    refine st8 _ ?_
    exact X8.returnOut hx hret (hb hby d311) hr
def w150 (hw : HW Z a0) := ow 150 hw rfl
theorem pd_19 : parseMethodDescriptor "(ILjava/lang/String;)V" = some ⟨[.int, (.object "java/lang/String")], none⟩ := by decide +kernel
def w147 (hw : HW Z a0) := ow 147 hw rfl
def w148 (hw : HW Z a0) := ow 148 hw rfl
theorem d312 : decode b24_ 33 = .ok (.aload_n 0, 1) := by decide +kernel
theorem d313 : decode b24_ 34 = .ok (.dup, 1) := by decide +kernel
theorem d314 : decode b24_ 35 = .ok (.getfield 79, 3) := by decide +kernel
theorem d315 : decode b24_ 38 = .ok (.iload_n 2, 1) := by decide +kernel
theorem d316 : decode b24_ 39 = .ok (.iadd, 1) := by decide +kernel
theorem d317 : decode b24_ 40 = .ok (.putfield 79, 3) := by decide +kernel
theorem d318 : decode b24_ 43 = .ok (.aload_n 0, 1) := by decide +kernel
theorem d319 : decode b24_ 44 = .ok (.areturn, 1) := by decide +kernel
abbrev y26_append : MethodName := ⟨"java/lang/AbstractStringBuilder", "append", "(Ljava/lang/String;)Ljava/lang/AbstractStringBuilder;"⟩
def WS_r24_append (Z : State) (o0 o_6 : Addr) : List (Addr × Nat) := [(o_6, 0), (o_6, 1), (o_6, 2), (o_6, 3), (o_6, 4), (o_6, 5), (o_6, 6), (o_6, 7), (o_6, 8), (o_6, 9), (o_6, 10), (o_6, 11), (o_6, 12), (o_6, 13), (o_6, 14), (o_6, 15), (o0, (sl6 Z))]
def Q_r24_append (Z : State) (o0 o1 o_1 : Addr) (i_2 : Int32) (k_o_1 : ClassId) (i_3 : Int32) (o_6 : Addr) (k_o_6 : ClassId) (h0 : Heap) (n0 : Nat) (v : Option Value) (h : Heap) (L : List Loc) : Prop := v = some (.ref o0) ∧ Fr n0 L ∧ KL h0 h (WS_r24_append Z o0 o_6) ∧ Arv Z h o_6 k_o_6 .byte 16 [(.int i_2), z0, z0, z0, z0, z0, z0, z0, z0, z0, z0, z0, z0, z0, z0, z0] z0 ∧ Fd6 Z h o0 (.int 1)
theorem ef_r24_append (o0 o1 : Addr) (m : MethodId) : entryFrame m #[(.ref o0), (.ref o1)] 3 = mkF m 0 #[.val (.ref o0), .val (.ref o1), .unset] [] := by first | (simp [entryFrame, mkF, argsToLocals, Value.category]; done) | rfl
set_option maxRecDepth 65536 in
set_option maxHeartbeats 40000000 in
theorem r24_append (l : Launch) (Z : State) (a0 : Array Value) (hw : HW Z a0) (ws : List Jvm.Cond) (o0 o1 o_1 : Addr) (i_2 : Int32) (k_o_1 : ClassId) (i_3 : Int32) (o_6 : Addr) (k_o_6 : ClassId) (h0 : Heap) (n0 : Nat) (Z0 : n0 ≤ h0.size) (E_o1 : Ex0 Z h0 o1) (F_o1_value : Fd1 Z h0 o1 (.ref o_1)) (V_o_1 : Arv Z h0 o_1 k_o_1 .byte 1 [(.int i_2)] z0) (sCS : SCS Z i_3) (F_o1_coder : Fd0 Z h0 o1 z0) (O0 : Old Z n0 h0) (hp0 : ¬ (i_3 = (0 : Int32))) (F_o0_count : Fd6 Z h0 o0 z0) (E_o0 : Ex2 Z h0 o0) (F_o0_value : Fd4 Z h0 o0 (.ref o_6)) (V_o_6 : Arv Z h0 o_6 k_o_6 .byte 16 [z0, z0, z0, z0, z0, z0, z0, z0, z0, z0, z0, z0, z0, z0, z0, z0] z0) (F_o0_coder : Fd5 Z h0 o0 z0) (g_o_6 : n0 ≤ o_6) (ne_o0_o_6 : o0 ≠ o_6) (g_o0 : n0 ≤ o0) :
    MF l Z y26_append b24_ 3 (some (.object "java/lang/AbstractStringBuilder")) ws ⟨3, 0, 0, 47⟩ #[(.ref o0), (.ref o1)] h0 (Q_r24_append Z o0 o1 o_1 i_2 k_o_1 i_3 o_6 k_o_6 h0 n0) := by
  refine own_body (plainFor_of_name pn_AbstractStringBuilder101) (ef_r24_append o0 o1) (by decide) (by decide) ?_
  intro p e s m below meth c s₁ hx hby hml hown hnm hret hZ hh e0 X0
  have N0 := Fr.nil n0
  obtain ⟨_, T4, L4, X4, hQ4, st4⟩ := own_virtual X0 hx hZ hown (w138 hw) (w75 hw) (nfS hZ (w77 hw)) (w77 hw) (w76 hw) (w6 hw) (w78 hw) (by decide) (r13_length l Z a0 hw [] o1 o_1 i_2 k_o_1 i_3 h0 n0 Z0 F_o1_value V_o_1 E_o1 sCS F_o1_coder O0 hp0) e0 E_o1 (W := 0) (by decide) (g := (mkF m 10 #[vr o0, vr o1, .unset] [(.ref o1)])) rfl hml.symm (argsL := []) (rest := []) (lenOf pd_10 rfl) rfl rfl (own_wr rfl rfl) (hb hby d251)
  obtain ⟨rfl, N4q, e4⟩ := hQ4
  have N4 := Fr.app N0 N4q
  obtain ⟨T5, X5, e5, st5⟩ := getF X4 hx hZ hown (host := "") (Or.inl (w139 hw)) Via.refl e4 F_o0_count (g := (mkF m 16 #[vr o0, vr o1, vi 1] [(.ref o0), (.ref o0)])) rfl rfl (hb hby d255)
  obtain ⟨_, T7, L7, X7, hQ7, st7⟩ := own_private X5 hx hZ hown (w141 hw) (w142 hw) (w144 hw) rfl (w143 hw) (w120 hw) (w145 hw) (by decide) (r25_ensureCapacityInternal l Z a0 hw [] o0 o_6 k_o_6 h0 n0 Z0 F_o0_value V_o_6 F_o0_coder) e5 E_o0 (W := 0) (by decide) (g := (mkF m 21 #[vr o0, vr o1, vi 1] [(.int 1), (.ref o0)])) rfl hml.symm (argsL := [(.int 1)]) (rest := []) (lenOf pd_16 rfl) rfl rfl (own_wr rfl rfl) (hb hby d258)
  obtain ⟨rfl, N7q, e7⟩ := hQ7
  have N7 := Fr.app N4 N7q
  obtain ⟨T8, X8, e8, st8⟩ := getF X7 hx hZ hown (host := "") (Or.inl (w139 hw)) Via.refl e7 F_o0_count (g := (mkF m 26 #[vr o0, vr o1, vi 1] [(.ref o0), (.ref o0)])) rfl rfl (hb hby d273)
  obtain ⟨_, T9, L9, X9, hQ9, st9⟩ := own_private X8 hx hZ hown (w146 hw) (w147 hw) (w144 hw) rfl (w148 hw) (w120 hw) (w150 hw) (by decide) (r26_putStringAt l Z a0 hw [] o0 o1 i_3 o_6 o_1 i_2 k_o_1 k_o_6 h0 n0 Z0 E_o0 sCS F_o0_coder E_o1 F_o1_coder O0 hp0 F_o0_value F_o1_value V_o_1 V_o_6 g_o_6) e8 E_o0 (W := 0) (by decide) (g := (mkF m 30 #[vr o0, vr o1, vi 1] [(.ref o1), z0, (.ref o0)])) rfl hml.symm (argsL := [z0, (.ref o1)]) (rest := []) (lenOf pd_19 rfl) rfl rfl (own_wr rfl rfl) (hb hby d275)
  obtain ⟨rfl, N9q, K9, Q9_0⟩ := hQ9
  have N9 := Fr.app N7 N9q
  have f10 := (kFld K9 F_o0_count (nwB 16 rfl ne_o0_o_6))
  obtain ⟨T11, X11, e11, st11⟩ := getF X9 hx hZ hown (host := "") (Or.inl (w139 hw)) Via.refl rfl f10 (g := (mkF m 35 #[vr o0, vr o1, vi 1] [(.ref o0), (.ref o0)])) rfl rfl (hb hby d314)
  have f12 := (kExa K9 E_o0)
  obtain ⟨T13, h13, X13, e13, W13, st13⟩ := putF X11 hx hZ hown (host := "") (Or.inl (w139 hw)) Via.refl e11 f10 f12 (Or.inl (w140 hw)) (w111 hw) (ty := .int) (by decide) rfl rfl (g := (mkF m 40 #[vr o0, vr o1, vi 1] [(.int 1), (.ref o0)])) rfl rfl (hb hby d317)
  have K13 := KL.ofW W13
  have Fw13 : Fd6 Z h13 o0 (.int 1) := Fld.same W13 f10
  have N13 := Fr.snoc X13 N9 g_o0
  have C0 := (KL.refl h0 (WS_r24_append Z o0 o_6)).trans K9 (naO (own_mi 0 rfl) (naO (own_mi 1 rfl) (naO (own_mi 2 rfl) (naO (own_mi 3 rfl) (naO (own_mi 4 rfl) (naO (own_mi 5 rfl) (naO (own_mi 6 rfl) (naO (own_mi 7 rfl) (naO (own_mi 8 rfl) (naO (own_mi 9 rfl) (naO (own_mi 10 rfl) (naO (own_mi 11 rfl) (naO (own_mi 12 rfl) (naO (own_mi 13 rfl) (naO (own_mi 14 rfl) (naO (own_mi 15 rfl) na0))))))))))))))))
  have C1 := C0.trans K13 (naO (own_mi 16 rfl) na0)
  have f14 := (kArv K13 Q9_0 (naN ne_o0_o_6 na0))
  refine ⟨T13, _, some (.ref o0), X13, (fun h => by cases h <;> rfl), ?_, fun fs hr => ?_⟩
  · show Q_r24_append Z o0 o1 o_1 i_2 k_o_1 i_3 o_6 k_o_6 h0 n0 _ T13.heap _
    rw [e13]
    exact ⟨rfl, N13, C1, f14, Fw13⟩
  · refine t_aloadN 1 X0.here hx (hb hby d248) rfl rfl rfl ?_
    refine t_ifnonnullYes (pc := 1) 9 X0.here hx (hb hby d249) (by decide) (by decide) ?_
    refine t_aloadN 10 X0.here hx (hb hby d250) rfl rfl rfl ?_
    refine st4 _ ?_
    refine t_istoreN (pc' := 14) (L' := #[vr o0, vr o1, vi 1]) X4.here hx (hb hby d252) rfl rfl ?_
    refine t_aloadN 15 X4.here hx (hb hby d253) rfl rfl rfl ?_
    refine t_aloadN 16 X4.here hx (hb hby d254) rfl rfl rfl ?_
    refine st5 _ ?_
    refine t_iloadN 20 X5.here hx (hb hby d256) rfl rfl ?_
    refine t_iadd 21 (r := 1) X5.here hx (hb hby d257) (by decide : ((0 : Int32) + (1 : Int32)) = (1 : Int32)) rfl ?_
    refine st7 _ ?_
    refine t_aloadN 25 X7.here hx (hb hby d271) rfl rfl rfl ?_
    refine t_aloadN 26 X7.here hx (hb hby d272) rfl rfl rfl ?_
    refine st8 _ ?_
    refine t_aloadN 30 X8.here hx (hb hby d274) rfl rfl rfl ?_
    refine st9 _ ?_
    refine t_aloadN 34 X9.here hx (hb hby d312) rfl rfl rfl ?_
    refine t_dup 35 X9.here hx (hb hby d313) rfl rfl ?_
    refine st11 _ ?_
    refine t_iloadN 39 X11.here hx (hb hby d315) rfl rfl ?_
    refine t_iadd 40 (r := 1) X11.here hx (hb hby d316) (by decide : ((0 : Int32) + (1 : Int32)) = (1 : Int32)) rfl ?_
    refine st13 _ ?_
    refine t_aloadN 44 X13.here hx (hb hby d318) rfl rfl rfl ?_
    jvm_step X13.here [X13.here.top, hx, (hb hby d319), X13.method', hret, Value.isRef, FieldType.isReference]
    first | (intro acts; rw [hr _ acts rfl rfl rfl]) | rw [hr _ _ rfl rfl rfl]
    exact Steps.refl _
def w137 (hw : HW Z a0) := ow 137 hw rfl
theorem pd_20 : parseMethodDescriptor "(Ljava/lang/String;)Ljava/lang/AbstractStringBuilder;" = some ⟨[(.object "java/lang/String")], some (.object "java/lang/AbstractStringBuilder")⟩ := by decide +kernel
def w134 (hw : HW Z a0) := ow 134 hw rfl
def w135 (hw : HW Z a0) := ow 135 hw rfl
theorem d320 : decode b23_ 5 = .ok (.pop, 1) := by decide +kernel
theorem d321 : decode b23_ 6 = .ok (.aload_n 0, 1) := by decide +kernel
theorem d322 : decode b23_ 7 = .ok (.areturn, 1) := by decide +kernel
abbrev y27_append : MethodName := ⟨"java/lang/StringBuilder", "append", "(Ljava/lang/String;)Ljava/lang/StringBuilder;"⟩
def WS_r23_append (Z : State) (o0 o_4 : Addr) : List (Addr × Nat) := [(o_4, 0), (o_4, 1), (o_4, 2), (o_4, 3), (o_4, 4), (o_4, 5), (o_4, 6), (o_4, 7), (o_4, 8), (o_4, 9), (o_4, 10), (o_4, 11), (o_4, 12), (o_4, 13), (o_4, 14), (o_4, 15), (o0, (sl6 Z))]
def Q_r23_append (Z : State) (o0 o1 o_1 : Addr) (i_2 : Int32) (k_o_1 : ClassId) (i_3 : Int32) (o_4 : Addr) (k_o_4 : ClassId) (h0 : Heap) (n0 : Nat) (v : Option Value) (h : Heap) (L : List Loc) : Prop := v = some (.ref o0) ∧ Fr n0 L ∧ KL h0 h (WS_r23_append Z o0 o_4) ∧ Arv Z h o_4 k_o_4 .byte 16 [(.int i_2), z0, z0, z0, z0, z0, z0, z0, z0, z0, z0, z0, z0, z0, z0, z0] z0 ∧ Fd6 Z h o0 (.int 1)
theorem ef_r23_append (o0 o1 : Addr) (m : MethodId) : entryFrame m #[(.ref o0), (.ref o1)] 2 = mkF m 0 #[.val (.ref o0), .val (.ref o1)] [] := by first | (simp [entryFrame, mkF, argsToLocals, Value.category]; done) | rfl
set_option maxRecDepth 65536 in
set_option maxHeartbeats 40000000 in
theorem r23_append (l : Launch) (Z : State) (a0 : Array Value) (hw : HW Z a0) (ws : List Jvm.Cond) (o0 o1 o_1 : Addr) (i_2 : Int32) (k_o_1 : ClassId) (i_3 : Int32) (o_4 : Addr) (k_o_4 : ClassId) (h0 : Heap) (n0 : Nat) (Z0 : n0 ≤ h0.size) (E_o0 : Ex2 Z h0 o0) (E_o1 : Ex0 Z h0 o1) (F_o1_value : Fd1 Z h0 o1 (.ref o_1)) (V_o_1 : Arv Z h0 o_1 k_o_1 .byte 1 [(.int i_2)] z0) (sCS : SCS Z i_3) (F_o1_coder : Fd0 Z h0 o1 z0) (F_o0_count : Fd6 Z h0 o0 z0) (F_o0_value : Fd4 Z h0 o0 (.ref o_4)) (V_o_4 : Arv Z h0 o_4 k_o_4 .byte 16 [z0, z0, z0, z0, z0, z0, z0, z0, z0, z0, z0, z0, z0, z0, z0, z0] z0) (F_o0_coder : Fd5 Z h0 o0 z0) (O0 : Old Z n0 h0) (hp0 : ¬ (i_3 = (0 : Int32))) (g_o_4 : n0 ≤ o_4) (ne_o0_o_4 : o0 ≠ o_4) (g_o0 : n0 ≤ o0) :
    MF l Z y27_append b23_ 2 (some (.object "java/lang/StringBuilder")) ws ⟨4, 0, 0, 61⟩ #[(.ref o0), (.ref o1)] h0 (Q_r23_append Z o0 o1 o_1 i_2 k_o_1 i_3 o_4 k_o_4 h0 n0) := by
  refine own_body (plainFor_of_name pn_StringBuilder278) (ef_r23_append o0 o1) (by decide) (by decide) ?_
  intro p e s m below meth c s₁ hx hby hml hown hnm hret hZ hh e0 X0
  have N0 := Fr.nil n0
  obtain ⟨_, T5, L5, X5, hQ5, st5⟩ := own_super X0 hx hZ hown (w133 hw) (w134 hw) (w144 hw) rfl (w135 hw) (by decide) (w120 hw) (w137 hw) (by decide) (r24_append l Z a0 hw [] o0 o1 o_1 i_2 k_o_1 i_3 o_4 k_o_4 h0 n0 Z0 E_o1 F_o1_value V_o_1 sCS F_o1_coder O0 hp0 F_o0_count E_o0 F_o0_value V_o_4 F_o0_coder g_o_4 ne_o0_o_4 g_o0) e0 E_o0 (W := 0) (by decide) (g := (mkF m 2 #[vr o0, vr o1] [(.ref o1), (.ref o0)])) rfl hml.symm (argsL := [(.ref o1)]) (rest := []) (lenOf pd_20 rfl) rfl rfl (own_wr rfl rfl) (hb hby d247)
  obtain ⟨rfl, N5q, K5, Q5_0, Q5_1⟩ := hQ5
  have N5 := Fr.app N0 N5q
  have C0 := (KL.refl h0 (WS_r23_append Z o0 o_4)).trans K5 (naO (own_mi 0 rfl) (naO (own_mi 1 rfl) (naO (own_mi 2 rfl) (naO (own_mi 3 rfl) (naO (own_mi 4 rfl) (naO (own_mi 5 rfl) (naO (own_mi 6 rfl) (naO (own_mi 7 rfl) (naO (own_mi 8 rfl) (naO (own_mi 9 rfl) (naO (own_mi 10 rfl) (naO (own_mi 11 rfl) (naO (own_mi 12 rfl) (naO (own_mi 13 rfl) (naO (own_mi 14 rfl) (naO (own_mi 15 rfl) (naO (own_mi 16 rfl) na0)))))))))))))))))
  refine ⟨T5, _, some (.ref o0), X5, (fun h => by cases h <;> rfl), ?_, fun fs hr => ?_⟩
  · show Q_r23_append Z o0 o1 o_1 i_2 k_o_1 i_3 o_4 k_o_4 h0 n0 _ T5.heap _
    exact ⟨rfl, N5, C0, Q5_0, Q5_1⟩
  · refine t_aloadN 1 X0.here hx (hb hby d245) rfl rfl rfl ?_
    refine t_aloadN 2 X0.here hx (hb hby d246) rfl rfl rfl ?_
    refine st5 _ ?_
    refine t_pop 6 X5.here hx (hb hby d320) rfl rfl ?_
    refine t_aloadN 7 X5.here hx (hb hby d321) rfl rfl rfl ?_
    jvm_step X5.here [X5.here.top, hx, (hb hby d322), X5.method', hret, Value.isRef, FieldType.isReference]
    first | (intro acts; rw [hr _ acts rfl rfl rfl]) | rw [hr _ _ rfl rfl rfl]
    exact Steps.refl _
theorem sn_6 {Z : State} {a0 : Array Value} (hw : HW Z a0) : Jvm.RoadKit.slotOf Z "java/lang/AbstractStringBuilder" "count" "I" ≠ Jvm.RoadKit.slotOf Z "java/lang/AbstractStringBuilder" "coder" "B" := slot_ne (C := "java/lang/StringBuilder") (a0 := a0) (Or.inl (w140 hw)) (Or.inl (w127 hw)) (by decide) (t := .int) (t' := .byte) (by decide) (by decide)
theorem sn_7 {Z : State} {a0 : Array Value} (hw : HW Z a0) : Jvm.RoadKit.slotOf Z "java/lang/AbstractStringBuilder" "count" "I" ≠ Jvm.RoadKit.slotOf Z "java/lang/AbstractStringBuilder" "value" "[B" := slot_ne (C := "java/lang/StringBuilder") (a0 := a0) (Or.inl (w140 hw)) (Or.inl (w125 hw)) (by decide) (t := .int) (t' := (.array .byte)) (by decide) (by decide)
def w132 (hw : HW Z a0) := ow 132 hw rfl
theorem pd_21 : parseMethodDescriptor "(Ljava/lang/String;)Ljava/lang/StringBuilder;" = some ⟨[(.object "java/lang/String")], some (.object "java/lang/StringBuilder")⟩ := by decide +kernel
def w129 (hw : HW Z a0) := ow 129 hw rfl
def w130 (hw : HW Z a0) := ow 130 hw rfl
theorem d323 : decode b20_ 14 = .ok (.ldc 68, 2) := by decide +kernel
theorem d324 : decode b20_ 16 = .ok (.invokevirtual 34, 3) := by decide +kernel
def Q_r31_ensureCapacityInternal (Z : State) (o0 o_1 : Addr) (i_3 : Int32) (k_o_1 : ClassId) (h0 : Heap) (n0 : Nat) (v : Option Value) (h : Heap) (L : List Loc) : Prop := v = none ∧ Fr n0 L ∧ h = h0
theorem ef_r31_ensureCapacityInternal (o0 : Addr) (m : MethodId) : entryFrame m #[(.ref o0), (.int 2)] 3 = mkF m 0 #[.val (.ref o0), .val (.int 2), .unset] [] := by first | (simp [entryFrame, mkF, argsToLocals, Value.category]; done) | rfl
set_option maxRecDepth 65536 in
set_option maxHeartbeats 40000000 in
theorem r31_ensureCapacityInternal (l : Launch) (Z : State) (a0 : Array Value) (hw : HW Z a0) (ws : List Jvm.Cond) (o0 o_1 : Addr) (i_3 : Int32) (k_o_1 : ClassId) (h0 : Heap) (n0 : Nat) (Z0 : n0 ≤ h0.size) (F_o0_value : Fd4 Z h0 o0 (.ref o_1)) (V_o_1 : Arv Z h0 o_1 k_o_1 .byte 16 [(.int i_3), z0, z0, z0, z0, z0, z0, z0, z0, z0, z0, z0, z0, z0, z0, z0] z0) (F_o0_coder : Fd5 Z h0 o0 z0) :
    MF l Z y22_ensureCapacityInternal b25_ 3 none ws ⟨0, 0, 0, 0⟩ #[(.ref o0), (.int 2)] h0 (Q_r31_ensureCapacityInternal Z o0 o_1 i_3 k_o_1 h0 n0) := by
  refine own_body (plainFor_of_name pn_AbstractStringBuilder101) (ef_r31_ensureCapacityInternal o0) (by decide) (by decide) ?_
  intro p e s m below meth c s₁ hx hby hml hown hnm hret hZ hh e0 X0
  have N0 := Fr.nil n0
  obtain ⟨T2, X2, e2, st2⟩ := getF X0 hx hZ hown (host := "") (Or.inl (w124 hw)) Via.refl e0 F_o0_value (g := (mkF m 1 #[vr o0, vi 2, .unset] [(.ref o0)])) rfl rfl (hb hby d260)
  obtain ⟨T4, X4, e4, st4⟩ := getF X2 hx hZ hown (host := "") (Or.inl (w126 hw)) Via.refl e2 F_o0_coder (g := (mkF m 6 #[vr o0, vi 2, .unset] [(.ref o0), (.int 16)])) rfl rfl (hb hby d263)
  refine ⟨T4, _, none, X4, (fun h => by cases h <;> rfl), ?_, fun fs hr => ?_⟩
  · show Q_r31_ensureCapacityInternal Z o0 o_1 i_3 k_o_1 h0 n0 _ T4.heap _
    rw [e4]
    exact ⟨rfl, N0, rfl⟩
  · refine t_aloadN 1 X0.here hx (hb hby d259) rfl rfl rfl ?_
    refine st2 _ ?_
    refine own_arlen (pc' := 5) X2 hx hZ e2 V_o_1 (hb hby d261) rfl ?_
    refine t_aloadN 6 X2.here hx (hb hby d262) rfl rfl rfl ?_
    refine st4 _ ?_
    refine t_ishr 10 (r := 16) X4.here hx (hb hby d264) (by decide : ((16 : Int32) >>> ((0 : Int32) &&& 31)) = (16 : Int32)) rfl ?_
    refine t_istoreN (pc' := 11) (L' := #[vr o0, vi 2, vi 16]) X4.here hx (hb hby d265) rfl rfl ?_
    refine t_iloadN 12 X4.here hx (hb hby d266) rfl rfl ?_
    refine t_iloadN 13 X4.here hx (hb hby d267) rfl rfl ?_
    refine t_isub 14 (r := (-14 : Int32)) X4.here hx (hb hby d268) (by decide : ((2 : Int32) - (16 : Int32)) = (-14 : Int32)) rfl ?_
    refine t_ifYes (pc := 14) 38 X4.here hx (hb hby d269) (by decide) (by decide) (by decide) ?_
    exact X4.returnOut hx hret (hb hby d270) hr
def WS_r33_getBytes (Z : State) (o1 : Addr) : List (Addr × Nat) := [(o1, 0), (o1, 1), (o1, 2), (o1, 3), (o1, 4), (o1, 5), (o1, 6), (o1, 7), (o1, 8), (o1, 9), (o1, 10), (o1, 11), (o1, 12), (o1, 13), (o1, 14), (o1, 15)]
def Q_r33_getBytes (Z : State) (o0 o1 : Addr) (i_1 : Int32) (o_3 : Addr) (i_6 : Int32) (k_o_3 : ClassId) (i_7 : Int32) (k_o1 : ClassId) (h0 : Heap) (n0 : Nat) (v : Option Value) (h : Heap) (L : List Loc) : Prop := v = none ∧ Fr n0 L ∧ KL h0 h (WS_r33_getBytes Z o1) ∧ Arv Z h o1 k_o1 .byte 16 [(.int i_7), (.int i_6), z0, z0, z0, z0, z0, z0, z0, z0, z0, z0, z0, z0, z0, z0] z0
theorem ef_r33_getBytes (o0 o1 : Addr) (m : MethodId) : entryFrame m #[(.ref o0), (.ref o1), (.int 1), (.int 0)] 4 = mkF m 0 #[.val (.ref o0), .val (.ref o1), .val (.int 1), .val (.int 0)] [] := by first | (simp [entryFrame, mkF, argsToLocals, Value.category]; done) | rfl
set_option maxRecDepth 65536 in
set_option maxHeartbeats 40000000 in
theorem r33_getBytes (l : Launch) (Z : State) (a0 : Array Value) (hw : HW Z a0) (ws : List Jvm.Cond) (o0 o1 : Addr) (i_1 : Int32) (o_3 : Addr) (i_6 : Int32) (k_o_3 : ClassId) (i_7 : Int32) (k_o1 : ClassId) (h0 : Heap) (n0 : Nat) (Z0 : n0 ≤ h0.size) (E_o0 : Ex0 Z h0 o0) (sCS : SCS Z i_1) (F_o0_coder : Fd0 Z h0 o0 z0) (O0 : Old Z n0 h0) (hp0 : ¬ (i_1 = (0 : Int32))) (F_o0_value : Fd1 Z h0 o0 (.ref o_3)) (V_o_3 : Arv Z h0 o_3 k_o_3 .byte 1 [(.int i_6)] z0) (V_o1 : Arv Z h0 o1 k_o1 .byte 16 [(.int i_7), z0, z0, z0, z0, z0, z0, z0, z0, z0, z0, z0, z0, z0, z0, z0] z0) (g_o1 : n0 ≤ o1) :
    MF l Z y24_getBytes b28_ 4 none ws ⟨1, 0, 0, 18⟩ #[(.ref o0), (.ref o1), (.int 1), z0] h0 (Q_r33_getBytes Z o0 o1 i_1 o_3 i_6 k_o_3 i_7 k_o1 h0 n0) := by
  refine own_body (plainFor_of_name pn_String564) (ef_r33_getBytes o0 o1) (by decide) (by decide) ?_
  intro p e s m below meth c s₁ hx hby hml hown hnm hret hZ hh e0 X0
  have N0 := Fr.nil n0
  obtain ⟨_, T2, L2, X2, hQ2, st2⟩ := own_virtual X0 hx hZ hown (w79 hw) (w80 hw) (nfS hZ (w82 hw)) (w82 hw) (w81 hw) (w6 hw) (w83 hw) (by decide) (r14_coder l Z a0 hw [] o0 i_1 h0 n0 Z0 sCS O0 hp0 F_o0_coder) e0 E_o0 (W := 0) (by decide) (g := (mkF m 1 #[vr o0, vr o1, vi 1, vi 0] [(.ref o0)])) rfl hml.symm (argsL := []) (rest := []) (lenOf pd_9 rfl) rfl rfl (own_wr rfl rfl) (hb hby d295)
  obtain ⟨rfl, N2q, e2⟩ := hQ2
  have N2 := Fr.app N0 N2q
  obtain ⟨T4, X4, e4, st4⟩ := getF X2 hx hZ hown (host := "") (Or.inl (w32 hw)) Via.refl e2 F_o0_value (g := (mkF m 9 #[vr o0, vr o1, vi 1, vi 0] [(.ref o0)])) rfl rfl (hb hby d299)
  obtain ⟨T5, X5, e5, st5⟩ := getF X4 hx hZ hown (host := "") (Or.inl (w32 hw)) Via.refl e4 F_o0_value (g := (mkF m 18 #[vr o0, vr o1, vi 1, vi 0] [(.ref o0), (.int 1), (.ref o1), z0, (.ref o_3)])) rfl rfl (hb hby d306)
  obtain ⟨T8, h8, L8, X8, e8, N8, Kp8, V8, st8⟩ := cpA X5 hx hZ hown (w162 hw) (w165 hw) (w163 hw) (w164 hw) e5 (us := [(.int i_6)]) V_o_3 V_o1 (Or.inl ⟨rfl, rfl⟩) (by decide) (by decide) (by decide) (by decide) (by decide) rfl (by first | decide | exact Nat.le_of_ble_eq_true rfl) N2 g_o1 (g := (mkF m 22 #[vr o0, vr o1, vi 1, vi 0] [(.int 1), (.int 1), (.ref o1), z0, (.ref o_3)])) rfl hml.symm rfl (hb hby d308) (by decide) (W := 0) (own_wr rfl rfl) (by decide)
  have K8 : KL h0 h8 [(o1, 0), (o1, 1), (o1, 2), (o1, 3), (o1, 4), (o1, 5), (o1, 6), (o1, 7), (o1, 8), (o1, 9), (o1, 10), (o1, 11), (o1, 12), (o1, 13), (o1, 14), (o1, 15)] := own_kcp Kp8 V_o1 (n := 16) rfl ⟨_, rfl⟩
  replace V8 : Arv Z h8 o1 k_o1 .byte 16 [(.int i_7), (.int i_6), z0, z0, z0, z0, z0, z0, z0, z0, z0, z0, z0, z0, z0, z0] z0 := V8
  have C0 := (KL.refl h0 (WS_r33_getBytes Z o1)).trans K8 (naO (own_mi 0 rfl) (naO (own_mi 1 rfl) (naO (own_mi 2 rfl) (naO (own_mi 3 rfl) (naO (own_mi 4 rfl) (naO (own_mi 5 rfl) (naO (own_mi 6 rfl) (naO (own_mi 7 rfl) (naO (own_mi 8 rfl) (naO (own_mi 9 rfl) (naO (own_mi 10 rfl) (naO (own_mi 11 rfl) (naO (own_mi 12 rfl) (naO (own_mi 13 rfl) (naO (own_mi 14 rfl) (naO (own_mi 15 rfl) na0))))))))))))))))
  refine ⟨T8, _, none, X8, (fun h => by cases h <;> rfl), ?_, fun fs hr => ?_⟩
  · show Q_r33_getBytes Z o0 o1 i_1 o_3 i_6 k_o_3 i_7 k_o1 h0 n0 _ T8.heap _
    rw [e8]
    exact ⟨rfl, N8, C0, V8⟩
  · refine t_aloadN 1 X0.here hx (hb hby d294) rfl rfl rfl ?_
    refine st2 _ ?_
    refine t_iloadN 5 X2.here hx (hb hby d296) rfl rfl ?_
    refine t_icmpNo 8 X2.here hx (hb hby d297) (by decide) rfl ?_
    refine t_aloadN 9 X2.here hx (hb hby d298) rfl rfl rfl ?_
    refine st4 _ ?_
    refine t_iconst 13 (r := 0) X4.here hx (hb hby d300) (by decide) rfl ?_
    refine t_aloadN 14 X4.here hx (hb hby d301) rfl rfl rfl ?_
    refine t_iloadN 15 X4.here hx (hb hby d302) rfl rfl ?_
    refine t_iloadN 16 X4.here hx (hb hby d303) rfl rfl ?_
    refine t_ishl 17 (r := 1) X4.here hx (hb hby d304) (by decide : ((1 : Int32) <<< ((0 : Int32) &&& 31)) = (1 : Int32)) rfl ?_
    refine t_aloadN 18 X4.here hx (hb hby d305) rfl rfl rfl ?_
    refine st5 _ ?_
    refine own_arlen (pc' := 22) X5 hx hZ e5 V_o_3 (hb hby d307) rfl ?_
    refine st8 _ ?_
    refine t_goto (pc := 25) 43 X8.here hx (hb hby d309) (by decide) (by decide) ?_
    exact X8.returnOut hx hret (hb hby d310) hr
def WS_r32_putStringAt (Z : State) (o_3 : Addr) : List (Addr × Nat) := [(o_3, 0), (o_3, 1), (o_3, 2), (o_3, 3), (o_3, 4), (o_3, 5), (o_3, 6), (o_3, 7), (o_3, 8), (o_3, 9), (o_3, 10), (o_3, 11), (o_3, 12), (o_3, 13), (o_3, 14), (o_3, 15)]
def Q_r32_putStringAt (Z : State) (o0 o2 : Addr) (i_1 : Int32) (o_3 o_6 : Addr) (i_7 : Int32) (k_o_6 : ClassId) (i_8 : Int32) (k_o_3 : ClassId) (h0 : Heap) (n0 : Nat) (v : Option Value) (h : Heap) (L : List Loc) : Prop := v = none ∧ Fr n0 L ∧ KL h0 h (WS_r32_putStringAt Z o_3) ∧ Arv Z h o_3 k_o_3 .byte 16 [(.int i_8), (.int i_7), z0, z0, z0, z0, z0, z0, z0, z0, z0, z0, z0, z0, z0, z0] z0
theorem ef_r32_putStringAt (o0 o2 : Addr) (m : MethodId) : entryFrame m #[(.ref o0), (.int 1), (.ref o2)] 3 = mkF m 0 #[.val (.ref o0), .val (.int 1), .val (.ref o2)] [] := by first | (simp [entryFrame, mkF, argsToLocals, Value.category]; done) | rfl
set_option maxRecDepth 65536 in
set_option maxHeartbeats 40000000 in
theorem r32_putStringAt (l : Launch) (Z : State) (a0 : Array Value) (hw : HW Z a0) (ws : List Jvm.Cond) (o0 o2 : Addr) (i_1 : Int32) (o_3 o_6 : Addr) (i_7 : Int32) (k_o_6 : ClassId) (i_8 : Int32) (k_o_3 : ClassId) (h0 : Heap) (n0 : Nat) (Z0 : n0 ≤ h0.size) (E_o0 : Ex2 Z h0 o0) (sCS : SCS Z i_1) (F_o0_coder : Fd5 Z h0 o0 z0) (E_o2 : Ex0 Z h0 o2) (F_o2_coder : Fd0 Z h0 o2 z0) (O0 : Old Z n0 h0) (hp0 : ¬ (i_1 = (0 : Int32))) (F_o0_value : Fd4 Z h0 o0 (.ref o_3)) (F_o2_value : Fd1 Z h0 o2 (.ref o_6)) (V_o_6 : Arv Z h0 o_6 k_o_6 .byte 1 [(.int i_7)] z0) (V_o_3 : Arv Z h0 o_3 k_o_3 .byte 16 [(.int i_8), z0, z0, z0, z0, z0, z0, z0, z0, z0, z0, z0, z0, z0, z0, z0] z0) (g_o_3 : n0 ≤ o_3) :
    MF l Z y25_putStringAt b26_ 3 none ws ⟨2, 0, 0, 33⟩ #[(.ref o0), (.int 1), (.ref o2)] h0 (Q_r32_putStringAt Z o0 o2 i_1 o_3 o_6 i_7 k_o_6 i_8 k_o_3 h0 n0) := by
  refine own_body (plainFor_of_name pn_AbstractStringBuilder101) (ef_r32_putStringAt o0 o2) (by decide) (by decide) ?_
  intro p e s m below meth c s₁ hx hby hml hown hnm hret hZ hh e0 X0
  have N0 := Fr.nil n0
  obtain ⟨_, T2, L2, X2, hQ2, st2⟩ := own_private X0 hx hZ hown (w151 hw) (w152 hw) (w144 hw) rfl (w153 hw) (w120 hw) (w155 hw) (by decide) (r27_inflateIfNeededFor l Z a0 hw [] o0 o2 i_1 h0 n0 Z0 sCS O0 hp0 F_o0_coder E_o2 F_o2_coder) e0 E_o0 (W := 0) (by decide) (g := (mkF m 2 #[vr o0, vi 1, vr o2] [(.ref o2), (.ref o0)])) rfl hml.symm (argsL := [(.ref o2)]) (rest := []) (lenOf pd_17 rfl) rfl rfl (own_wr rfl rfl) (hb hby d278)
  obtain ⟨rfl, N2q, e2⟩ := hQ2
  have N2 := Fr.app N0 N2q
  obtain ⟨T4, X4, e4, st4⟩ := getF X2 hx hZ hown (host := "") (Or.inl (w124 hw)) Via.refl e2 F_o0_value (g := (mkF m 7 #[vr o0, vi 1, vr o2] [(.ref o0), (.ref o2)])) rfl rfl (hb hby d289)
  obtain ⟨T5, X5, e5, st5⟩ := getF X4 hx hZ hown (host := "") (Or.inl (w126 hw)) Via.refl e4 F_o0_coder (g := (mkF m 12 #[vr o0, vi 1, vr o2] [(.ref o0), (.int 1), (.ref o_3), (.ref o2)])) rfl rfl (hb hby d292)
  obtain ⟨_, T9, L9, X9, hQ9, st9⟩ := own_virtual X5 hx hZ hown (w157 hw) (w158 hw) (nfS hZ (w160 hw)) (w160 hw) (w159 hw) (w6 hw) (w161 hw) (by decide) (r33_getBytes l Z a0 hw [] o2 o_3 i_1 o_6 i_7 k_o_6 i_8 k_o_3 h0 n0 Z0 E_o2 sCS F_o2_coder O0 hp0 F_o2_value V_o_6 V_o_3 g_o_3) e5 E_o2 (W := 0) (by decide) (g := (mkF m 15 #[vr o0, vi 1, vr o2] [z0, (.int 1), (.ref o_3), (.ref o2)])) rfl hml.symm (argsL := [(.ref o_3), (.int 1), z0]) (rest := []) (lenOf pd_18 rfl) rfl rfl (own_wr rfl rfl) (hb hby d293)
  obtain ⟨rfl, N9q, K9, Q9_0⟩ := hQ9
  have N9 := Fr.app N2 N9q
  have C0 := (KL.refl h0 (WS_r32_putStringAt Z o_3)).trans K9 (naO (own_mi 0 rfl) (naO (own_mi 1 rfl) (naO (own_mi 2 rfl) (naO (own_mi 3 rfl) (naO (own_mi 4 rfl) (naO (own_mi 5 rfl) (naO (own_mi 6 rfl) (naO (own_mi 7 rfl) (naO (own_mi 8 rfl) (naO (own_mi 9 rfl) (naO (own_mi 10 rfl) (naO (own_mi 11 rfl) (naO (own_mi 12 rfl) (naO (own_mi 13 rfl) (naO (own_mi 14 rfl) (naO (own_mi 15 rfl) na0))))))))))))))))
  refine ⟨T9, _, none, X9, (fun h => by cases h <;> rfl), ?_, fun fs hr => ?_⟩
  · show Q_r32_putStringAt Z o0 o2 i_1 o_3 o_6 i_7 k_o_6 i_8 k_o_3 h0 n0 _ T9.heap _
    exact ⟨rfl, N9, C0, Q9_0⟩
  · refine t_aloadN 1 X0.here hx (hb hby d276) rfl rfl rfl ?_
    refine t_aloadN 2 X0.here hx (hb hby d277) rfl rfl rfl ?_
    refine st2 _ ?_
    refine t_aloadN 6 X2.here hx (hb hby d287) rfl rfl rfl ?_
    refine t_aloadN 7 X2.here hx (hb hby d288) rfl rfl rfl ?_
    refine st4 _ ?_
    refine t_iloadN 11 X4.here hx (hb hby d290) rfl rfl ?_
    refine t_aloadN 12 X4.here hx (hb hby d291) rfl rfl rfl ?_
    refine st5 _ ?_
    refine st9 _ ?_
    exact X9.returnOut hx hret (hb hby d311) hr
def WS_r30_append (Z : State) (o0 o_6 : Addr) : List (Addr × Nat) := [(o_6, 0), (o_6, 1), (o_6, 2), (o_6, 3), (o_6, 4), (o_6, 5), (o_6, 6), (o_6, 7), (o_6, 8), (o_6, 9), (o_6, 10), (o_6, 11), (o_6, 12), (o_6, 13), (o_6, 14), (o_6, 15), (o0, (sl6 Z))]
def Q_r30_append (Z : State) (o0 o1 o_1 : Addr) (i_2 : Int32) (k_o_1 : ClassId) (i_3 : Int32) (o_6 : Addr) (i_7 : Int32) (k_o_6 : ClassId) (h0 : Heap) (n0 : Nat) (v : Option Value) (h : Heap) (L : List Loc) : Prop := v = some (.ref o0) ∧ Fr n0 L ∧ KL h0 h (WS_r30_append Z o0 o_6) ∧ Arv Z h o_6 k_o_6 .byte 16 [(.int i_7), (.int i_2), z0, z0, z0, z0, z0, z0, z0, z0, z0, z0, z0, z0, z0, z0] z0 ∧ Fd6 Z h o0 (.int 2)
theorem ef_r30_append (o0 o1 : Addr) (m : MethodId) : entryFrame m #[(.ref o0), (.ref o1)] 3 = mkF m 0 #[.val (.ref o0), .val (.ref o1), .unset] [] := by first | (simp [entryFrame, mkF, argsToLocals, Value.category]; done) | rfl
set_option maxRecDepth 65536 in
set_option maxHeartbeats 40000000 in
theorem r30_append (l : Launch) (Z : State) (a0 : Array Value) (hw : HW Z a0) (ws : List Jvm.Cond) (o0 o1 o_1 : Addr) (i_2 : Int32) (k_o_1 : ClassId) (i_3 : Int32) (o_6 : Addr) (i_7 : Int32) (k_o_6 : ClassId) (h0 : Heap) (n0 : Nat) (Z0 : n0 ≤ h0.size) (E_o1 : Ex0 Z h0 o1) (F_o1_value : Fd1 Z h0 o1 (.ref o_1)) (V_o_1 : Arv Z h0 o_1 k_o_1 .byte 1 [(.int i_2)] z0) (sCS : SCS Z i_3) (F_o1_coder : Fd0 Z h0 o1 z0) (O0 : Old Z n0 h0) (hp0 : ¬ (i_3 = (0 : Int32))) (F_o0_count : Fd6 Z h0 o0 (.int 1)) (E_o0 : Ex2 Z h0 o0) (F_o0_value : Fd4 Z h0 o0 (.ref o_6)) (V_o_6 : Arv Z h0 o_6 k_o_6 .byte 16 [(.int i_7), z0, z0, z0, z0, z0, z0, z0, z0, z0, z0, z0, z0, z0, z0, z0] z0) (F_o0_coder : Fd5 Z h0 o0 z0) (g_o_6 : n0 ≤ o_6) (ne_o0_o_6 : o0 ≠ o_6) (g_o0 : n0 ≤ o0) :
    MF l Z y26_append b24_ 3 (some (.object "java/lang/AbstractStringBuilder")) ws ⟨3, 0, 0, 47⟩ #[(.ref o0), (.ref o1)] h0 (Q_r30_append Z o0 o1 o_1 i_2 k_o_1 i_3 o_6 i_7 k_o_6 h0 n0) := by
  refine own_body (plainFor_of_name pn_AbstractStringBuilder101) (ef_r30_append o0 o1) (by decide) (by decide) ?_
  intro p e s m below meth c s₁ hx hby hml hown hnm hret hZ hh e0 X0
  have N0 := Fr.nil n0
  obtain ⟨_, T4, L4, X4, hQ4, st4⟩ := own_virtual X0 hx hZ hown (w138 hw) (w75 hw) (nfS hZ (w77 hw)) (w77 hw) (w76 hw) (w6 hw) (w78 hw) (by decide) (r13_length l Z a0 hw [] o1 o_1 i_2 k_o_1 i_3 h0 n0 Z0 F_o1_value V_o_1 E_o1 sCS F_o1_coder O0 hp0) e0 E_o1 (W := 0) (by decide) (g := (mkF m 10 #[vr o0, vr o1, .unset] [(.ref o1)])) rfl hml.symm (argsL := []) (rest := []) (lenOf pd_10 rfl) rfl rfl (own_wr rfl rfl) (hb hby d251)
  obtain ⟨rfl, N4q, e4⟩ := hQ4
  have N4 := Fr.app N0 N4q
  obtain ⟨T5, X5, e5, st5⟩ := getF X4 hx hZ hown (host := "") (Or.inl (w139 hw)) Via.refl e4 F_o0_count (g := (mkF m 16 #[vr o0, vr o1, vi 1] [(.ref o0), (.ref o0)])) rfl rfl (hb hby d255)
  obtain ⟨_, T8, L8, X8, hQ8, st8⟩ := own_private X5 hx hZ hown (w141 hw) (w142 hw) (w144 hw) rfl (w143 hw) (w120 hw) (w145 hw) (by decide) (r31_ensureCapacityInternal l Z a0 hw [] o0 o_6 i_7 k_o_6 h0 n0 Z0 F_o0_value V_o_6 F_o0_coder) e5 E_o0 (W := 0) (by decide) (g := (mkF m 21 #[vr o0, vr o1, vi 1] [(.int 2), (.ref o0)])) rfl hml.symm (argsL := [(.int 2)]) (rest := []) (lenOf pd_16 rfl) rfl rfl (own_wr rfl rfl) (hb hby d258)
  obtain ⟨rfl, N8q, e8⟩ := hQ8
  have N8 := Fr.app N4 N8q
  obtain ⟨T9, X9, e9, st9⟩ := getF X8 hx hZ hown (host := "") (Or.inl (w139 hw)) Via.refl e8 F_o0_count (g := (mkF m 26 #[vr o0, vr o1, vi 1] [(.ref o0), (.ref o0)])) rfl rfl (hb hby d273)
  obtain ⟨_, T10, L10, X10, hQ10, st10⟩ := own_private X9 hx hZ hown (w146 hw) (w147 hw) (w144 hw) rfl (w148 hw) (w120 hw) (w150 hw) (by decide) (r32_putStringAt l Z a0 hw [] o0 o1 i_3 o_6 o_1 i_2 k_o_1 i_7 k_o_6 h0 n0 Z0 E_o0 sCS F_o0_coder E_o1 F_o1_coder O0 hp0 F_o0_value F_o1_value V_o_1 V_o_6 g_o_6) e9 E_o0 (W := 0) (by decide) (g := (mkF m 30 #[vr o0, vr o1, vi 1] [(.ref o1), (.int 1), (.ref o0)])) rfl hml.symm (argsL := [(.int 1), (.ref o1)]) (rest := []) (lenOf pd_19 rfl) rfl rfl (own_wr rfl rfl) (hb hby d275)
  obtain ⟨rfl, N10q, K10, Q10_0⟩ := hQ10
  have N10 := Fr.app N8 N10q
  have f11 := (kFld K10 F_o0_count (nwB 16 rfl ne_o0_o_6))
  obtain ⟨T12, X12, e12, st12⟩ := getF X10 hx hZ hown (host := "") (Or.inl (w139 hw)) Via.refl rfl f11 (g := (mkF m 35 #[vr o0, vr o1, vi 1] [(.ref o0), (.ref o0)])) rfl rfl (hb hby d314)
  have f13 := (kExa K10 E_o0)
  obtain ⟨T14, h14, X14, e14, W14, st14⟩ := putF X12 hx hZ hown (host := "") (Or.inl (w139 hw)) Via.refl e12 f11 f13 (Or.inl (w140 hw)) (w111 hw) (ty := .int) (by decide) rfl rfl (g := (mkF m 40 #[vr o0, vr o1, vi 1] [(.int 2), (.ref o0)])) rfl rfl (hb hby d317)
  have K14 := KL.ofW W14
  have Fw14 : Fd6 Z h14 o0 (.int 2) := Fld.same W14 f11
  have N14 := Fr.snoc X14 N10 g_o0
  have C0 := (KL.refl h0 (WS_r30_append Z o0 o_6)).trans K10 (naO (own_mi 0 rfl) (naO (own_mi 1 rfl) (naO (own_mi 2 rfl) (naO (own_mi 3 rfl) (naO (own_mi 4 rfl) (naO (own_mi 5 rfl) (naO (own_mi 6 rfl) (naO (own_mi 7 rfl) (naO (own_mi 8 rfl) (naO (own_mi 9 rfl) (naO (own_mi 10 rfl) (naO (own_mi 11 rfl) (naO (own_mi 12 rfl) (naO (own_mi 13 rfl) (naO (own_mi 14 rfl) (naO (own_mi 15 rfl) na0))))))))))))))))
  have C1 := C0.trans K14 (naO (own_mi 16 rfl) na0)
  have f15 := (kArv K14 Q10_0 (naN ne_o0_o_6 na0))
  refine ⟨T14, _, some (.ref o0), X14, (fun h => by cases h <;> rfl), ?_, fun fs hr => ?_⟩
  · show Q_r30_append Z o0 o1 o_1 i_2 k_o_1 i_3 o_6 i_7 k_o_6 h0 n0 _ T14.heap _
    rw [e14]
    exact ⟨rfl, N14, C1, f15, Fw14⟩
  · refine t_aloadN 1 X0.here hx (hb hby d248) rfl rfl rfl ?_
    refine t_ifnonnullYes (pc := 1) 9 X0.here hx (hb hby d249) (by decide) (by decide) ?_
    refine t_aloadN 10 X0.here hx (hb hby d250) rfl rfl rfl ?_
    refine st4 _ ?_
    refine t_istoreN (pc' := 14) (L' := #[vr o0, vr o1, vi 1]) X4.here hx (hb hby d252) rfl rfl ?_
    refine t_aloadN 15 X4.here hx (hb hby d253) rfl rfl rfl ?_
    refine t_aloadN 16 X4.here hx (hb hby d254) rfl rfl rfl ?_
    refine st5 _ ?_
    refine t_iloadN 20 X5.here hx (hb hby d256) rfl rfl ?_
    refine t_iadd 21 (r := 2) X5.here hx (hb hby d257) (by decide : ((1 : Int32) + (1 : Int32)) = (2 : Int32)) rfl ?_
    refine st8 _ ?_
    refine t_aloadN 25 X8.here hx (hb hby d271) rfl rfl rfl ?_
    refine t_aloadN 26 X8.here hx (hb hby d272) rfl rfl rfl ?_
    refine st9 _ ?_
    refine t_aloadN 30 X9.here hx (hb hby d274) rfl rfl rfl ?_
    refine st10 _ ?_
    refine t_aloadN 34 X10.here hx (hb hby d312) rfl rfl rfl ?_
    refine t_dup 35 X10.here hx (hb hby d313) rfl rfl ?_
    refine st12 _ ?_
    refine t_iloadN 39 X12.here hx (hb hby d315) rfl rfl ?_
    refine t_iadd 40 (r := 2) X12.here hx (hb hby d316) (by decide : ((1 : Int32) + (1 : Int32)) = (2 : Int32)) rfl ?_
    refine st14 _ ?_
    refine t_aloadN 44 X14.here hx (hb hby d318) rfl rfl rfl ?_
    jvm_step X14.here [X14.here.top, hx, (hb hby d319), X14.method', hret, Value.isRef, FieldType.isReference]
    first | (intro acts; rw [hr _ acts rfl rfl rfl]) | rw [hr _ _ rfl rfl rfl]
    exact Steps.refl _
def WS_r29_append (Z : State) (o0 o_4 : Addr) : List (Addr × Nat) := [(o_4, 0), (o_4, 1), (o_4, 2), (o_4, 3), (o_4, 4), (o_4, 5), (o_4, 6), (o_4, 7), (o_4, 8), (o_4, 9), (o_4, 10), (o_4, 11), (o_4, 12), (o_4, 13), (o_4, 14), (o_4, 15), (o0, (sl6 Z))]
def Q_r29_append (Z : State) (o0 o1 o_1 : Addr) (i_2 : Int32) (k_o_1 : ClassId) (i_3 : Int32) (o_4 : Addr) (i_5 : Int32) (k_o_4 : ClassId) (h0 : Heap) (n0 : Nat) (v : Option Value) (h : Heap) (L : List Loc) : Prop := v = some (.ref o0) ∧ Fr n0 L ∧ KL h0 h (WS_r29_append Z o0 o_4) ∧ Arv Z h o_4 k_o_4 .byte 16 [(.int i_5), (.int i_2), z0, z0, z0, z0, z0, z0, z0, z0, z0, z0, z0, z0, z0, z0] z0 ∧ Fd6 Z h o0 (.int 2)
theorem ef_r29_append (o0 o1 : Addr) (m : MethodId) : entryFrame m #[(.ref o0), (.ref o1)] 2 = mkF m 0 #[.val (.ref o0), .val (.ref o1)] [] := by first | (simp [entryFrame, mkF, argsToLocals, Value.category]; done) | rfl
set_option maxRecDepth 65536 in
set_option maxHeartbeats 40000000 in
theorem r29_append (l : Launch) (Z : State) (a0 : Array Value) (hw : HW Z a0) (ws : List Jvm.Cond) (o0 o1 o_1 : Addr) (i_2 : Int32) (k_o_1 : ClassId) (i_3 : Int32) (o_4 : Addr) (i_5 : Int32) (k_o_4 : ClassId) (h0 : Heap) (n0 : Nat) (Z0 : n0 ≤ h0.size) (E_o0 : Ex2 Z h0 o0) (E_o1 : Ex0 Z h0 o1) (F_o1_value : Fd1 Z h0 o1 (.ref o_1)) (V_o_1 : Arv Z h0 o_1 k_o_1 .byte 1 [(.int i_2)] z0) (sCS : SCS Z i_3) (F_o1_coder : Fd0 Z h0 o1 z0) (F_o0_count : Fd6 Z h0 o0 (.int 1)) (F_o0_value : Fd4 Z h0 o0 (.ref o_4)) (V_o_4 : Arv Z h0 o_4 k_o_4 .byte 16 [(.int i_5), z0, z0, z0, z0, z0, z0, z0, z0, z0, z0, z0, z0, z0, z0, z0] z0) (F_o0_coder : Fd5 Z h0 o0 z0) (O0 : Old Z n0 h0) (hp0 : ¬ (i_3 = (0 : Int32))) (g_o_4 : n0 ≤ o_4) (ne_o0_o_4 : o0 ≠ o_4) (g_o0 : n0 ≤ o0) :
    MF l Z y27_append b23_ 2 (some (.object "java/lang/StringBuilder")) ws ⟨4, 0, 0, 61⟩ #[(.ref o0), (.ref o1)] h0 (Q_r29_append Z o0 o1 o_1 i_2 k_o_1 i_3 o_4 i_5 k_o_4 h0 n0) := by
  refine own_body (plainFor_of_name pn_StringBuilder278) (ef_r29_append o0 o1) (by decide) (by decide) ?_
  intro p e s m below meth c s₁ hx hby hml hown hnm hret hZ hh e0 X0
  have N0 := Fr.nil n0
  obtain ⟨_, T6, L6, X6, hQ6, st6⟩ := own_super X0 hx hZ hown (w133 hw) (w134 hw) (w144 hw) rfl (w135 hw) (by decide) (w120 hw) (w137 hw) (by decide) (r30_append l Z a0 hw [] o0 o1 o_1 i_2 k_o_1 i_3 o_4 i_5 k_o_4 h0 n0 Z0 E_o1 F_o1_value V_o_1 sCS F_o1_coder O0 hp0 F_o0_count E_o0 F_o0_value V_o_4 F_o0_coder g_o_4 ne_o0_o_4 g_o0) e0 E_o0 (W := 0) (by decide) (g := (mkF m 2 #[vr o0, vr o1] [(.ref o1), (.ref o0)])) rfl hml.symm (argsL := [(.ref o1)]) (rest := []) (lenOf pd_20 rfl) rfl rfl (own_wr rfl rfl) (hb hby d247)
  obtain ⟨rfl, N6q, K6, Q6_0, Q6_1⟩ := hQ6
  have N6 := Fr.app N0 N6q
  have C0 := (KL.refl h0 (WS_r29_append Z o0 o_4)).trans K6 (naO (own_mi 0 rfl) (naO (own_mi 1 rfl) (naO (own_mi 2 rfl) (naO (own_mi 3 rfl) (naO (own_mi 4 rfl) (naO (own_mi 5 rfl) (naO (own_mi 6 rfl) (naO (own_mi 7 rfl) (naO (own_mi 8 rfl) (naO (own_mi 9 rfl) (naO (own_mi 10 rfl) (naO (own_mi 11 rfl) (naO (own_mi 12 rfl) (naO (own_mi 13 rfl) (naO (own_mi 14 rfl) (naO (own_mi 15 rfl) (naO (own_mi 16 rfl) na0)))))))))))))))))
  refine ⟨T6, _, some (.ref o0), X6, (fun h => by cases h <;> rfl), ?_, fun fs hr => ?_⟩
  · show Q_r29_append Z o0 o1 o_1 i_2 k_o_1 i_3 o_4 i_5 k_o_4 h0 n0 _ T6.heap _
    exact ⟨rfl, N6, C0, Q6_0, Q6_1⟩
  · refine t_aloadN 1 X0.here hx (hb hby d245) rfl rfl rfl ?_
    refine t_aloadN 2 X0.here hx (hb hby d246) rfl rfl rfl ?_
    refine st6 _ ?_
    refine t_pop 6 X6.here hx (hb hby d320) rfl rfl ?_
    refine t_aloadN 7 X6.here hx (hb hby d321) rfl rfl rfl ?_
    jvm_step X6.here [X6.here.top, hx, (hb hby d322), X6.method', hret, Value.isRef, FieldType.isReference]
    first | (intro acts; rw [hr _ acts rfl rfl rfl]) | rw [hr _ _ rfl rfl rfl]
    exact Steps.refl _
theorem sn_8 {Z : State} {a0 : Array Value} (hw : HW Z a0) : Jvm.RoadKit.slotOf Z "java/lang/AbstractStringBuilder" "value" "[B" ≠ Jvm.RoadKit.slotOf Z "java/lang/AbstractStringBuilder" "count" "I" := slot_ne (C := "java/lang/StringBuilder") (a0 := a0) (Or.inl (w125 hw)) (Or.inl (w140 hw)) (by decide) (t := (.array .byte)) (t' := .int) (by decide) (by decide)
theorem sn_9 {Z : State} {a0 : Array Value} (hw : HW Z a0) : Jvm.RoadKit.slotOf Z "java/lang/AbstractStringBuilder" "coder" "B" ≠ Jvm.RoadKit.slotOf Z "java/lang/AbstractStringBuilder" "count" "I" := slot_ne (C := "java/lang/StringBuilder") (a0 := a0) (Or.inl (w127 hw)) (Or.inl (w140 hw)) (by decide) (t := .byte) (t' := .int) (by decide) (by decide)
theorem d325 : decode b20_ 19 = .ok (.aload_n 0, 1) := by decide +kernel
theorem d326 : decode b20_ 20 = .ok (.getfield 54, 3) := by decide +kernel
theorem d327 : decode b20_ 23 = .ok (.invokevirtual 34, 3) := by decide +kernel
def Q_r36_ensureCapacityInternal (Z : State) (o0 o_1 : Addr) (i_3 i_4 : Int32) (k_o_1 : ClassId) (h0 : Heap) (n0 : Nat) (v : Option Value) (h : Heap) (L : List Loc) : Prop := v = none ∧ Fr n0 L ∧ h = h0
theorem ef_r36_ensureCapacityInternal (o0 : Addr) (m : MethodId) : entryFrame m #[(.ref o0), (.int 3)] 3 = mkF m 0 #[.val (.ref o0), .val (.int 3), .unset] [] := by first | (simp [entryFrame, mkF, argsToLocals, Value.category]; done) | rfl
set_option maxRecDepth 65536 in
set_option maxHeartbeats 40000000 in
theorem r36_ensureCapacityInternal (l : Launch) (Z : State) (a0 : Array Value) (hw : HW Z a0) (ws : List Jvm.Cond) (o0 o_1 : Addr) (i_3 i_4 : Int32) (k_o_1 : ClassId) (h0 : Heap) (n0 : Nat) (Z0 : n0 ≤ h0.size) (F_o0_value : Fd4 Z h0 o0 (.ref o_1)) (V_o_1 : Arv Z h0 o_1 k_o_1 .byte 16 [(.int i_3), (.int i_4), z0, z0, z0, z0, z0, z0, z0, z0, z0, z0, z0, z0, z0, z0] z0) (F_o0_coder : Fd5 Z h0 o0 z0) :
    MF l Z y22_ensureCapacityInternal b25_ 3 none ws ⟨0, 0, 0, 0⟩ #[(.ref o0), (.int 3)] h0 (Q_r36_ensureCapacityInternal Z o0 o_1 i_3 i_4 k_o_1 h0 n0) := by
  refine own_body (plainFor_of_name pn_AbstractStringBuilder101) (ef_r36_ensureCapacityInternal o0) (by decide) (by decide) ?_
  intro p e s m below meth c s₁ hx hby hml hown hnm hret hZ hh e0 X0
  have N0 := Fr.nil n0
  obtain ⟨T2, X2, e2, st2⟩ := getF X0 hx hZ hown (host := "") (Or.inl (w124 hw)) Via.refl e0 F_o0_value (g := (mkF m 1 #[vr o0, vi 3, .unset] [(.ref o0)])) rfl rfl (hb hby d260)
  obtain ⟨T5, X5, e5, st5⟩ := getF X2 hx hZ hown (host := "") (Or.inl (w126 hw)) Via.refl e2 F_o0_coder (g := (mkF m 6 #[vr o0, vi 3, .unset] [(.ref o0), (.int 16)])) rfl rfl (hb hby d263)
  refine ⟨T5, _, none, X5, (fun h => by cases h <;> rfl), ?_, fun fs hr => ?_⟩
  · show Q_r36_ensureCapacityInternal Z o0 o_1 i_3 i_4 k_o_1 h0 n0 _ T5.heap _
    rw [e5]
    exact ⟨rfl, N0, rfl⟩
  · refine t_aloadN 1 X0.here hx (hb hby d259) rfl rfl rfl ?_
    refine st2 _ ?_
    refine own_arlen (pc' := 5) X2 hx hZ e2 V_o_1 (hb hby d261) rfl ?_
    refine t_aloadN 6 X2.here hx (hb hby d262) rfl rfl rfl ?_
    refine st5 _ ?_
    refine t_ishr 10 (r := 16) X5.here hx (hb hby d264) (by decide : ((16 : Int32) >>> ((0 : Int32) &&& 31)) = (16 : Int32)) rfl ?_
    refine t_istoreN (pc' := 11) (L' := #[vr o0, vi 3, vi 16]) X5.here hx (hb hby d265) rfl rfl ?_
    refine t_iloadN 12 X5.here hx (hb hby d266) rfl rfl ?_
    refine t_iloadN 13 X5.here hx (hb hby d267) rfl rfl ?_
    refine t_isub 14 (r := (-13 : Int32)) X5.here hx (hb hby d268) (by decide : ((3 : Int32) - (16 : Int32)) = (-13 : Int32)) rfl ?_
    refine t_ifYes (pc := 14) 38 X5.here hx (hb hby d269) (by decide) (by decide) (by decide) ?_
    exact X5.returnOut hx hret (hb hby d270) hr
def WS_r38_getBytes (Z : State) (o1 : Addr) : List (Addr × Nat) := [(o1, 0), (o1, 1), (o1, 2), (o1, 3), (o1, 4), (o1, 5), (o1, 6), (o1, 7), (o1, 8), (o1, 9), (o1, 10), (o1, 11), (o1, 12), (o1, 13), (o1, 14), (o1, 15)]
def Q_r38_getBytes (Z : State) (o0 o1 : Addr) (i_1 : Int32) (o_3 : Addr) (i_6 : Int32) (k_o_3 : ClassId) (i_7 i_8 : Int32) (k_o1 : ClassId) (h0 : Heap) (n0 : Nat) (v : Option Value) (h : Heap) (L : List Loc) : Prop := v = none ∧ Fr n0 L ∧ KL h0 h (WS_r38_getBytes Z o1) ∧ Arv Z h o1 k_o1 .byte 16 [(.int i_7), (.int i_8), (.int i_6), z0, z0, z0, z0, z0, z0, z0, z0, z0, z0, z0, z0, z0] z0
theorem ef_r38_getBytes (o0 o1 : Addr) (m : MethodId) : entryFrame m #[(.ref o0), (.ref o1), (.int 2), (.int 0)] 4 = mkF m 0 #[.val (.ref o0), .val (.ref o1), .val (.int 2), .val (.int 0)] [] := by first | (simp [entryFrame, mkF, argsToLocals, Value.category]; done) | rfl
set_option maxRecDepth 65536 in
set_option maxHeartbeats 40000000 in
theorem r38_getBytes (l : Launch) (Z : State) (a0 : Array Value) (hw : HW Z a0) (ws : List Jvm.Cond) (o0 o1 : Addr) (i_1 : Int32) (o_3 : Addr) (i_6 : Int32) (k_o_3 : ClassId) (i_7 i_8 : Int32) (k_o1 : ClassId) (h0 : Heap) (n0 : Nat) (Z0 : n0 ≤ h0.size) (E_o0 : Ex0 Z h0 o0) (sCS : SCS Z i_1) (F_o0_coder : Fd0 Z h0 o0 z0) (O0 : Old Z n0 h0) (hp0 : ¬ (i_1 = (0 : Int32))) (F_o0_value : Fd1 Z h0 o0 (.ref o_3)) (V_o_3 : Arv Z h0 o_3 k_o_3 .byte 1 [(.int i_6)] z0) (V_o1 : Arv Z h0 o1 k_o1 .byte 16 [(.int i_7), (.int i_8), z0, z0, z0, z0, z0, z0, z0, z0, z0, z0, z0, z0, z0, z0] z0) (g_o1 : n0 ≤ o1) :
    MF l Z y24_getBytes b28_ 4 none ws ⟨1, 0, 0, 18⟩ #[(.ref o0), (.ref o1), (.int 2), z0] h0 (Q_r38_getBytes Z o0 o1 i_1 o_3 i_6 k_o_3 i_7 i_8 k_o1 h0 n0) := by
  refine own_body (plainFor_of_name pn_String564) (ef_r38_getBytes o0 o1) (by decide) (by decide) ?_
  intro p e s m below meth c s₁ hx hby hml hown hnm hret hZ hh e0 X0
  have N0 := Fr.nil n0
  obtain ⟨_, T2, L2, X2, hQ2, st2⟩ := own_virtual X0 hx hZ hown (w79 hw) (w80 hw) (nfS hZ (w82 hw)) (w82 hw) (w81 hw) (w6 hw) (w83 hw) (by decide) (r14_coder l Z a0 hw [] o0 i_1 h0 n0 Z0 sCS O0 hp0 F_o0_coder) e0 E_o0 (W := 0) (by decide) (g := (mkF m 1 #[vr o0, vr o1, vi 2, vi 0] [(.ref o0)])) rfl hml.symm (argsL := []) (rest := []) (lenOf pd_9 rfl) rfl rfl (own_wr rfl rfl) (hb hby d295)
  obtain ⟨rfl, N2q, e2⟩ := hQ2
  have N2 := Fr.app N0 N2q
  obtain ⟨T4, X4, e4, st4⟩ := getF X2 hx hZ hown (host := "") (Or.inl (w32 hw)) Via.refl e2 F_o0_value (g := (mkF m 9 #[vr o0, vr o1, vi 2, vi 0] [(.ref o0)])) rfl rfl (hb hby d299)
  obtain ⟨T5, X5, e5, st5⟩ := getF X4 hx hZ hown (host := "") (Or.inl (w32 hw)) Via.refl e4 F_o0_value (g := (mkF m 18 #[vr o0, vr o1, vi 2, vi 0] [(.ref o0), (.int 2), (.ref o1), z0, (.ref o_3)])) rfl rfl (hb hby d306)
  obtain ⟨T9, h9, L9, X9, e9, N9, Kp9, V9, st9⟩ := cpA X5 hx hZ hown (w162 hw) (w165 hw) (w163 hw) (w164 hw) e5 (us := [(.int i_6)]) V_o_3 V_o1 (Or.inl ⟨rfl, rfl⟩) (by decide) (by decide) (by decide) (by decide) (by decide) rfl (by first | decide | exact Nat.le_of_ble_eq_true rfl) N2 g_o1 (g := (mkF m 22 #[vr o0, vr o1, vi 2, vi 0] [(.int 1), (.int 2), (.ref o1), z0, (.ref o_3)])) rfl hml.symm rfl (hb hby d308) (by decide) (W := 0) (own_wr rfl rfl) (by decide)
  have K9 : KL h0 h9 [(o1, 0), (o1, 1), (o1, 2), (o1, 3), (o1, 4), (o1, 5), (o1, 6), (o1, 7), (o1, 8), (o1, 9), (o1, 10), (o1, 11), (o1, 12), (o1, 13), (o1, 14), (o1, 15)] := own_kcp Kp9 V_o1 (n := 16) rfl ⟨_, rfl⟩
  replace V9 : Arv Z h9 o1 k_o1 .byte 16 [(.int i_7), (.int i_8), (.int i_6), z0, z0, z0, z0, z0, z0, z0, z0, z0, z0, z0, z0, z0] z0 := V9
  have C0 := (KL.refl h0 (WS_r38_getBytes Z o1)).trans K9 (naO (own_mi 0 rfl) (naO (own_mi 1 rfl) (naO (own_mi 2 rfl) (naO (own_mi 3 rfl) (naO (own_mi 4 rfl) (naO (own_mi 5 rfl) (naO (own_mi 6 rfl) (naO (own_mi 7 rfl) (naO (own_mi 8 rfl) (naO (own_mi 9 rfl) (naO (own_mi 10 rfl) (naO (own_mi 11 rfl) (naO (own_mi 12 rfl) (naO (own_mi 13 rfl) (naO (own_mi 14 rfl) (naO (own_mi 15 rfl) na0))))))))))))))))
  refine ⟨T9, _, none, X9, (fun h => by cases h <;> rfl), ?_, fun fs hr => ?_⟩
  · show Q_r38_getBytes Z o0 o1 i_1 o_3 i_6 k_o_3 i_7 i_8 k_o1 h0 n0 _ T9.heap _
    rw [e9]
    exact ⟨rfl, N9, C0, V9⟩
  · refine t_aloadN 1 X0.here hx (hb hby d294) rfl rfl rfl ?_
    refine st2 _ ?_
    refine t_iloadN 5 X2.here hx (hb hby d296) rfl rfl ?_
    refine t_icmpNo 8 X2.here hx (hb hby d297) (by decide) rfl ?_
    refine t_aloadN 9 X2.here hx (hb hby d298) rfl rfl rfl ?_
    refine st4 _ ?_
    refine t_iconst 13 (r := 0) X4.here hx (hb hby d300) (by decide) rfl ?_
    refine t_aloadN 14 X4.here hx (hb hby d301) rfl rfl rfl ?_
    refine t_iloadN 15 X4.here hx (hb hby d302) rfl rfl ?_
    refine t_iloadN 16 X4.here hx (hb hby d303) rfl rfl ?_
    refine t_ishl 17 (r := 2) X4.here hx (hb hby d304) (by decide : ((2 : Int32) <<< ((0 : Int32) &&& 31)) = (2 : Int32)) rfl ?_
    refine t_aloadN 18 X4.here hx (hb hby d305) rfl rfl rfl ?_
    refine st5 _ ?_
    refine own_arlen (pc' := 22) X5 hx hZ e5 V_o_3 (hb hby d307) rfl ?_
    refine st9 _ ?_
    refine t_goto (pc := 25) 43 X9.here hx (hb hby d309) (by decide) (by decide) ?_
    exact X9.returnOut hx hret (hb hby d310) hr
def WS_r37_putStringAt (Z : State) (o_3 : Addr) : List (Addr × Nat) := [(o_3, 0), (o_3, 1), (o_3, 2), (o_3, 3), (o_3, 4), (o_3, 5), (o_3, 6), (o_3, 7), (o_3, 8), (o_3, 9), (o_3, 10), (o_3, 11), (o_3, 12), (o_3, 13), (o_3, 14), (o_3, 15)]
def Q_r37_putStringAt (Z : State) (o0 o2 : Addr) (i_1 : Int32) (o_3 o_6 : Addr) (i_7 : Int32) (k_o_6 : ClassId) (i_8 i_9 : Int32) (k_o_3 : ClassId) (h0 : Heap) (n0 : Nat) (v : Option Value) (h : Heap) (L : List Loc) : Prop := v = none ∧ Fr n0 L ∧ KL h0 h (WS_r37_putStringAt Z o_3) ∧ Arv Z h o_3 k_o_3 .byte 16 [(.int i_8), (.int i_9), (.int i_7), z0, z0, z0, z0, z0, z0, z0, z0, z0, z0, z0, z0, z0] z0
theorem ef_r37_putStringAt (o0 o2 : Addr) (m : MethodId) : entryFrame m #[(.ref o0), (.int 2), (.ref o2)] 3 = mkF m 0 #[.val (.ref o0), .val (.int 2), .val (.ref o2)] [] := by first | (simp [entryFrame, mkF, argsToLocals, Value.category]; done) | rfl
set_option maxRecDepth 65536 in
set_option maxHeartbeats 40000000 in
theorem r37_putStringAt (l : Launch) (Z : State) (a0 : Array Value) (hw : HW Z a0) (ws : List Jvm.Cond) (o0 o2 : Addr) (i_1 : Int32) (o_3 o_6 : Addr) (i_7 : Int32) (k_o_6 : ClassId) (i_8 i_9 : Int32) (k_o_3 : ClassId) (h0 : Heap) (n0 : Nat) (Z0 : n0 ≤ h0.size) (E_o0 : Ex2 Z h0 o0) (sCS : SCS Z i_1) (F_o0_coder : Fd5 Z h0 o0 z0) (E_o2 : Ex0 Z h0 o2) (F_o2_coder : Fd0 Z h0 o2 z0) (O0 : Old Z n0 h0) (hp0 : ¬ (i_1 = (0 : Int32))) (F_o0_value : Fd4 Z h0 o0 (.ref o_3)) (F_o2_value : Fd1 Z h0 o2 (.ref o_6)) (V_o_6 : Arv Z h0 o_6 k_o_6 .byte 1 [(.int i_7)] z0) (V_o_3 : Arv Z h0 o_3 k_o_3 .byte 16 [(.int i_8), (.int i_9), z0, z0, z0, z0, z0, z0, z0, z0, z0, z0, z0, z0, z0, z0] z0) (g_o_3 : n0 ≤ o_3) :
    MF l Z y25_putStringAt b26_ 3 none ws ⟨2, 0, 0, 33⟩ #[(.ref o0), (.int 2), (.ref o2)] h0 (Q_r37_putStringAt Z o0 o2 i_1 o_3 o_6 i_7 k_o_6 i_8 i_9 k_o_3 h0 n0) := by
  refine own_body (plainFor_of_name pn_AbstractStringBuilder101) (ef_r37_putStringAt o0 o2) (by decide) (by decide) ?_
  intro p e s m below meth c s₁ hx hby hml hown hnm hret hZ hh e0 X0
  have N0 := Fr.nil n0
  obtain ⟨_, T2, L2, X2, hQ2, st2⟩ := own_private X0 hx hZ hown (w151 hw) (w152 hw) (w144 hw) rfl (w153 hw) (w120 hw) (w155 hw) (by decide) (r27_inflateIfNeededFor l Z a0 hw [] o0 o2 i_1 h0 n0 Z0 sCS O0 hp0 F_o0_coder E_o2 F_o2_coder) e0 E_o0 (W := 0) (by decide) (g := (mkF m 2 #[vr o0, vi 2, vr o2] [(.ref o2), (.ref o0)])) rfl hml.symm (argsL := [(.ref o2)]) (rest := []) (lenOf pd_17 rfl) rfl rfl (own_wr rfl rfl) (hb hby d278)
  obtain ⟨rfl, N2q, e2⟩ := hQ2
  have N2 := Fr.app N0 N2q
  obtain ⟨T4, X4, e4, st4⟩ := getF X2 hx hZ hown (host := "") (Or.inl (w124 hw)) Via.refl e2 F_o0_value (g := (mkF m 7 #[vr o0, vi 2, vr o2] [(.ref o0), (.ref o2)])) rfl rfl (hb hby d289)
  obtain ⟨T5, X5, e5, st5⟩ := getF X4 hx hZ hown (host := "") (Or.inl (w126 hw)) Via.refl e4 F_o0_coder (g := (mkF m 12 #[vr o0, vi 2, vr o2] [(.ref o0), (.int 2), (.ref o_3), (.ref o2)])) rfl rfl (hb hby d292)
  obtain ⟨_, T10, L10, X10, hQ10, st10⟩ := own_virtual X5 hx hZ hown (w157 hw) (w158 hw) (nfS hZ (w160 hw)) (w160 hw) (w159 hw) (w6 hw) (w161 hw) (by decide) (r38_getBytes l Z a0 hw [] o2 o_3 i_1 o_6 i_7 k_o_6 i_8 i_9 k_o_3 h0 n0 Z0 E_o2 sCS F_o2_coder O0 hp0 F_o2_value V_o_6 V_o_3 g_o_3) e5 E_o2 (W := 0) (by decide) (g := (mkF m 15 #[vr o0, vi 2, vr o2] [z0, (.int 2), (.ref o_3), (.ref o2)])) rfl hml.symm (argsL := [(.ref o_3), (.int 2), z0]) (rest := []) (lenOf pd_18 rfl) rfl rfl (own_wr rfl rfl) (hb hby d293)
  obtain ⟨rfl, N10q, K10, Q10_0⟩ := hQ10
  have N10 := Fr.app N2 N10q
  have C0 := (KL.refl h0 (WS_r37_putStringAt Z o_3)).trans K10 (naO (own_mi 0 rfl) (naO (own_mi 1 rfl) (naO (own_mi 2 rfl) (naO (own_mi 3 rfl) (naO (own_mi 4 rfl) (naO (own_mi 5 rfl) (naO (own_mi 6 rfl) (naO (own_mi 7 rfl) (naO (own_mi 8 rfl) (naO (own_mi 9 rfl) (naO (own_mi 10 rfl) (naO (own_mi 11 rfl) (naO (own_mi 12 rfl) (naO (own_mi 13 rfl) (naO (own_mi 14 rfl) (naO (own_mi 15 rfl) na0))))))))))))))))
  refine ⟨T10, _, none, X10, (fun h => by cases h <;> rfl), ?_, fun fs hr => ?_⟩
  · show Q_r37_putStringAt Z o0 o2 i_1 o_3 o_6 i_7 k_o_6 i_8 i_9 k_o_3 h0 n0 _ T10.heap _
    exact ⟨rfl, N10, C0, Q10_0⟩
  · refine t_aloadN 1 X0.here hx (hb hby d276) rfl rfl rfl ?_
    refine t_aloadN 2 X0.here hx (hb hby d277) rfl rfl rfl ?_
    refine st2 _ ?_
    refine t_aloadN 6 X2.here hx (hb hby d287) rfl rfl rfl ?_
    refine t_aloadN 7 X2.here hx (hb hby d288) rfl rfl rfl ?_
    refine st4 _ ?_
    refine t_iloadN 11 X4.here hx (hb hby d290) rfl rfl ?_
    refine t_aloadN 12 X4.here hx (hb hby d291) rfl rfl rfl ?_
    refine st5 _ ?_
    refine st10 _ ?_
    exact X10.returnOut hx hret (hb hby d311) hr
def WS_r35_append (Z : State) (o0 o_6 : Addr) : List (Addr × Nat) := [(o_6, 0), (o_6, 1), (o_6, 2), (o_6, 3), (o_6, 4), (o_6, 5), (o_6, 6), (o_6, 7), (o_6, 8), (o_6, 9), (o_6, 10), (o_6, 11), (o_6, 12), (o_6, 13), (o_6, 14), (o_6, 15), (o0, (sl6 Z))]
def Q_r35_append (Z : State) (o0 o1 o_1 : Addr) (i_2 : Int32) (k_o_1 : ClassId) (i_3 : Int32) (o_6 : Addr) (i_7 i_8 : Int32) (k_o_6 : ClassId) (h0 : Heap) (n0 : Nat) (v : Option Value) (h : Heap) (L : List Loc) : Prop := v = some (.ref o0) ∧ Fr n0 L ∧ KL h0 h (WS_r35_append Z o0 o_6) ∧ Arv Z h o_6 k_o_6 .byte 16 [(.int i_7), (.int i_8), (.int i_2), z0, z0, z0, z0, z0, z0, z0, z0, z0, z0, z0, z0, z0] z0 ∧ Fd6 Z h o0 (.int 3)
theorem ef_r35_append (o0 o1 : Addr) (m : MethodId) : entryFrame m #[(.ref o0), (.ref o1)] 3 = mkF m 0 #[.val (.ref o0), .val (.ref o1), .unset] [] := by first | (simp [entryFrame, mkF, argsToLocals, Value.category]; done) | rfl
set_option maxRecDepth 65536 in
set_option maxHeartbeats 40000000 in
theorem r35_append (l : Launch) (Z : State) (a0 : Array Value) (hw : HW Z a0) (ws : List Jvm.Cond) (o0 o1 o_1 : Addr) (i_2 : Int32) (k_o_1 : ClassId) (i_3 : Int32) (o_6 : Addr) (i_7 i_8 : Int32) (k_o_6 : ClassId) (h0 : Heap) (n0 : Nat) (Z0 : n0 ≤ h0.size) (E_o1 : Ex0 Z h0 o1) (F_o1_value : Fd1 Z h0 o1 (.ref o_1)) (V_o_1 : Arv Z h0 o_1 k_o_1 .byte 1 [(.int i_2)] z0) (sCS : SCS Z i_3) (F_o1_coder : Fd0 Z h0 o1 z0) (O0 : Old Z n0 h0) (hp0 : ¬ (i_3 = (0 : Int32))) (F_o0_count : Fd6 Z h0 o0 (.int 2)) (E_o0 : Ex2 Z h0 o0) (F_o0_value : Fd4 Z h0 o0 (.ref o_6)) (V_o_6 : Arv Z h0 o_6 k_o_6 .byte 16 [(.int i_7), (.int i_8), z0, z0, z0, z0, z0, z0, z0, z0, z0, z0, z0, z0, z0, z0] z0) (F_o0_coder : Fd5 Z h0 o0 z0) (g_o_6 : n0 ≤ o_6) (ne_o0_o_6 : o0 ≠ o_6) (g_o0 : n0 ≤ o0) :
    MF l Z y26_append b24_ 3 (some (.object "java/lang/AbstractStringBuilder")) ws ⟨3, 0, 0, 47⟩ #[(.ref o0), (.ref o1)] h0 (Q_r35_append Z o0 o1 o_1 i_2 k_o_1 i_3 o_6 i_7 i_8 k_o_6 h0 n0) := by
  refine own_body (plainFor_of_name pn_AbstractStringBuilder101) (ef_r35_append o0 o1) (by decide) (by decide) ?_
  intro p e s m below meth c s₁ hx hby hml hown hnm hret hZ hh e0 X0
  have N0 := Fr.nil n0
  obtain ⟨_, T4, L4, X4, hQ4, st4⟩ := own_virtual X0 hx hZ hown (w138 hw) (w75 hw) (nfS hZ (w77 hw)) (w77 hw) (w76 hw) (w6 hw) (w78 hw) (by decide) (r13_length l Z a0 hw [] o1 o_1 i_2 k_o_1 i_3 h0 n0 Z0 F_o1_value V_o_1 E_o1 sCS F_o1_coder O0 hp0) e0 E_o1 (W := 0) (by decide) (g := (mkF m 10 #[vr o0, vr o1, .unset] [(.ref o1)])) rfl hml.symm (argsL := []) (rest := []) (lenOf pd_10 rfl) rfl rfl (own_wr rfl rfl) (hb hby d251)
  obtain ⟨rfl, N4q, e4⟩ := hQ4
  have N4 := Fr.app N0 N4q
  obtain ⟨T5, X5, e5, st5⟩ := getF X4 hx hZ hown (host := "") (Or.inl (w139 hw)) Via.refl e4 F_o0_count (g := (mkF m 16 #[vr o0, vr o1, vi 1] [(.ref o0), (.ref o0)])) rfl rfl (hb hby d255)
  obtain ⟨_, T9, L9, X9, hQ9, st9⟩ := own_private X5 hx hZ hown (w141 hw) (w142 hw) (w144 hw) rfl (w143 hw) (w120 hw) (w145 hw) (by decide) (r36_ensureCapacityInternal l Z a0 hw [] o0 o_6 i_7 i_8 k_o_6 h0 n0 Z0 F_o0_value V_o_6 F_o0_coder) e5 E_o0 (W := 0) (by decide) (g := (mkF m 21 #[vr o0, vr o1, vi 1] [(.int 3), (.ref o0)])) rfl hml.symm (argsL := [(.int 3)]) (rest := []) (lenOf pd_16 rfl) rfl rfl (own_wr rfl rfl) (hb hby d258)
  obtain ⟨rfl, N9q, e9⟩ := hQ9
  have N9 := Fr.app N4 N9q
  obtain ⟨T10, X10, e10, st10⟩ := getF X9 hx hZ hown (host := "") (Or.inl (w139 hw)) Via.refl e9 F_o0_count (g := (mkF m 26 #[vr o0, vr o1, vi 1] [(.ref o0), (.ref o0)])) rfl rfl (hb hby d273)
  obtain ⟨_, T11, L11, X11, hQ11, st11⟩ := own_private X10 hx hZ hown (w146 hw) (w147 hw) (w144 hw) rfl (w148 hw) (w120 hw) (w150 hw) (by decide) (r37_putStringAt l Z a0 hw [] o0 o1 i_3 o_6 o_1 i_2 k_o_1 i_7 i_8 k_o_6 h0 n0 Z0 E_o0 sCS F_o0_coder E_o1 F_o1_coder O0 hp0 F_o0_value F_o1_value V_o_1 V_o_6 g_o_6) e10 E_o0 (W := 0) (by decide) (g := (mkF m 30 #[vr o0, vr o1, vi 1] [(.ref o1), (.int 2), (.ref o0)])) rfl hml.symm (argsL := [(.int 2), (.ref o1)]) (rest := []) (lenOf pd_19 rfl) rfl rfl (own_wr rfl rfl) (hb hby d275)
  obtain ⟨rfl, N11q, K11, Q11_0⟩ := hQ11
  have N11 := Fr.app N9 N11q
  have f12 := (kFld K11 F_o0_count (nwB 16 rfl ne_o0_o_6))
  obtain ⟨T13, X13, e13, st13⟩ := getF X11 hx hZ hown (host := "") (Or.inl (w139 hw)) Via.refl rfl f12 (g := (mkF m 35 #[vr o0, vr o1, vi 1] [(.ref o0), (.ref o0)])) rfl rfl (hb hby d314)
  have f14 := (kExa K11 E_o0)
  obtain ⟨T15, h15, X15, e15, W15, st15⟩ := putF X13 hx hZ hown (host := "") (Or.inl (w139 hw)) Via.refl e13 f12 f14 (Or.inl (w140 hw)) (w111 hw) (ty := .int) (by decide) rfl rfl (g := (mkF m 40 #[vr o0, vr o1, vi 1] [(.int 3), (.ref o0)])) rfl rfl (hb hby d317)
  have K15 := KL.ofW W15
  have Fw15 : Fd6 Z h15 o0 (.int 3) := Fld.same W15 f12
  have N15 := Fr.snoc X15 N11 g_o0
  have C0 := (KL.refl h0 (WS_r35_append Z o0 o_6)).trans K11 (naO (own_mi 0 rfl) (naO (own_mi 1 rfl) (naO (own_mi 2 rfl) (naO (own_mi 3 rfl) (naO (own_mi 4 rfl) (naO (own_mi 5 rfl) (naO (own_mi 6 rfl) (naO (own_mi 7 rfl) (naO (own_mi 8 rfl) (naO (own_mi 9 rfl) (naO (own_mi 10 rfl) (naO (own_mi 11 rfl) (naO (own_mi 12 rfl) (naO (own_mi 13 rfl) (naO (own_mi 14 rfl) (naO (own_mi 15 rfl) na0))))))))))))))))
  have C1 := C0.trans K15 (naO (own_mi 16 rfl) na0)
  have f16 := (kArv K15 Q11_0 (naN ne_o0_o_6 na0))
  refine ⟨T15, _, some (.ref o0), X15, (fun h => by cases h <;> rfl), ?_, fun fs hr => ?_⟩
  · show Q_r35_append Z o0 o1 o_1 i_2 k_o_1 i_3 o_6 i_7 i_8 k_o_6 h0 n0 _ T15.heap _
    rw [e15]
    exact ⟨rfl, N15, C1, f16, Fw15⟩
  · refine t_aloadN 1 X0.here hx (hb hby d248) rfl rfl rfl ?_
    refine t_ifnonnullYes (pc := 1) 9 X0.here hx (hb hby d249) (by decide) (by decide) ?_
    refine t_aloadN 10 X0.here hx (hb hby d250) rfl rfl rfl ?_
    refine st4 _ ?_
    refine t_istoreN (pc' := 14) (L' := #[vr o0, vr o1, vi 1]) X4.here hx (hb hby d252) rfl rfl ?_
    refine t_aloadN 15 X4.here hx (hb hby d253) rfl rfl rfl ?_
    refine t_aloadN 16 X4.here hx (hb hby d254) rfl rfl rfl ?_
    refine st5 _ ?_
    refine t_iloadN 20 X5.here hx (hb hby d256) rfl rfl ?_
    refine t_iadd 21 (r := 3) X5.here hx (hb hby d257) (by decide : ((2 : Int32) + (1 : Int32)) = (3 : Int32)) rfl ?_
    refine st9 _ ?_
    refine t_aloadN 25 X9.here hx (hb hby d271) rfl rfl rfl ?_
    refine t_aloadN 26 X9.here hx (hb hby d272) rfl rfl rfl ?_
    refine st10 _ ?_
    refine t_aloadN 30 X10.here hx (hb hby d274) rfl rfl rfl ?_
    refine st11 _ ?_
    refine t_aloadN 34 X11.here hx (hb hby d312) rfl rfl rfl ?_
    refine t_dup 35 X11.here hx (hb hby d313) rfl rfl ?_
    refine st13 _ ?_
    refine t_iloadN 39 X13.here hx (hb hby d315) rfl rfl ?_
    refine t_iadd 40 (r := 3) X13.here hx (hb hby d316) (by decide : ((2 : Int32) + (1 : Int32)) = (3 : Int32)) rfl ?_
    refine st15 _ ?_
    refine t_aloadN 44 X15.here hx (hb hby d318) rfl rfl rfl ?_
    jvm_step X15.here [X15.here.top, hx, (hb hby d319), X15.method', hret, Value.isRef, FieldType.isReference]
    first | (intro acts; rw [hr _ acts rfl rfl rfl]) | rw [hr _ _ rfl rfl rfl]
    exact Steps.refl _
def WS_r34_append (Z : State) (o0 o_4 : Addr) : List (Addr × Nat) := [(o_4, 0), (o_4, 1), (o_4, 2), (o_4, 3), (o_4, 4), (o_4, 5), (o_4, 6), (o_4, 7), (o_4, 8), (o_4, 9), (o_4, 10), (o_4, 11), (o_4, 12), (o_4, 13), (o_4, 14), (o_4, 15), (o0, (sl6 Z))]
def Q_r34_append (Z : State) (o0 o1 o_1 : Addr) (i_2 : Int32) (k_o_1 : ClassId) (i_3 : Int32) (o_4 : Addr) (i_5 i_6 : Int32) (k_o_4 : ClassId) (h0 : Heap) (n0 : Nat) (v : Option Value) (h : Heap) (L : List Loc) : Prop := v = some (.ref o0) ∧ Fr n0 L ∧ KL h0 h (WS_r34_append Z o0 o_4) ∧ Arv Z h o_4 k_o_4 .byte 16 [(.int i_5), (.int i_6), (.int i_2), z0, z0, z0, z0, z0, z0, z0, z0, z0, z0, z0, z0, z0] z0 ∧ Fd6 Z h o0 (.int 3)
theorem ef_r34_append (o0 o1 : Addr) (m : MethodId) : entryFrame m #[(.ref o0), (.ref o1)] 2 = mkF m 0 #[.val (.ref o0), .val (.ref o1)] [] := by first | (simp [entryFrame, mkF, argsToLocals, Value.category]; done) | rfl
set_option maxRecDepth 65536 in
set_option maxHeartbeats 40000000 in
theorem r34_append (l : Launch) (Z : State) (a0 : Array Value) (hw : HW Z a0) (ws : List Jvm.Cond) (o0 o1 o_1 : Addr) (i_2 : Int32) (k_o_1 : ClassId) (i_3 : Int32) (o_4 : Addr) (i_5 i_6 : Int32) (k_o_4 : ClassId) (h0 : Heap) (n0 : Nat) (Z0 : n0 ≤ h0.size) (E_o0 : Ex2 Z h0 o0) (E_o1 : Ex0 Z h0 o1) (F_o1_value : Fd1 Z h0 o1 (.ref o_1)) (V_o_1 : Arv Z h0 o_1 k_o_1 .byte 1 [(.int i_2)] z0) (sCS : SCS Z i_3) (F_o1_coder : Fd0 Z h0 o1 z0) (F_o0_count : Fd6 Z h0 o0 (.int 2)) (F_o0_value : Fd4 Z h0 o0 (.ref o_4)) (V_o_4 : Arv Z h0 o_4 k_o_4 .byte 16 [(.int i_5), (.int i_6), z0, z0, z0, z0, z0, z0, z0, z0, z0, z0, z0, z0, z0, z0] z0) (F_o0_coder : Fd5 Z h0 o0 z0) (O0 : Old Z n0 h0) (hp0 : ¬ (i_3 = (0 : Int32))) (g_o_4 : n0 ≤ o_4) (ne_o0_o_4 : o0 ≠ o_4) (g_o0 : n0 ≤ o0) :
    MF l Z y27_append b23_ 2 (some (.object "java/lang/StringBuilder")) ws ⟨4, 0, 0, 61⟩ #[(.ref o0), (.ref o1)] h0 (Q_r34_append Z o0 o1 o_1 i_2 k_o_1 i_3 o_4 i_5 i_6 k_o_4 h0 n0) := by
  refine own_body (plainFor_of_name pn_StringBuilder278) (ef_r34_append o0 o1) (by decide) (by decide) ?_
  intro p e s m below meth c s₁ hx hby hml hown hnm hret hZ hh e0 X0
  have N0 := Fr.nil n0
  obtain ⟨_, T7, L7, X7, hQ7, st7⟩ := own_super X0 hx hZ hown (w133 hw) (w134 hw) (w144 hw) rfl (w135 hw) (by decide) (w120 hw) (w137 hw) (by decide) (r35_append l Z a0 hw [] o0 o1 o_1 i_2 k_o_1 i_3 o_4 i_5 i_6 k_o_4 h0 n0 Z0 E_o1 F_o1_value V_o_1 sCS F_o1_coder O0 hp0 F_o0_count E_o0 F_o0_value V_o_4 F_o0_coder g_o_4 ne_o0_o_4 g_o0) e0 E_o0 (W := 0) (by decide) (g := (mkF m 2 #[vr o0, vr o1] [(.ref o1), (.ref o0)])) rfl hml.symm (argsL := [(.ref o1)]) (rest := []) (lenOf pd_20 rfl) rfl rfl (own_wr rfl rfl) (hb hby d247)
  obtain ⟨rfl, N7q, K7, Q7_0, Q7_1⟩ := hQ7
  have N7 := Fr.app N0 N7q
  have C0 := (KL.refl h0 (WS_r34_append Z o0 o_4)).trans K7 (naO (own_mi 0 rfl) (naO (own_mi 1 rfl) (naO (own_mi 2 rfl) (naO (own_mi 3 rfl) (naO (own_mi 4 rfl) (naO (own_mi 5 rfl) (naO (own_mi 6 rfl) (naO (own_mi 7 rfl) (naO (own_mi 8 rfl) (naO (own_mi 9 rfl) (naO (own_mi 10 rfl) (naO (own_mi 11 rfl) (naO (own_mi 12 rfl) (naO (own_mi 13 rfl) (naO (own_mi 14 rfl) (naO (own_mi 15 rfl) (naO (own_mi 16 rfl) na0)))))))))))))))))
  refine ⟨T7, _, some (.ref o0), X7, (fun h => by cases h <;> rfl), ?_, fun fs hr => ?_⟩
  · show Q_r34_append Z o0 o1 o_1 i_2 k_o_1 i_3 o_4 i_5 i_6 k_o_4 h0 n0 _ T7.heap _
    exact ⟨rfl, N7, C0, Q7_0, Q7_1⟩
  · refine t_aloadN 1 X0.here hx (hb hby d245) rfl rfl rfl ?_
    refine t_aloadN 2 X0.here hx (hb hby d246) rfl rfl rfl ?_
    refine st7 _ ?_
    refine t_pop 6 X7.here hx (hb hby d320) rfl rfl ?_
    refine t_aloadN 7 X7.here hx (hb hby d321) rfl rfl rfl ?_
    jvm_step X7.here [X7.here.top, hx, (hb hby d322), X7.method', hret, Value.isRef, FieldType.isReference]
    first | (intro acts; rw [hr _ acts rfl rfl rfl]) | rw [hr _ _ rfl rfl rfl]
    exact Steps.refl _
theorem d328 : decode b20_ 26 = .ok (.invokevirtual 40, 3) := by decide +kernel
def w167 (hw : HW Z a0) := ow 167 hw rfl
def w170 (hw : HW Z a0) := ow 170 hw rfl
abbrev b29_ := jdk_67_method_42_code
theorem d329 : decode b29_ 0 = .ok (.new 18, 3) := by decide +kernel
def w172 (hw : HW Z a0) := ow 172 hw rfl
theorem d330 : decode b29_ 3 = .ok (.dup, 1) := by decide +kernel
theorem d331 : decode b29_ 4 = .ok (.aload_n 0, 1) := by decide +kernel
theorem d332 : decode b29_ 5 = .ok (.invokespecial 137, 3) := by decide +kernel
def w173 (hw : HW Z a0) := ow 173 hw rfl
abbrev b30_ := jdk_42_method_53_code
theorem d333 : decode b30_ 0 = .ok (.aload_n 0, 1) := by decide +kernel
theorem d334 : decode b30_ 1 = .ok (.aload_n 1, 1) := by decide +kernel
theorem d335 : decode b30_ 2 = .ok (.aconst_null, 1) := by decide +kernel
theorem d336 : decode b30_ 3 = .ok (.invokespecial 489, 3) := by decide +kernel
def w176 (hw : HW Z a0) := ow 176 hw rfl
abbrev b31_ := jdk_42_method_150_code
theorem d337 : decode b31_ 0 = .ok (.aload_n 0, 1) := by decide +kernel
theorem d338 : decode b31_ 1 = .ok (.invokespecial 1, 3) := by decide +kernel
theorem d339 : decode b31_ 4 = .ok (.aload_n 1, 1) := by decide +kernel
theorem d340 : decode b31_ 5 = .ok (.invokevirtual 552, 3) := by decide +kernel
def w179 (hw : HW Z a0) := ow 179 hw rfl
def w182 (hw : HW Z a0) := ow 182 hw rfl
abbrev b32_ := jdk_68_method_64_code
theorem d341 : decode b32_ 0 = .ok (.aload_n 0, 1) := by decide +kernel
theorem d342 : decode b32_ 1 = .ok (.getfield 15, 3) := by decide +kernel
theorem d343 : decode b32_ 4 = .ok (.areturn, 1) := by decide +kernel
abbrev y28_getValue : MethodName := ⟨"java/lang/AbstractStringBuilder", "getValue", "()[B"⟩
def Q_r42_getValue (Z : State) (o0 o_1 : Addr) (h0 : Heap) (n0 : Nat) (v : Option Value) (h : Heap) (L : List Loc) : Prop := v = some (.ref o_1) ∧ Fr n0 L ∧ h = h0
theorem ef_r42_getValue (o0 : Addr) (m : MethodId) : entryFrame m #[(.ref o0)] 1 = mkF m 0 #[.val (.ref o0)] [] := by first | (simp [entryFrame, mkF, argsToLocals, Value.category]; done) | rfl
set_option maxRecDepth 65536 in
set_option maxHeartbeats 40000000 in
theorem r42_getValue (l : Launch) (Z : State) (a0 : Array Value) (hw : HW Z a0) (ws : List Jvm.Cond) (o0 o_1 : Addr) (h0 : Heap) (n0 : Nat) (Z0 : n0 ≤ h0.size) (F_o0_value : Fd4 Z h0 o0 (.ref o_1)) :
    MF l Z y28_getValue b32_ 1 (some (.array .byte)) ws ⟨0, 0, 0, 0⟩ #[(.ref o0)] h0 (Q_r42_getValue Z o0 o_1 h0 n0) := by
  refine own_body (plainFor_of_name pn_AbstractStringBuilder101) (ef_r42_getValue o0) (by decide) (by decide) ?_
  intro p e s m below meth c s₁ hx hby hml hown hnm hret hZ hh e0 X0
  have N0 := Fr.nil n0
  obtain ⟨T2, X2, e2, st2⟩ := getF X0 hx hZ hown (host := "") (Or.inl (w124 hw)) Via.refl e0 F_o0_value (g := (mkF m 1 #[vr o0] [(.ref o0)])) rfl rfl (hb hby d342)
  refine ⟨T2, _, some (.ref o_1), X2, (fun h => by cases h <;> rfl), ?_, fun fs hr => ?_⟩
  · show Q_r42_getValue Z o0 o_1 h0 n0 _ T2.heap _
    rw [e2]
    exact ⟨rfl, N0, rfl⟩
  · refine t_aloadN 1 X0.here hx (hb hby d341) rfl rfl rfl ?_
    refine st2 _ ?_
    jvm_step X2.here [X2.here.top, hx, (hb hby d343), X2.method', hret, Value.isRef, FieldType.isReference]
    first | (intro acts; rw [hr _ acts rfl rfl rfl]) | rw [hr _ _ rfl rfl rfl]
    exact Steps.refl _
def w183 (hw : HW Z a0) := ow 183 hw rfl
theorem pd_22 : parseMethodDescriptor "()[B" = some ⟨[], some (.array .byte)⟩ := by decide +kernel
def w180 (hw : HW Z a0) := ow 180 hw rfl
def w181 (hw : HW Z a0) := ow 181 hw rfl
theorem d344 : decode b31_ 8 = .ok (.astore_n 3, 1) := by decide +kernel
theorem d345 : decode b31_ 9 = .ok (.aload_n 1, 1) := by decide +kernel
theorem d346 : decode b31_ 10 = .ok (.invokevirtual 549, 3) := by decide +kernel
def w184 (hw : HW Z a0) := ow 184 hw rfl
def w187 (hw : HW Z a0) := ow 187 hw rfl
abbrev b33_ := jdk_67_method_93_code
theorem d347 : decode b33_ 0 = .ok (.aload_n 0, 1) := by decide +kernel
theorem d348 : decode b33_ 1 = .ok (.invokespecial 343, 3) := by decide +kernel
def w190 (hw : HW Z a0) := ow 190 hw rfl
abbrev b34_ := jdk_68_method_6_code
theorem d349 : decode b34_ 0 = .ok (.aload_n 0, 1) := by decide +kernel
theorem d350 : decode b34_ 1 = .ok (.getfield 79, 3) := by decide +kernel
theorem d351 : decode b34_ 4 = .ok (.ireturn, 1) := by decide +kernel
abbrev y29_length : MethodName := ⟨"java/lang/AbstractStringBuilder", "length", "()I"⟩
def Q_r44_length (Z : State) (o0 : Addr) (h0 : Heap) (n0 : Nat) (v : Option Value) (h : Heap) (L : List Loc) : Prop := v = some (.int 3) ∧ Fr n0 L ∧ h = h0
theorem ef_r44_length (o0 : Addr) (m : MethodId) : entryFrame m #[(.ref o0)] 1 = mkF m 0 #[.val (.ref o0)] [] := by first | (simp [entryFrame, mkF, argsToLocals, Value.category]; done) | rfl
set_option maxRecDepth 65536 in
set_option maxHeartbeats 40000000 in
theorem r44_length (l : Launch) (Z : State) (a0 : Array Value) (hw : HW Z a0) (ws : List Jvm.Cond) (o0 : Addr) (h0 : Heap) (n0 : Nat) (Z0 : n0 ≤ h0.size) (F_o0_count : Fd6 Z h0 o0 (.int 3)) :
    MF l Z y29_length b34_ 1 (some .int) ws ⟨0, 0, 0, 0⟩ #[(.ref o0)] h0 (Q_r44_length Z o0 h0 n0) := by
  refine own_body (plainFor_of_name pn_AbstractStringBuilder101) (ef_r44_length o0) (by decide) (by decide) ?_
  intro p e s m below meth c s₁ hx hby hml hown hnm hret hZ hh e0 X0
  have N0 := Fr.nil n0
  obtain ⟨T1, X1, e1, st1⟩ := getF X0 hx hZ hown (host := "") (Or.inl (w139 hw)) Via.refl e0 F_o0_count (g := (mkF m 1 #[vr o0] [(.ref o0)])) rfl rfl (hb hby d350)
  refine ⟨T1, _, some (.int 3), X1, (fun h => by cases h <;> rfl), ?_, fun fs hr => ?_⟩
  · show Q_r44_length Z o0 h0 n0 _ T1.heap _
    rw [e1]
    exact ⟨rfl, N0, rfl⟩
  · refine t_aloadN 1 X0.here hx (hb hby d349) rfl rfl rfl ?_
    refine st1 _ ?_
    exact retI X1 hx hret (hb hby d351) hr
def w191 (hw : HW Z a0) := ow 191 hw rfl
def w186 (hw : HW Z a0) := ow 186 hw rfl
theorem d352 : decode b33_ 4 = .ok (.ireturn, 1) := by decide +kernel
abbrev y30_length : MethodName := ⟨"java/lang/StringBuilder", "length", "()I"⟩
def Q_r43_length (Z : State) (o0 : Addr) (h0 : Heap) (n0 : Nat) (v : Option Value) (h : Heap) (L : List Loc) : Prop := v = some (.int 3) ∧ Fr n0 L ∧ h = h0
theorem ef_r43_length (o0 : Addr) (m : MethodId) : entryFrame m #[(.ref o0)] 1 = mkF m 0 #[.val (.ref o0)] [] := by first | (simp [entryFrame, mkF, argsToLocals, Value.category]; done) | rfl
set_option maxRecDepth 65536 in
set_option maxHeartbeats 40000000 in
theorem r43_length (l : Launch) (Z : State) (a0 : Array Value) (hw : HW Z a0) (ws : List Jvm.Cond) (o0 : Addr) (h0 : Heap) (n0 : Nat) (Z0 : n0 ≤ h0.size) (E_o0 : Ex2 Z h0 o0) (F_o0_count : Fd6 Z h0 o0 (.int 3)) :
    MF l Z y30_length b33_ 1 (some .int) ws ⟨1, 0, 0, 12⟩ #[(.ref o0)] h0 (Q_r43_length Z o0 h0 n0) := by
  refine own_body (plainFor_of_name pn_StringBuilder278) (ef_r43_length o0) (by decide) (by decide) ?_
  intro p e s m below meth c s₁ hx hby hml hown hnm hret hZ hh e0 X0
  have N0 := Fr.nil n0
  obtain ⟨_, T1, L1, X1, hQ1, st1⟩ := own_super X0 hx hZ hown (w190 hw) (w186 hw) (w144 hw) rfl (w135 hw) (by decide) (w120 hw) (w191 hw) (by decide) (r44_length l Z a0 hw [] o0 h0 n0 Z0 F_o0_count) e0 E_o0 (W := 0) (by decide) (g := (mkF m 1 #[vr o0] [(.ref o0)])) rfl hml.symm (argsL := []) (rest := []) (lenOf pd_10 rfl) rfl rfl (own_wr rfl rfl) (hb hby d348)
  obtain ⟨rfl, N1q, e1⟩ := hQ1
  have N1 := Fr.app N0 N1q
  refine ⟨T1, _, some (.int 3), X1, (fun h => by cases h <;> rfl), ?_, fun fs hr => ?_⟩
  · show Q_r43_length Z o0 h0 n0 _ T1.heap _
    rw [e1]
    exact ⟨rfl, N1, rfl⟩
  · refine t_aloadN 1 X0.here hx (hb hby d347) rfl rfl rfl ?_
    refine st1 _ ?_
    exact retI X1 hx hret (hb hby d352) hr
def w189 (hw : HW Z a0) := ow 189 hw rfl
def w185 (hw : HW Z a0) := ow 185 hw rfl
def w188 (hw : HW Z a0) := ow 188 hw rfl
theorem d353 : decode b31_ 13 = .ok (.istore 4, 2) := by decide +kernel
theorem d354 : decode b31_ 15 = .ok (.aload_n 1, 1) := by decide +kernel
theorem d355 : decode b31_ 16 = .ok (.invokevirtual 1047, 3) := by decide +kernel
def w192 (hw : HW Z a0) := ow 192 hw rfl
def w195 (hw : HW Z a0) := ow 195 hw rfl
abbrev b35_ := jdk_68_method_68_code
theorem d356 : decode b35_ 0 = .ok (.getstatic 18, 3) := by decide +kernel
theorem d357 : decode b35_ 3 = .ok (.ifCond .eq 14, 3) := by decide +kernel
theorem d358 : decode b35_ 6 = .ok (.aload_n 0, 1) := by decide +kernel
theorem d359 : decode b35_ 7 = .ok (.getfield 22, 3) := by decide +kernel
theorem d360 : decode b35_ 10 = .ok (.ifCond .ne 7, 3) := by decide +kernel
theorem d361 : decode b35_ 13 = .ok (.iconst 1, 1) := by decide +kernel
theorem d362 : decode b35_ 14 = .ok (.goto 4, 3) := by decide +kernel
theorem d363 : decode b35_ 18 = .ok (.ireturn, 1) := by decide +kernel
abbrev y31_isLatin1 : MethodName := ⟨"java/lang/AbstractStringBuilder", "isLatin1", "()Z"⟩
def Q_r45_isLatin1 (Z : State) (o0 : Addr) (i_1 : Int32) (h0 : Heap) (n0 : Nat) (v : Option Value) (h : Heap) (L : List Loc) : Prop := v = some (.int 1) ∧ Fr n0 L ∧ h = h0
theorem ef_r45_isLatin1 (o0 : Addr) (m : MethodId) : entryFrame m #[(.ref o0)] 1 = mkF m 0 #[.val (.ref o0)] [] := by first | (simp [entryFrame, mkF, argsToLocals, Value.category]; done) | rfl
set_option maxRecDepth 65536 in
set_option maxHeartbeats 40000000 in
theorem r45_isLatin1 (l : Launch) (Z : State) (a0 : Array Value) (hw : HW Z a0) (ws : List Jvm.Cond) (o0 : Addr) (i_1 : Int32) (h0 : Heap) (n0 : Nat) (Z0 : n0 ≤ h0.size) (sCS : SCS Z i_1) (O0 : Old Z n0 h0) (hp0 : ¬ (i_1 = (0 : Int32))) (F_o0_coder : Fd5 Z h0 o0 z0) :
    MF l Z y31_isLatin1 b35_ 1 (some .boolean) ws ⟨0, 0, 0, 0⟩ #[(.ref o0)] h0 (Q_r45_isLatin1 Z o0 i_1 h0 n0) := by
  refine own_body (plainFor_of_name pn_AbstractStringBuilder101) (ef_r45_isLatin1 o0) (by decide) (by decide) ?_
  intro p e s m below meth c s₁ hx hby hml hown hnm hret hZ hh e0 X0
  have N0 := Fr.nil n0
  obtain ⟨T2, X2, e2, st2⟩ := getS2 X0 hx hZ hown (host := "") (Or.inl (w123 hw)) Via.refl e0 (Sta.ext O0.2 sCS) (g := (mkF m 0 #[vr o0] [])) rfl (hb hby d356)
  obtain ⟨T3, X3, e3, st3⟩ := getF X2 hx hZ hown (host := "") (Or.inl (w126 hw)) Via.refl e2 F_o0_coder (g := (mkF m 7 #[vr o0] [(.ref o0)])) rfl rfl (hb hby d359)
  refine ⟨T3, _, some (.int 1), X3, (fun h => by cases h <;> rfl), ?_, fun fs hr => ?_⟩
  · show Q_r45_isLatin1 Z o0 i_1 h0 n0 _ T3.heap _
    rw [e3]
    exact ⟨rfl, N0, rfl⟩
  · refine st2 _ ?_
    refine t_ifNo 6 X2.here hx (hb hby d357) ((if0 _ _).trans (feq hp0).1) rfl ?_
    refine t_aloadN 7 X2.here hx (hb hby d358) rfl rfl rfl ?_
    refine st3 _ ?_
    refine t_ifNo 13 X3.here hx (hb hby d360) (by decide) rfl ?_
    refine t_iconst 14 (r := 1) X3.here hx (hb hby d361) (by decide) rfl ?_
    refine t_goto (pc := 14) 18 X3.here hx (hb hby d362) (by decide) (by decide) ?_
    exact retN X3 hx (t := .boolean) hret (by simp) (hb hby d363) hr
def w196 (hw : HW Z a0) := ow 196 hw rfl
def w193 (hw : HW Z a0) := ow 193 hw rfl
def w194 (hw : HW Z a0) := ow 194 hw rfl
theorem d364 : decode b31_ 19 = .ok (.ifCond .eq 22, 3) := by decide +kernel
theorem d365 : decode b31_ 22 = .ok (.aload_n 0, 1) := by decide +kernel
theorem d366 : decode b31_ 23 = .ok (.iconst 0, 1) := by decide +kernel
theorem d367 : decode b31_ 24 = .ok (.putfield 15, 3) := by decide +kernel
theorem d368 : decode b31_ 27 = .ok (.aload_n 0, 1) := by decide +kernel
theorem d369 : decode b31_ 28 = .ok (.aload_n 3, 1) := by decide +kernel
theorem d370 : decode b31_ 29 = .ok (.iconst 0, 1) := by decide +kernel
theorem d371 : decode b31_ 30 = .ok (.iload 4, 2) := by decide +kernel
theorem d372 : decode b31_ 32 = .ok (.invokestatic 54, 3) := by decide +kernel
def w197 (hw : HW Z a0) := ow 197 hw rfl
abbrev b36_ := jdk_65_method_132_code
theorem d373 : decode b36_ 0 = .ok (.iload_n 1, 1) := by decide +kernel
theorem d374 : decode b36_ 1 = .ok (.ifCond .ne 9, 3) := by decide +kernel
theorem d375 : decode b36_ 4 = .ok (.iload_n 2, 1) := by decide +kernel
theorem d376 : decode b36_ 5 = .ok (.aload_n 0, 1) := by decide +kernel
theorem d377 : decode b36_ 6 = .ok (.arraylength, 1) := by decide +kernel
theorem d378 : decode b36_ 7 = .ok (.if_icmp .eq 10, 3) := by decide +kernel
theorem d379 : decode b36_ 10 = .ok (.aload_n 0, 1) := by decide +kernel
theorem d380 : decode b36_ 11 = .ok (.iload_n 1, 1) := by decide +kernel
theorem d381 : decode b36_ 12 = .ok (.iload_n 2, 1) := by decide +kernel
theorem d382 : decode b36_ 13 = .ok (.invokestatic 339, 3) := by decide +kernel
def w201 (hw : HW Z a0) := ow 201 hw rfl
abbrev b37_ := jdk_65_method_133_code
theorem d383 : decode b37_ 0 = .ok (.iload_n 1, 1) := by decide +kernel
theorem d384 : decode b37_ 1 = .ok (.iload_n 2, 1) := by decide +kernel
theorem d385 : decode b37_ 2 = .ok (.invokestatic 343, 3) := by decide +kernel
def w204 (hw : HW Z a0) := ow 204 hw rfl
abbrev b38_ := jdk_65_method_131_code
theorem d386 : decode b38_ 0 = .ok (.iload_n 1, 1) := by decide +kernel
theorem d387 : decode b38_ 1 = .ok (.iload_n 0, 1) := by decide +kernel
theorem d388 : decode b38_ 2 = .ok (.if_icmp .ge 35, 3) := by decide +kernel
theorem d389 : decode b38_ 37 = .ok (.return_, 1) := by decide +kernel
theorem pn_Arrays587 : plainName "java/util/Arrays" = true := by first | (simp [plainName, overriddenIn]; done) | decide +kernel
abbrev y32_checkLength : MethodName := ⟨"java/util/Arrays", "checkLength", "(II)V"⟩
def Q_r48_checkLength (Z : State)  (h0 : Heap) (n0 : Nat) (v : Option Value) (h : Heap) (L : List Loc) : Prop := v = none ∧ Fr n0 L ∧ h = h0
theorem ef_r48_checkLength (m : MethodId) : entryFrame m #[(.int 0), (.int 3)] 2 = mkF m 0 #[.val (.int 0), .val (.int 3)] [] := by first | (simp [entryFrame, mkF, argsToLocals, Value.category]; done) | rfl
set_option maxRecDepth 65536 in
set_option maxHeartbeats 40000000 in
theorem r48_checkLength (l : Launch) (Z : State) (a0 : Array Value) (hw : HW Z a0) (ws : List Jvm.Cond)  (h0 : Heap) (n0 : Nat) (Z0 : n0 ≤ h0.size) :
    MF l Z y32_checkLength b38_ 2 none ws ⟨0, 0, 0, 0⟩ #[z0, (.int 3)] h0 (Q_r48_checkLength Z  h0 n0) := by
  refine own_body (plainFor_of_name pn_Arrays587) (ef_r48_checkLength) (by decide) (by decide) ?_
  intro p e s m below meth c s₁ hx hby hml hown hnm hret hZ hh e0 X0
  have N0 := Fr.nil n0
  refine ⟨s₁, _, none, X0, (fun h => by cases h <;> rfl), ?_, fun fs hr => ?_⟩
  · show Q_r48_checkLength Z  h0 n0 _ s₁.heap _
    rw [e0]
    exact ⟨rfl, N0, rfl⟩
  · refine t_iloadN 1 X0.here hx (hb hby d386) rfl rfl ?_
    refine t_iloadN 2 X0.here hx (hb hby d387) rfl rfl ?_
    refine t_icmpYes (pc := 2) 37 X0.here hx (hb hby d388) (by decide) (by decide) (by decide) ?_
    exact X0.returnOut hx hret (hb hby d389) hr
def w206 (hw : HW Z a0) := ow 206 hw rfl
def w199 (hw : HW Z a0) := ow 199 hw rfl
theorem pd_23 : parseMethodDescriptor "(II)V" = some ⟨[.int, .int], none⟩ := by decide +kernel
def w205 (hw : HW Z a0) := ow 205 hw rfl
theorem d390 : decode b37_ 5 = .ok (.iload_n 2, 1) := by decide +kernel
theorem d391 : decode b37_ 6 = .ok (.iload_n 1, 1) := by decide +kernel
theorem d392 : decode b37_ 7 = .ok (.isub, 1) := by decide +kernel
theorem d393 : decode b37_ 8 = .ok (.istore_n 3, 1) := by decide +kernel
theorem d394 : decode b37_ 9 = .ok (.iload_n 3, 1) := by decide +kernel
theorem d395 : decode b37_ 10 = .ok (.newarray .byte, 2) := by decide +kernel
theorem d396 : decode b37_ 12 = .ok (.astore 4, 2) := by decide +kernel
theorem d397 : decode b37_ 14 = .ok (.aload_n 0, 1) := by decide +kernel
theorem d398 : decode b37_ 15 = .ok (.iload_n 1, 1) := by decide +kernel
theorem d399 : decode b37_ 16 = .ok (.aload 4, 2) := by decide +kernel
theorem d400 : decode b37_ 18 = .ok (.iconst 0, 1) := by decide +kernel
theorem d401 : decode b37_ 19 = .ok (.aload_n 0, 1) := by decide +kernel
theorem d402 : decode b37_ 20 = .ok (.arraylength, 1) := by decide +kernel
theorem d403 : decode b37_ 21 = .ok (.iload_n 1, 1) := by decide +kernel
theorem d404 : decode b37_ 22 = .ok (.isub, 1) := by decide +kernel
theorem d405 : decode b37_ 23 = .ok (.iload_n 3, 1) := by decide +kernel
theorem d406 : decode b37_ 24 = .ok (.invokestatic 304, 3) := by decide +kernel
def w207 (hw : HW Z a0) := ow 207 hw rfl
theorem d407 : decode b18_ 9 = .ok (.iload_n 1, 1) := by decide +kernel
def Q_r49_min (Z : State)  (h0 : Heap) (n0 : Nat) (v : Option Value) (h : Heap) (L : List Loc) : Prop := v = some (.int 3) ∧ Fr n0 L ∧ h = h0
theorem ef_r49_min (m : MethodId) : entryFrame m #[(.int 16), (.int 3)] 2 = mkF m 0 #[.val (.int 16), .val (.int 3)] [] := by first | (simp [entryFrame, mkF, argsToLocals, Value.category]; done) | rfl
set_option maxRecDepth 65536 in
set_option maxHeartbeats 40000000 in
theorem r49_min (l : Launch) (Z : State) (a0 : Array Value) (hw : HW Z a0) (ws : List Jvm.Cond)  (h0 : Heap) (n0 : Nat) (Z0 : n0 ≤ h0.size) :
    MF l Z y14_min b18_ 2 (some .int) ws ⟨0, 0, 0, 0⟩ #[(.int 16), (.int 3)] h0 (Q_r49_min Z  h0 n0) := by
  refine own_body (Jvm.Free.JP.mathPlain rfl (by decide +kernel)) (ef_r49_min) (by decide) (by decide) ?_
  intro p e s m below meth c s₁ hx hby hml hown hnm hret hZ hh e0 X0
  have N0 := Fr.nil n0
  refine ⟨s₁, _, some (.int 3), X0, (fun h => by cases h <;> rfl), ?_, fun fs hr => ?_⟩
  · show Q_r49_min Z  h0 n0 _ s₁.heap _
    rw [e0]
    exact ⟨rfl, N0, rfl⟩
  · refine t_iloadN 1 X0.here hx (hb hby d175) rfl rfl ?_
    refine t_iloadN 2 X0.here hx (hb hby d176) rfl rfl ?_
    refine t_icmpYes (pc := 2) 9 X0.here hx (hb hby d177) (by decide) (by decide) (by decide) ?_
    refine t_iloadN 10 X0.here hx (hb hby d407) rfl rfl ?_
    exact retI X0 hx hret (hb hby d180) hr
theorem d408 : decode b37_ 27 = .ok (.invokestatic 150, 3) := by decide +kernel
def w208 (hw : HW Z a0) := ow 208 hw rfl
theorem d409 : decode b37_ 30 = .ok (.aload 4, 2) := by decide +kernel
theorem d410 : decode b37_ 32 = .ok (.areturn, 1) := by decide +kernel
abbrev y33_copyOfRangeByte : MethodName := ⟨"java/util/Arrays", "copyOfRangeByte", "([BII)[B"⟩
def Q_r47_copyOfRangeByte (Z : State) (o0 : Addr) (i_3 i_4 i_5 : Int32) (k_o0 : ClassId) (h0 : Heap) (n0 : Nat) (v : Option Value) (h : Heap) (L : List Loc) : Prop := ∃ b2 : Addr, ∃ k2 : ClassId, v = some (.ref b2) ∧ Fr n0 L ∧ KL h0 h [] ∧ h0.size ≤ b2 ∧ Arv Z h b2 k2 .byte 3 [(.int i_3), (.int i_4), (.int i_5)] z0
theorem ef_r47_copyOfRangeByte (o0 : Addr) (m : MethodId) : entryFrame m #[(.ref o0), (.int 0), (.int 3)] 5 = mkF m 0 #[.val (.ref o0), .val (.int 0), .val (.int 3), .unset, .unset] [] := by first | (simp [entryFrame, mkF, argsToLocals, Value.category]; done) | rfl
set_option maxRecDepth 65536 in
set_option maxHeartbeats 40000000 in
theorem r47_copyOfRangeByte (l : Launch) (Z : State) (a0 : Array Value) (hw : HW Z a0) (ws : List Jvm.Cond) (o0 : Addr) (i_3 i_4 i_5 : Int32) (k_o0 : ClassId) (h0 : Heap) (n0 : Nat) (Z0 : n0 ≤ h0.size) (V_o0 : Arv Z h0 o0 k_o0 .byte 16 [(.int i_3), (.int i_4), (.int i_5), z0, z0, z0, z0, z0, z0, z0, z0, z0, z0, z0, z0, z0] z0) :
    MF l Z y33_copyOfRangeByte b37_ 5 (some (.array .byte)) ws ⟨1, 1, 3, 18⟩ #[(.ref o0), z0, (.int 3)] h0 (Q_r47_copyOfRangeByte Z o0 i_3 i_4 i_5 k_o0 h0 n0) := by
  refine own_body (plainFor_of_name pn_Arrays587) (ef_r47_copyOfRangeByte o0) (by decide) (by decide) ?_
  intro p e s m below meth c s₁ hx hby hml hown hnm hret hZ hh e0 X0
  have N0 := Fr.nil n0
  obtain ⟨_, T1, L1, X1, hQ1, st1⟩ := own_static X0 hx hZ hown (w204 hw) (w205 hw) (w199 hw) (w206 hw) (by decide) (r48_checkLength l Z a0 hw []  h0 n0 Z0) e0 (W := 0) (by decide) (g := (mkF m 2 #[vr o0, vi 0, vi 3, .unset, .unset] [(.int 3), z0])) rfl hml.symm (argsL := [z0, (.int 3)]) (rest := []) (lenOf pd_23 rfl) rfl rfl (own_wr rfl rfl) (hb hby d385)
  obtain ⟨rfl, N1q, e1⟩ := hQ1
  have N1 := Fr.app N0 N1q
  obtain ⟨T2, h2, k2, X2, e2, E2, A2, st2⟩ := newP (aty := .byte) X1 hx hZ (w23 hw) e1 (g := (mkF m 10 #[vr o0, vi 0, vi 3, vi 3, .unset] [(.int 3)])) rfl (hb hby d395) rfl (by decide) (cap := 3) (by decide) (by decide) (by decide) (by decide)
  obtain ⟨b2, g2⟩ : ∃ z, z = h0.size := ⟨_, rfl⟩
  rw [← g2] at A2 st2
  have ge_b2 : h0.size ≤ b2 := Nat.le_of_eq g2.symm
  have K2 := KL.ofE E2
  have V2 : Arv Z h2 b2 k2 .byte 3 [z0, z0, z0] z0 := (Arv.new A2 (by decide)).pad (pad_rep [] z0 3)
  have f6 := (kArv K2 V_o0 na0)
  obtain ⟨_, T7, L7, X7, hQ7, st7⟩ := own_static X2 hx hZ hown (w207 hw) (w96 hw) (w93 hw) (w97 hw) (by decide) (r49_min l Z a0 hw []  h2 n0 (Nat.le_trans Z0 K2.1)) e2 (W := 4) (by decide) (g := (mkF m 24 #[vr o0, vi 0, vi 3, vi 3, vr b2] [(.int 3), (.int 16), z0, (.ref b2), z0, (.ref o0)])) rfl hml.symm (argsL := [(.int 16), (.int 3)]) (rest := [z0, (.ref b2), z0, (.ref o0)]) (lenOf pd_12 rfl) rfl rfl (own_wr rfl rfl) (hb hby d406)
  obtain ⟨rfl, N7q, e7⟩ := hQ7
  have N7 := Fr.app N1 N7q
  obtain ⟨T8, h8, L8, X8, e8, N8, Kp8, V8, st8⟩ := cpA X7 hx hZ hown (w208 hw) (w165 hw) (w163 hw) (w164 hw) e7 (us := [(.int i_3), (.int i_4), (.int i_5)]) f6 V2 (Or.inl ⟨rfl, rfl⟩) (by decide) (by decide) (by decide) (by decide) (by decide) rfl (by first | decide | exact Nat.le_of_ble_eq_true rfl) N7 (Nat.le_trans Z0 ge_b2) (g := (mkF m 27 #[vr o0, vi 0, vi 3, vi 3, vr b2] [(.int 3), z0, (.ref b2), z0, (.ref o0)])) rfl hml.symm rfl (hb hby d408) (by decide) (W := 0) (own_wr rfl rfl) (by decide)
  have K8 : KL h2 h8 [(b2, 0), (b2, 1), (b2, 2)] := own_kcp Kp8 V2 (n := 3) rfl ⟨_, rfl⟩
  replace V8 : Arv Z h8 b2 k2 .byte 3 [(.int i_3), (.int i_4), (.int i_5)] z0 := V8
  have C0 := (KL.refl h0 []).trans K2 na0
  have C1 := C0.trans K8 (naOM 3 rfl ge_b2 na0)
  refine ⟨T8, _, some (.ref b2), X8, (fun h => by cases h <;> rfl), ?_, fun fs hr => ?_⟩
  · show Q_r47_copyOfRangeByte Z o0 i_3 i_4 i_5 k_o0 h0 n0 _ T8.heap _
    rw [e8]
    exact ⟨b2, k2, rfl, N8, C1, ge_b2, V8⟩
  · refine t_iloadN 1 X0.here hx (hb hby d383) rfl rfl ?_
    refine t_iloadN 2 X0.here hx (hb hby d384) rfl rfl ?_
    refine st1 _ ?_
    refine t_iloadN 6 X1.here hx (hb hby d390) rfl rfl ?_
    refine t_iloadN 7 X1.here hx (hb hby d391) rfl rfl ?_
    refine t_isub 8 (r := 3) X1.here hx (hb hby d392) (by decide : ((3 : Int32) - (0 : Int32)) = (3 : Int32)) rfl ?_
    refine t_istoreN (pc' := 9) (L' := #[vr o0, vi 0, vi 3, vi 3, .unset]) X1.here hx (hb hby d393) rfl rfl ?_
    refine t_iloadN 10 X1.here hx (hb hby d394) rfl rfl ?_
    refine st2 _ ?_
    refine t_astore (pc' := 14) (L' := #[vr o0, vi 0, vi 3, vi 3, vr b2]) X2.here hx (hb hby d396) rfl rfl rfl ?_
    refine t_aloadN 15 X2.here hx (hb hby d397) rfl rfl rfl ?_
    refine t_iloadN 16 X2.here hx (hb hby d398) rfl rfl ?_
    refine t_aload 18 X2.here hx (hb hby d399) rfl rfl rfl ?_
    refine t_iconst 19 (r := 0) X2.here hx (hb hby d400) (by decide) rfl ?_
    refine t_aloadN 20 X2.here hx (hb hby d401) rfl rfl rfl ?_
    refine own_arlen (pc' := 21) X2 hx hZ e2 f6 (hb hby d402) rfl ?_
    refine t_iloadN 22 X2.here hx (hb hby d403) rfl rfl ?_
    refine t_isub 23 (r := 16) X2.here hx (hb hby d404) (by decide : ((16 : Int32) - (0 : Int32)) = (16 : Int32)) rfl ?_
    refine t_iloadN 24 X2.here hx (hb hby d405) rfl rfl ?_
    refine st7 _ ?_
    refine st8 _ ?_
    refine t_aload 32 X8.here hx (hb hby d409) rfl rfl rfl ?_
    jvm_step X8.here [X8.here.top, hx, (hb hby d410), X8.method', hret, Value.isRef, FieldType.isReference]
    first | (intro acts; rw [hr _ acts rfl rfl rfl]) | rw [hr _ _ rfl rfl rfl]
    exact Steps.refl _
def w203 (hw : HW Z a0) := ow 203 hw rfl
theorem pd_24 : parseMethodDescriptor "([BII)[B" = some ⟨[(.array .byte), .int, .int], some (.array .byte)⟩ := by decide +kernel
def w202 (hw : HW Z a0) := ow 202 hw rfl
theorem d411 : decode b36_ 16 = .ok (.areturn, 1) := by decide +kernel
abbrev y34_copyOfRange : MethodName := ⟨"java/util/Arrays", "copyOfRange", "([BII)[B"⟩
def Q_r46_copyOfRange (Z : State) (o0 : Addr) (i_1 i_2 i_3 : Int32) (k_o0 : ClassId) (h0 : Heap) (n0 : Nat) (v : Option Value) (h : Heap) (L : List Loc) : Prop := ∃ b2_4 : Addr, ∃ k2_4 : ClassId, v = some (.ref b2_4) ∧ Fr n0 L ∧ KL h0 h [] ∧ h0.size ≤ b2_4 ∧ Arv Z h b2_4 k2_4 .byte 3 [(.int i_1), (.int i_2), (.int i_3)] z0
theorem ef_r46_copyOfRange (o0 : Addr) (m : MethodId) : entryFrame m #[(.ref o0), (.int 0), (.int 3)] 3 = mkF m 0 #[.val (.ref o0), .val (.int 0), .val (.int 3)] [] := by first | (simp [entryFrame, mkF, argsToLocals, Value.category]; done) | rfl
set_option maxRecDepth 65536 in
set_option maxHeartbeats 40000000 in
theorem r46_copyOfRange (l : Launch) (Z : State) (a0 : Array Value) (hw : HW Z a0) (ws : List Jvm.Cond) (o0 : Addr) (i_1 i_2 i_3 : Int32) (k_o0 : ClassId) (h0 : Heap) (n0 : Nat) (Z0 : n0 ≤ h0.size) (V_o0 : Arv Z h0 o0 k_o0 .byte 16 [(.int i_1), (.int i_2), (.int i_3), z0, z0, z0, z0, z0, z0, z0, z0, z0, z0, z0, z0, z0] z0) :
    MF l Z y34_copyOfRange b36_ 3 (some (.array .byte)) ws ⟨2, 1, 3, 34⟩ #[(.ref o0), z0, (.int 3)] h0 (Q_r46_copyOfRange Z o0 i_1 i_2 i_3 k_o0 h0 n0) := by
  refine own_body (plainFor_of_name pn_Arrays587) (ef_r46_copyOfRange o0) (by decide) (by decide) ?_
  intro p e s m below meth c s₁ hx hby hml hown hnm hret hZ hh e0 X0
  have N0 := Fr.nil n0
  obtain ⟨_, T4, L4, X4, hQ4, st4⟩ := own_static X0 hx hZ hown (w201 hw) (w202 hw) (w199 hw) (w203 hw) (by decide) (r47_copyOfRangeByte l Z a0 hw [] o0 i_1 i_2 i_3 k_o0 h0 n0 Z0 V_o0) e0 (W := 0) (by decide) (g := (mkF m 13 #[vr o0, vi 0, vi 3] [(.int 3), z0, (.ref o0)])) rfl hml.symm (argsL := [(.ref o0), z0, (.int 3)]) (rest := []) (lenOf pd_24 rfl) rfl rfl (own_wr rfl rfl) (hb hby d382)
  obtain ⟨b2_4, k2_4, rfl, N4q, K4, Q4_0, Q4_1⟩ := hQ4
  have N4 := Fr.app N0 N4q
  have C0 := (KL.refl h0 []).trans K4 na0
  refine ⟨T4, _, some (.ref b2_4), X4, (fun h => by cases h <;> rfl), ?_, fun fs hr => ?_⟩
  · show Q_r46_copyOfRange Z o0 i_1 i_2 i_3 k_o0 h0 n0 _ T4.heap _
    exact ⟨b2_4, k2_4, rfl, N4, C0, Q4_0, Q4_1⟩
  · refine t_iloadN 1 X0.here hx (hb hby d373) rfl rfl ?_
    refine t_ifNo 4 X0.here hx (hb hby d374) (by decide) rfl ?_
    refine t_iloadN 5 X0.here hx (hb hby d375) rfl rfl ?_
    refine t_aloadN 6 X0.here hx (hb hby d376) rfl rfl rfl ?_
    refine own_arlen (pc' := 7) X0 hx hZ e0 V_o0 (hb hby d377) rfl ?_
    refine t_icmpNo 10 X0.here hx (hb hby d378) (by decide) rfl ?_
    refine t_aloadN 11 X0.here hx (hb hby d379) rfl rfl rfl ?_
    refine t_iloadN 12 X0.here hx (hb hby d380) rfl rfl ?_
    refine t_iloadN 13 X0.here hx (hb hby d381) rfl rfl ?_
    refine st4 _ ?_
    jvm_step X4.here [X4.here.top, hx, (hb hby d411), X4.method', hret, Value.isRef, FieldType.isReference]
    first | (intro acts; rw [hr _ acts rfl rfl rfl]) | rw [hr _ _ rfl rfl rfl]
    exact Steps.refl _
def w200 (hw : HW Z a0) := ow 200 hw rfl
def w198 (hw : HW Z a0) := ow 198 hw rfl
theorem d412 : decode b31_ 35 = .ok (.putfield 9, 3) := by decide +kernel
theorem d413 : decode b31_ 38 = .ok (.goto 59, 3) := by decide +kernel
theorem d414 : decode b31_ 97 = .ok (.return_, 1) := by decide +kernel
abbrev y35__init_ : MethodName := ⟨"java/lang/String", "<init>", "(Ljava/lang/AbstractStringBuilder;Ljava/lang/Void;)V"⟩
def WS_r41__init_ (Z : State) (o0 : Addr) : List (Addr × Nat) := [(o0, (sl0 Z)), (o0, (sl1 Z))]
def Q_r41__init_ (Z : State) (o0 o1 o_2 : Addr) (i_5 i_8 i_9 i_10 : Int32) (k_o_2 : ClassId) (h0 : Heap) (n0 : Nat) (v : Option Value) (h : Heap) (L : List Loc) : Prop := ∃ b2_4_11 : Addr, ∃ k2_4_11 : ClassId, v = none ∧ Fr n0 L ∧ KL h0 h (WS_r41__init_ Z o0) ∧ h0.size ≤ b2_4_11 ∧ Fd0 Z h o0 z0 ∧ Fd1 Z h o0 (.ref b2_4_11) ∧ Arv Z h b2_4_11 k2_4_11 .byte 3 [(.int i_8), (.int i_9), (.int i_10)] z0
theorem ef_r41__init_ (o0 o1 : Addr) (m : MethodId) : entryFrame m #[(.ref o0), (.ref o1), .null] 5 = mkF m 0 #[.val (.ref o0), .val (.ref o1), .val .null, .unset, .unset] [] := by first | (simp [entryFrame, mkF, argsToLocals, Value.category]; done) | rfl
set_option maxRecDepth 65536 in
set_option maxHeartbeats 40000000 in
theorem r41__init_ (l : Launch) (Z : State) (a0 : Array Value) (hw : HW Z a0) (ws : List Jvm.Cond) (o0 o1 o_2 : Addr) (i_5 i_8 i_9 i_10 : Int32) (k_o_2 : ClassId) (h0 : Heap) (n0 : Nat) (Z0 : n0 ≤ h0.size) (E_o1 : Ex2 Z h0 o1) (F_o1_value : Fd4 Z h0 o1 (.ref o_2)) (F_o1_count : Fd6 Z h0 o1 (.int 3)) (sCS : SCS Z i_5) (F_o1_coder : Fd5 Z h0 o1 z0) (O0 : Old Z n0 h0) (hp0 : ¬ (i_5 = (0 : Int32))) (F_o0_coder : Fd0 Z h0 o0 z0) (E_o0 : Ex0 Z h0 o0) (g_o0 : n0 ≤ o0) (V_o_2 : Arv Z h0 o_2 k_o_2 .byte 16 [(.int i_8), (.int i_9), (.int i_10), z0, z0, z0, z0, z0, z0, z0, z0, z0, z0, z0, z0, z0] z0) (ne_o0_o_2 : o0 ≠ o_2) (F_o0_value : Fd1 Z h0 o0 .null) :
    MF l Z y35__init_ b31_ 5 none ws ⟨3, 1, 3, 49⟩ #[(.ref o0), (.ref o1), .null] h0 (Q_r41__init_ Z o0 o1 o_2 i_5 i_8 i_9 i_10 k_o_2 h0 n0) := by
  refine own_body (plainFor_of_name pn_String564) (ef_r41__init_ o0 o1) (by decide) (by decide) ?_
  intro p e s m below meth c s₁ hx hby hml hown hnm hret hZ hh e0 X0
  have N0 := Fr.nil n0
  obtain ⟨T1, X1, e1, st1⟩ := initO X0 hx hZ hown (w15 hw) (w16 hw) (w17 hw) e0 (g := (mkF m 1 #[vr o0, vr o1, .val .null, .unset, .unset] [(.ref o0)])) rfl hml.symm rfl (hb hby d338) (by decide) (W := 0) (own_wr rfl rfl) (by decide)
  obtain ⟨_, T3, L3, X3, hQ3, st3⟩ := own_virtual X1 hx hZ hown (w179 hw) (w180 hw) (nfS hZ (w182 hw)) (w182 hw) (w181 hw) (w120 hw) (w183 hw) (by decide) (r42_getValue l Z a0 hw [] o1 o_2 h0 n0 Z0 F_o1_value) e1 E_o1 (W := 0) (by decide) (g := (mkF m 5 #[vr o0, vr o1, .val .null, .unset, .unset] [(.ref o1)])) rfl hml.symm (argsL := []) (rest := []) (lenOf pd_22 rfl) rfl rfl (own_wr rfl rfl) (hb hby d340)
  obtain ⟨rfl, N3q, e3⟩ := hQ3
  have N3 := Fr.app N0 N3q
  obtain ⟨_, T4, L4, X4, hQ4, st4⟩ := own_virtual X3 hx hZ hown (w184 hw) (w185 hw) (own_nf (args := #[]) (mvT hZ (w144 hw)) rfl) (w187 hw) (w188 hw) (w112 hw) (w189 hw) (by decide) (r43_length l Z a0 hw [] o1 h0 n0 Z0 E_o1 F_o1_count) e3 E_o1 (W := 0) (by decide) (g := (mkF m 10 #[vr o0, vr o1, .val .null, vr o_2, .unset] [(.ref o1)])) rfl hml.symm (argsL := []) (rest := []) (lenOf pd_10 rfl) rfl rfl (own_wr rfl rfl) (hb hby d346)
  obtain ⟨rfl, N4q, e4⟩ := hQ4
  have N4 := Fr.app N3 N4q
  obtain ⟨_, T6, L6, X6, hQ6, st6⟩ := own_virtual X4 hx hZ hown (w192 hw) (w193 hw) (nfS hZ (w195 hw)) (w195 hw) (w194 hw) (w120 hw) (w196 hw) (by decide) (r45_isLatin1 l Z a0 hw [] o1 i_5 h0 n0 Z0 sCS O0 hp0 F_o1_coder) e4 E_o1 (W := 0) (by decide) (g := (mkF m 16 #[vr o0, vr o1, .val .null, vr o_2, vi 3] [(.ref o1)])) rfl hml.symm (argsL := []) (rest := []) (lenOf pd_8 rfl) rfl rfl (own_wr rfl rfl) (hb hby d355)
  obtain ⟨rfl, N6q, e6⟩ := hQ6
  have N6 := Fr.app N4 N6q
  obtain ⟨T7, h7, X7, e7, W7, st7⟩ := putF X6 hx hZ hown (host := "") (Or.inl (w30 hw)) Via.refl e6 F_o0_coder E_o0 (Or.inr ⟨(w31 hw), rfl, hnm⟩) (w5 hw) (ty := .byte) (by decide) (by decide) (by decide) (g := (mkF m 24 #[vr o0, vr o1, .val .null, vr o_2, vi 3] [z0, (.ref o0)])) rfl rfl (hb hby d367)
  have K7 := KL.ofW W7
  have Fw7 : Fd0 Z h7 o0 z0 := Fld.same W7 F_o0_coder
  have N7 := Fr.snoc X7 N6 g_o0
  have f12 := (kArv K7 V_o_2 (naN ne_o0_o_2 na0))
  obtain ⟨_, T11, L11, X11, hQ11, st11⟩ := own_static X7 hx hZ hown (w197 hw) (w198 hw) (w199 hw) (w200 hw) (by decide) (r46_copyOfRange l Z a0 hw [] o_2 i_8 i_9 i_10 k_o_2 h7 n0 (Nat.le_trans Z0 K7.1) f12) e7 (W := 1) (by decide) (g := (mkF m 32 #[vr o0, vr o1, .val .null, vr o_2, vi 3] [(.int 3), z0, (.ref o_2), (.ref o0)])) rfl hml.symm (argsL := [(.ref o_2), z0, (.int 3)]) (rest := [(.ref o0)]) (lenOf pd_24 rfl) rfl rfl (own_wr rfl rfl) (hb hby d372)
  obtain ⟨b2_4_11, k2_4_11, rfl, N11q, K11, Q11_0, Q11_1⟩ := hQ11
  have N11 := Fr.app N7 N11q
  have f14 := (kFld K11 (kFld K7 F_o0_value (nwS (Or.inr (sn_0 hw)) nw0)) nw0)
  have f15 := (kExa K11 (kExa K7 E_o0))
  obtain ⟨T16, h16, X16, e16, W16, st16⟩ := putF X11 hx hZ hown (host := "") (Or.inl (w32 hw)) Via.refl rfl f14 f15 (Or.inr ⟨(w33 hw), rfl, hnm⟩) (w5 hw) (ty := (.array .byte)) (by decide) rfl rfl (g := (mkF m 35 #[vr o0, vr o1, .val .null, vr o_2, vi 3] [(.ref b2_4_11), (.ref o0)])) rfl rfl (hb hby d412)
  have K16 := KL.ofW W16
  have Fw16 : Fd1 Z h16 o0 (.ref b2_4_11) := Fld.same W16 f14
  have N16 := Fr.snoc X16 N11 g_o0
  have C0 := (KL.refl h0 (WS_r41__init_ Z o0)).trans K7 (naO (own_mi 0 rfl) na0)
  have C1 := C0.trans K11 na0
  have C2 := C1.trans K16 (naO (own_mi 1 rfl) na0)
  have f17 := (kFld K16 (kFld K11 Fw7 nw0) (nwS (Or.inr (sn_1 hw)) nw0))
  have lt_o0 : o0 < h0.size := Fld.lt F_o0_coder
  have f18 := (kArv K16 Q11_1 (naN (lt_ne (Nat.lt_of_lt_of_le lt_o0 K7.1) Q11_0) na0))
  refine ⟨T16, _, none, X16, (fun h => by cases h <;> rfl), ?_, fun fs hr => ?_⟩
  · show Q_r41__init_ Z o0 o1 o_2 i_5 i_8 i_9 i_10 k_o_2 h0 n0 _ T16.heap _
    rw [e16]
    exact ⟨b2_4_11, k2_4_11, rfl, N16, C2, (Nat.le_trans K7.1 Q11_0), f17, Fw16, f18⟩
  · refine t_aloadN 1 X0.here hx (hb hby d337) rfl rfl rfl ?_
    refine st1 _ ?_
    refine t_aloadN 5 X1.here hx (hb hby d339) rfl rfl rfl ?_
    refine st3 _ ?_
    refine t_astoreN (pc' := 9) (L' := #[vr o0, vr o1, .val .null, vr o_2, .unset]) X3.here hx (hb hby d344) rfl rfl rfl ?_
    refine t_aloadN 10 X3.here hx (hb hby d345) rfl rfl rfl ?_
    refine st4 _ ?_
    refine t_istore (pc' := 15) (L' := #[vr o0, vr o1, .val .null, vr o_2, vi 3]) X4.here hx (hb hby d353) rfl rfl ?_
    refine t_aloadN 16 X4.here hx (hb hby d354) rfl rfl rfl ?_
    refine st6 _ ?_
    refine t_ifNo 22 X6.here hx (hb hby d364) (by decide) rfl ?_
    refine t_aloadN 23 X6.here hx (hb hby d365) rfl rfl rfl ?_
    refine t_iconst 24 (r := 0) X6.here hx (hb hby d366) (by decide) rfl ?_
    refine st7 _ ?_
    refine t_aloadN 28 X7.here hx (hb hby d368) rfl rfl rfl ?_
    refine t_aloadN 29 X7.here hx (hb hby d369) rfl rfl rfl ?_
    refine t_iconst 30 (r := 0) X7.here hx (hb hby d370) (by decide) rfl ?_
    refine t_iload 32 X7.here hx (hb hby d371) rfl rfl ?_
    refine st11 _ ?_
    refine st16 _ ?_
    refine t_goto (pc := 38) 97 X16.here hx (hb hby d413) (by decide) (by decide) ?_
    exact X16.returnOut hx hret (hb hby d414) hr
def w178 (hw : HW Z a0) := ow 178 hw rfl
theorem pd_25 : parseMethodDescriptor "(Ljava/lang/AbstractStringBuilder;Ljava/lang/Void;)V" = some ⟨[(.object "java/lang/AbstractStringBuilder"), (.object "java/lang/Void")], none⟩ := by decide +kernel
def w177 (hw : HW Z a0) := ow 177 hw rfl
theorem d415 : decode b30_ 6 = .ok (.return_, 1) := by decide +kernel
abbrev y36__init_ : MethodName := ⟨"java/lang/String", "<init>", "(Ljava/lang/StringBuilder;)V"⟩
def WS_r40__init_ (Z : State) (o0 : Addr) : List (Addr × Nat) := [(o0, (sl0 Z)), (o0, (sl1 Z))]
def Q_r40__init_ (Z : State) (o0 o1 o_1 : Addr) (i_2 i_3 i_4 i_5 : Int32) (k_o_1 : ClassId) (h0 : Heap) (n0 : Nat) (v : Option Value) (h : Heap) (L : List Loc) : Prop := ∃ b2_4_11_6 : Addr, ∃ k2_4_11_6 : ClassId, v = none ∧ Fr n0 L ∧ KL h0 h (WS_r40__init_ Z o0) ∧ h0.size ≤ b2_4_11_6 ∧ Fd0 Z h o0 z0 ∧ Fd1 Z h o0 (.ref b2_4_11_6) ∧ Arv Z h b2_4_11_6 k2_4_11_6 .byte 3 [(.int i_3), (.int i_4), (.int i_5)] z0
theorem ef_r40__init_ (o0 o1 : Addr) (m : MethodId) : entryFrame m #[(.ref o0), (.ref o1)] 2 = mkF m 0 #[.val (.ref o0), .val (.ref o1)] [] := by first | (simp [entryFrame, mkF, argsToLocals, Value.category]; done) | rfl
set_option maxRecDepth 65536 in
set_option maxHeartbeats 40000000 in
theorem r40__init_ (l : Launch) (Z : State) (a0 : Array Value) (hw : HW Z a0) (ws : List Jvm.Cond) (o0 o1 o_1 : Addr) (i_2 i_3 i_4 i_5 : Int32) (k_o_1 : ClassId) (h0 : Heap) (n0 : Nat) (Z0 : n0 ≤ h0.size) (E_o1 : Ex2 Z h0 o1) (F_o1_value : Fd4 Z h0 o1 (.ref o_1)) (F_o1_count : Fd6 Z h0 o1 (.int 3)) (sCS : SCS Z i_2) (F_o1_coder : Fd5 Z h0 o1 z0) (F_o0_coder : Fd0 Z h0 o0 z0) (E_o0 : Ex0 Z h0 o0) (V_o_1 : Arv Z h0 o_1 k_o_1 .byte 16 [(.int i_3), (.int i_4), (.int i_5), z0, z0, z0, z0, z0, z0, z0, z0, z0, z0, z0, z0, z0] z0) (F_o0_value : Fd1 Z h0 o0 .null) (O0 : Old Z n0 h0) (hp0 : ¬ (i_2 = (0 : Int32))) (g_o0 : n0 ≤ o0) (ne_o0_o_1 : o0 ≠ o_1) :
    MF l Z y36__init_ b30_ 2 none ws ⟨4, 1, 3, 65⟩ #[(.ref o0), (.ref o1)] h0 (Q_r40__init_ Z o0 o1 o_1 i_2 i_3 i_4 i_5 k_o_1 h0 n0) := by
  refine own_body (plainFor_of_name pn_String564) (ef_r40__init_ o0 o1) (by decide) (by decide) ?_
  intro p e s m below meth c s₁ hx hby hml hown hnm hret hZ hh e0 X0
  have N0 := Fr.nil n0
  obtain ⟨_, T6, L6, X6, hQ6, st6⟩ := own_init X0 hx hZ rfl hown (w176 hw) (w177 hw) (w6 hw) (w178 hw) (by decide) (r41__init_ l Z a0 hw [] o0 o1 o_1 i_2 i_3 i_4 i_5 k_o_1 h0 n0 Z0 E_o1 F_o1_value F_o1_count sCS F_o1_coder O0 hp0 F_o0_coder E_o0 g_o0 V_o_1 ne_o0_o_1 F_o0_value) e0 (W := 0) (by decide) (g := (mkF m 3 #[vr o0, vr o1] [.null, (.ref o1), (.ref o0)])) rfl hml.symm (argsL := [(.ref o1), .null]) (rest := []) (lenOf pd_25 rfl) rfl rfl (own_wr rfl rfl) (hb hby d336)
  obtain ⟨b2_4_11_6, k2_4_11_6, rfl, N6q, K6, Q6_0, Q6_1, Q6_2, Q6_3⟩ := hQ6
  have N6 := Fr.app N0 N6q
  have C0 := (KL.refl h0 (WS_r40__init_ Z o0)).trans K6 (naO (own_mi 0 rfl) (naO (own_mi 1 rfl) na0))
  refine ⟨T6, _, none, X6, (fun h => by cases h <;> rfl), ?_, fun fs hr => ?_⟩
  · show Q_r40__init_ Z o0 o1 o_1 i_2 i_3 i_4 i_5 k_o_1 h0 n0 _ T6.heap _
    exact ⟨b2_4_11_6, k2_4_11_6, rfl, N6, C0, Q6_0, Q6_1, Q6_2, Q6_3⟩
  · refine t_aloadN 1 X0.here hx (hb hby d333) rfl rfl rfl ?_
    refine t_aloadN 2 X0.here hx (hb hby d334) rfl rfl rfl ?_
    refine t_aconst_null 3 X0.here hx (hb hby d335) rfl ?_
    refine st6 _ ?_
    exact X6.returnOut hx hret (hb hby d415) hr
def w175 (hw : HW Z a0) := ow 175 hw rfl
theorem pd_26 : parseMethodDescriptor "(Ljava/lang/StringBuilder;)V" = some ⟨[(.object "java/lang/StringBuilder")], none⟩ := by decide +kernel
def w174 (hw : HW Z a0) := ow 174 hw rfl
theorem d416 : decode b29_ 8 = .ok (.areturn, 1) := by decide +kernel
abbrev y37_toString : MethodName := ⟨"java/lang/StringBuilder", "toString", "()Ljava/lang/String;"⟩
def Q_r39_toString (Z : State) (o0 o_2 : Addr) (i_3 i_4 i_5 i_6 : Int32) (k_o_2 : ClassId) (h0 : Heap) (n0 : Nat) (v : Option Value) (h : Heap) (L : List Loc) : Prop := ∃ b1 : Addr, ∃ b2_4_11_6_7 : Addr, ∃ k2_4_11_6_7 : ClassId, v = some (.ref b1) ∧ Fr n0 L ∧ KL h0 h [] ∧ h0.size ≤ b1 ∧ h0.size ≤ b2_4_11_6_7 ∧ b1 ≠ b2_4_11_6_7 ∧ Ex0 Z h b1 ∧ Fd0 Z h b1 z0 ∧ Fd1 Z h b1 (.ref b2_4_11_6_7) ∧ Arv Z h b2_4_11_6_7 k2_4_11_6_7 .byte 3 [(.int i_4), (.int i_5), (.int i_6)] z0
theorem ef_r39_toString (o0 : Addr) (m : MethodId) : entryFrame m #[(.ref o0)] 1 = mkF m 0 #[.val (.ref o0)] [] := by first | (simp [entryFrame, mkF, argsToLocals, Value.category]; done) | rfl
set_option maxRecDepth 65536 in
set_option maxHeartbeats 40000000 in
theorem r39_toString (l : Launch) (Z : State) (a0 : Array Value) (hw : HW Z a0) (ws : List Jvm.Cond) (o0 o_2 : Addr) (i_3 i_4 i_5 i_6 : Int32) (k_o_2 : ClassId) (h0 : Heap) (n0 : Nat) (Z0 : n0 ≤ h0.size) (E_o0 : Ex2 Z h0 o0) (F_o0_value : Fd4 Z h0 o0 (.ref o_2)) (F_o0_count : Fd6 Z h0 o0 (.int 3)) (sCS : SCS Z i_3) (F_o0_coder : Fd5 Z h0 o0 z0) (V_o_2 : Arv Z h0 o_2 k_o_2 .byte 16 [(.int i_4), (.int i_5), (.int i_6), z0, z0, z0, z0, z0, z0, z0, z0, z0, z0, z0, z0, z0] z0) (O0 : Old Z n0 h0) (hp0 : ¬ (i_3 = (0 : Int32))) :
    MF l Z y37_toString b29_ 1 (some (.object "java/lang/String")) ws ⟨5, 2, 7, 79⟩ #[(.ref o0)] h0 (Q_r39_toString Z o0 o_2 i_3 i_4 i_5 i_6 k_o_2 h0 n0) := by
  refine own_body (plainFor_of_name pn_StringBuilder278) (ef_r39_toString o0) (by decide) (by decide) ?_
  intro p e s m below meth c s₁ hx hby hml hown hnm hret hZ hh e0 X0
  have N0 := Fr.nil n0
  obtain ⟨T1, h1, X1, e1, E1, A1, D1, -, st1⟩ := newO X0 hx hZ hown (w172 hw) (w5 hw) (w6 hw) e0 (g := (mkF m 0 #[vr o0] [])) rfl (hb hby d329) (by decide) (by decide)
  obtain ⟨b1, g1⟩ : ∃ z, z = h0.size := ⟨_, rfl⟩
  rw [← g1] at A1 D1 st1
  have ge_b1 : h0.size ≤ b1 := Nat.le_of_eq g1.symm
  have K1 := KL.ofE E1
  have F_b1_coder : Fd0 Z h1 b1 z0 := D1 (Or.inr (w31 hw)) (ty := .byte) (by decide)
  have F_b1_value : Fd1 Z h1 b1 .null := D1 (Or.inr (w33 hw)) (ty := (.array .byte)) (by decide)
  have f8 := (kExa K1 E_o0)
  have f9 := (kFld K1 F_o0_value nw0)
  have f10 := (kFld K1 F_o0_count nw0)
  have f11 := (kFld K1 F_o0_coder nw0)
  have f12 := (kArv K1 V_o_2 na0)
  have f13 := (kOld K1 O0 na0)
  have lt_o_2 : o_2 < h0.size := Arv.lt V_o_2
  obtain ⟨_, T7, L7, X7, hQ7, st7⟩ := own_init X1 hx hZ rfl hown (w173 hw) (w174 hw) (w6 hw) (w175 hw) (by decide) (r40__init_ l Z a0 hw [] b1 o0 o_2 i_3 i_4 i_5 i_6 k_o_2 h1 n0 (Nat.le_trans Z0 K1.1) f8 f9 f10 sCS f11 F_b1_coder A1 f12 F_b1_value f13 hp0 (Nat.le_trans Z0 ge_b1) (Ne.symm (lt_ne lt_o_2 ge_b1))) e1 (W := 1) (by decide) (g := (mkF m 5 #[vr o0] [(.ref o0), (.ref b1), (.ref b1)])) rfl hml.symm (argsL := [(.ref o0)]) (rest := [(.ref b1)]) (lenOf pd_26 rfl) rfl rfl (own_wr rfl rfl) (hb hby d332)
  obtain ⟨b2_4_11_6_7, k2_4_11_6_7, rfl, N7q, K7, Q7_0, Q7_1, Q7_2, Q7_3⟩ := hQ7
  have N7 := Fr.app N0 N7q
  have C0 := (KL.refl h0 []).trans K1 na0
  have C1 := C0.trans K7 (naO (Or.inr ge_b1) (naO (Or.inr ge_b1) na0))
  have lt_b1 : b1 < h1.size := Exa.lt A1
  have f15 := (kExa K7 A1)
  refine ⟨T7, _, some (.ref b1), X7, (fun h => by cases h <;> rfl), ?_, fun fs hr => ?_⟩
  · show Q_r39_toString Z o0 o_2 i_3 i_4 i_5 i_6 k_o_2 h0 n0 _ T7.heap _
    exact ⟨b1, b2_4_11_6_7, k2_4_11_6_7, rfl, N7, C1, ge_b1, (Nat.le_trans K1.1 Q7_0), (lt_ne lt_b1 Q7_0), f15, Q7_1, Q7_2, Q7_3⟩
  · refine st1 _ ?_
    refine t_dup 4 X1.here hx (hb hby d330) rfl rfl ?_
    refine t_aloadN 5 X1.here hx (hb hby d331) rfl rfl rfl ?_
    refine st7 _ ?_
    jvm_step X7.here [X7.here.top, hx, (hb hby d416), X7.method', hret, Value.isRef, FieldType.isReference]
    first | (intro acts; rw [hr _ acts rfl rfl rfl]) | rw [hr _ _ rfl rfl rfl]
    exact Steps.refl _
def w171 (hw : HW Z a0) := ow 171 hw rfl
theorem pd_27 : parseMethodDescriptor "()Ljava/lang/String;" = some ⟨[], some (.object "java/lang/String")⟩ := by decide +kernel
def w168 (hw : HW Z a0) := ow 168 hw rfl
def w169 (hw : HW Z a0) := ow 169 hw rfl
theorem d417 : decode b20_ 29 = .ok (.areturn, 1) := by decide +kernel
abbrev y38_toString : MethodName := ⟨"com/example/keen_roster/keenroster/core/Identifier", "toString", "()Ljava/lang/String;"⟩
def Q_r20_toString (Z : State) (o0 : Addr) (i_2 : Int32) (o_6 o_9 : Addr) (i_10 : Int32) (k_o_9 : ClassId) (o_27 o_30 : Addr) (i_31 : Int32) (k_o_30 : ClassId) (h0 : Heap) (n0 : Nat) (v : Option Value) (h : Heap) (L : List Loc) : Prop := ∃ b1_41 : Addr, ∃ b2_4_11_6_7_41 : Addr, ∃ k2_4_11_6_7_41 : ClassId, v = some (.ref b1_41) ∧ Fr n0 L ∧ KL h0 h [] ∧ h0.size ≤ b1_41 ∧ h0.size ≤ b2_4_11_6_7_41 ∧ b1_41 ≠ b2_4_11_6_7_41 ∧ Ex0 Z h b1_41 ∧ Fd0 Z h b1_41 z0 ∧ Fd1 Z h b1_41 (.ref b2_4_11_6_7_41) ∧ Arv Z h b2_4_11_6_7_41 k2_4_11_6_7_41 .byte 3 [(.int i_10), (.int 58), (.int i_31)] z0
theorem ef_r20_toString (o0 : Addr) (m : MethodId) : entryFrame m #[(.ref o0)] 1 = mkF m 0 #[.val (.ref o0)] [] := by first | (simp [entryFrame, mkF, argsToLocals, Value.category]; done) | rfl
set_option maxRecDepth 65536 in
set_option maxHeartbeats 40000000 in
theorem r20_toString (l : Launch) (Z : State) (a0 : Array Value) (hw : HW Z a0) (ws : List Jvm.Cond) (o0 : Addr) (i_2 : Int32) (o_6 o_9 : Addr) (i_10 : Int32) (k_o_9 : ClassId) (o_27 o_30 : Addr) (i_31 : Int32) (k_o_30 : ClassId) (h0 : Heap) (n0 : Nat) (Z0 : n0 ≤ h0.size) (sCS : SCS Z i_2) (O0 : Old Z n0 h0) (hp0 : ¬ (i_2 = (0 : Int32))) (F_o0_system : Fd2 Z h0 o0 (.ref o_6)) (E_o_6 : Ex0 Z h0 o_6) (F_o_6_value : Fd1 Z h0 o_6 (.ref o_9)) (V_o_9 : Arv Z h0 o_9 k_o_9 .byte 1 [(.int i_10)] z0) (F_o_6_coder : Fd0 Z h0 o_6 z0) (F_o0_id : Fd3 Z h0 o0 (.ref o_27)) (E_o_27 : Ex0 Z h0 o_27) (F_o_27_value : Fd1 Z h0 o_27 (.ref o_30)) (V_o_30 : Arv Z h0 o_30 k_o_30 .byte 1 [(.int i_31)] z0) (F_o_27_coder : Fd0 Z h0 o_27 z0) :
    OMH l Z consts_1 [] y38_toString b20_ 1 (some (.object "java/lang/String")) ws ⟨6, 6, 35, 91⟩ #[(.ref o0)] h0 (Q_r20_toString Z o0 i_2 o_6 o_9 i_10 k_o_9 o_27 o_30 i_31 k_o_30 h0 n0) := by
  refine own_bodyH (k := 6) (n := 35) (own_EW hw) (plainFor_of_name pn_Identifier44) (ef_r20_toString o0) (by decide) (by decide) ?_
  intro p e s m below meth c s₁ hx hby hml hown hnm hret hZ e0 hS0 hk0 X0 hC0 hSF0
  have N0 := Fr.nil n0
  obtain ⟨T1, h1, X1, e1, E1, A1, D1, -, st1⟩ := newO X0 hx hZ hown (w110 hw) (w111 hw) (w112 hw) e0 (g := (mkF m 0 #[vr o0] [])) rfl (hb hby d222) (by decide) (by decide)
  obtain ⟨b1, g1⟩ : ∃ z, z = h0.size := ⟨_, rfl⟩
  rw [← g1] at A1 D1 st1
  have ge_b1 : h0.size ≤ b1 := Nat.le_of_eq g1.symm
  have K1 := KL.ofE E1
  have Ck0 := own_chK K1 na0 (CHr.refl hC0).1
  have Ah1 := (CHr.refl hC0).trans Ck0.1
  have F_b1_value : Fd4 Z h1 b1 .null := D1 (Or.inl (w125 hw)) (ty := (.array .byte)) (by decide)
  have F_b1_coder : Fd5 Z h1 b1 z0 := D1 (Or.inl (w127 hw)) (ty := .byte) (by decide)
  have F_b1_count : Fd6 Z h1 b1 z0 := D1 (Or.inl (w140 hw)) (ty := .int) (by decide)
  have f4 := (kOld K1 O0 na0)
  obtain ⟨_, T3, L3, X3, hQ3, st3⟩ := own_init X1 hx hZ rfl hown (w113 hw) (w114 hw) (w112 hw) (w115 hw) (by decide) (r21__init_ l Z a0 hw [] b1 i_2 h1 n0 (Nat.le_trans Z0 K1.1) sCS F_b1_value A1 F_b1_coder f4 hp0 (Nat.le_trans Z0 ge_b1)) e1 (W := 1) (by decide) (g := (mkF m 4 #[vr o0] [(.ref b1), (.ref b1)])) rfl hml.symm (argsL := []) (rest := [(.ref b1)]) (lenOf pd_6 rfl) rfl rfl (own_wr rfl rfl) (hb hby d224)
  obtain ⟨b4_2_3, k4_2_3, rfl, N3q, K3, Q3_0, Q3_1, Q3_2, Q3_3⟩ := hQ3
  have N3 := Fr.app N0 N3q
  have Ck1 := own_chK K3 (naF (Safe.exa hZ.alike A1 (by decide) (by decide)) (naF (Safe.exa hZ.alike A1 (by decide) (by decide)) na0)) Ah1.1
  have Ah2 := Ah1.trans Ck1.1
  have lt_o0 : o0 < h0.size := Fld.lt F_o0_system
  have f7 := (kFld K3 (kFld K1 F_o0_system nw0) (nwS (Or.inl (lt_ne lt_o0 ge_b1)) (nwS (Or.inl (lt_ne lt_o0 ge_b1)) nw0)))
  obtain ⟨T8, X8, e8, st8⟩ := getF X3 hx hZ hown (host := "") (Or.inl (w101 hw)) Via.refl rfl f7 (g := (mkF m 8 #[vr o0] [(.ref o0), (.ref b1)])) rfl rfl (hb hby d243)
  have f12 := (kExa K3 A1)
  have f13 := (kExa K3 (kExa K1 E_o_6))
  have lt_o_6 : o_6 < h0.size := Exa.lt E_o_6
  have f14 := (kFld K3 (kFld K1 F_o_6_value nw0) (nwS (Or.inl (lt_ne lt_o_6 ge_b1)) (nwS (Or.inl (lt_ne lt_o_6 ge_b1)) nw0)))
  have lt_o_9 : o_9 < h0.size := Arv.lt V_o_9
  have f15 := (kArv K3 (kArv K1 V_o_9 na0) (naN (Ne.symm (lt_ne lt_o_9 ge_b1)) (naN (Ne.symm (lt_ne lt_o_9 ge_b1)) na0)))
  have f16 := (kFld K3 (kFld K1 F_o_6_coder nw0) (nwS (Or.inl (lt_ne lt_o_6 ge_b1)) (nwS (Or.inl (lt_ne lt_o_6 ge_b1)) nw0)))
  have f17 := (kFld K3 F_b1_count (nwS (Or.inr (sn_7 hw)) (nwS (Or.inr (sn_6 hw)) nw0)))
  have f18 := (kOld K3 f4 (naS (P := fun w => n0 ≤ w.1) (Nat.le_trans Z0 ge_b1) (naS (P := fun w => n0 ≤ w.1) (Nat.le_trans Z0 ge_b1) na0)))
  have lt_b1 : b1 < h1.size := Exa.lt A1
  have sz_0_2 := (Nat.le_trans K1.1 K3.1)
  obtain ⟨_, T11, L11, X11, hQ11, st11⟩ := own_virtual X8 hx hZ hown (w128 hw) (w129 hw) (nfS hZ (w131 hw)) (w131 hw) (w130 hw) (w112 hw) (w132 hw) (by decide) (r23_append l Z a0 hw [] b1 o_6 o_9 i_10 k_o_9 i_2 b4_2_3 k4_2_3 T3.heap n0 (Nat.le_trans Z0 sz_0_2) f12 f13 f14 f15 sCS f16 f17 Q3_1 Q3_3 Q3_2 f18 hp0 (Nat.le_trans Z0 (Nat.le_trans K1.1 Q3_0)) (lt_ne lt_b1 Q3_0) (Nat.le_trans Z0 ge_b1)) e8 f12 (W := 0) (by decide) (g := (mkF m 11 #[vr o0] [(.ref o_6), (.ref b1)])) rfl hml.symm (argsL := [(.ref o_6)]) (rest := []) (lenOf pd_21 rfl) rfl rfl (own_wr rfl rfl) (hb hby d244)
  obtain ⟨rfl, N11q, K11, Q11_0, Q11_1⟩ := hQ11
  have N11 := Fr.app N3 N11q
  have Ck2 := own_chK K11 (naFM 16 rfl (Ck1.2 _ (Safe.new Q3_0)) (naF (Safe.exa hZ.alike f12 (by decide) (by decide)) na0)) Ah2.1
  have Ah3 := Ah2.trans Ck2.1
  have sz_0_3 := (Nat.le_trans sz_0_2 K11.1)
  obtain ⟨c19, T19, h19, k19, b19, kb19, X19, e19, E19, hS19, hk19, hZ19, hown19, Ex19, Fc19, Fv19, Ar19, lta19, ltb19, hC19, Lt19, hne19, st19⟩ := ldcCH X11 hx hZ hown (w166 hw) (own_wS hw) rfl hS0 (Nat.le_trans hk0 sz_0_3) (own_EW hw) (by decide) Ah3.1 (vs := [(.int 58)]) (z := 1) ⟨by decide, rfl⟩ (by decide) rfl (g := (mkF m 14 #[vr o0] [(.ref b1)])) rfl (hb hby d323) (n := 4) (by decide) (by decide) (by decide) (by decide)
  have K19 := KL.ofE E19
  have Ah4 := Ah3.trans hC19
  have f21 := (kExa K19 (kExa K11 f12))
  have f22 := (kFld K19 Q11_1 nw0)
  have f23 := (kFld K19 (kFld K11 Q3_1 (nwM 16 rfl (lt_ne lt_b1 Q3_0) (nwS (Or.inr (sn_8 hw)) nw0))) nw0)
  have f24 := (kArv K19 Q11_0 na0)
  have f25 := (kFld K19 (kFld K11 Q3_2 (nwM 16 rfl (lt_ne lt_b1 Q3_0) (nwS (Or.inr (sn_9 hw)) nw0))) nw0)
  have f26 := (kOld K19 (kOld K11 f18 (naGM 16 rfl (Nat.le_trans Z0 (Nat.le_trans K1.1 Q3_0)) (naS (P := fun w => n0 ≤ w.1) (Nat.le_trans Z0 ge_b1) na0))) na0)
  have sz_0_4 := (Nat.le_trans sz_0_3 K19.1)
  obtain ⟨_, T20, L20, X20, hQ20, st20⟩ := own_virtual X19 hx hZ19 hown19 (w128 hw) (w129 hw) (nfS hZ19 (w131 hw)) (w131 hw) (w130 hw) (w112 hw) (w132 hw) (by decide) (r29_append l Z a0 hw [] b1 c19 b19 (58 : Int32) kb19 i_2 b4_2_3 i_10 k4_2_3 h19 n0 (Nat.le_trans Z0 sz_0_4) f21 Ex19 Fv19 Ar19 sCS Fc19 f22 f23 f24 f25 f26 hp0 (Nat.le_trans Z0 (Nat.le_trans K1.1 Q3_0)) (lt_ne lt_b1 Q3_0) (Nat.le_trans Z0 ge_b1)) e19 f21 (W := 0) (by decide) (g := (mkF m 16 #[vr o0] [(.ref c19), (.ref b1)])) rfl hml.symm (argsL := [(.ref c19)]) (rest := []) (lenOf pd_21 rfl) rfl rfl (own_wr rfl rfl) (hb hby d324)
  obtain ⟨rfl, N20q, K20, Q20_0, Q20_1⟩ := hQ20
  have N20 := Fr.app N11 N20q
  have lt_b4_2_3 : b4_2_3 < T3.heap.size := Arv.lt Q3_3
  have Ck4 := own_chK K20 (naFM 16 rfl (CHr.safe hC19 (Nat.lt_of_lt_of_le lt_b4_2_3 K11.1) (Ck2.2 _ (Ck1.2 _ (Safe.new Q3_0)))) (naF (Safe.exa hZ19.alike f21 (by decide) (by decide)) na0)) Ah4.1
  have Ah5 := Ah4.trans Ck4.1
  have f28 := (kFld K20 (kFld K19 (kFld K11 (kFld K3 (kFld K1 F_o0_id nw0) (nwS (Or.inl (lt_ne lt_o0 ge_b1)) (nwS (Or.inl (lt_ne lt_o0 ge_b1)) nw0))) (nwM 16 rfl (lt_ne (Nat.lt_of_lt_of_le lt_o0 K1.1) Q3_0) (nwS (Or.inl (lt_ne lt_o0 ge_b1)) nw0))) nw0) (nwM 16 rfl (lt_ne (Nat.lt_of_lt_of_le lt_o0 K1.1) Q3_0) (nwS (Or.inl (lt_ne lt_o0 ge_b1)) nw0)))
  obtain ⟨T29, X29, e29, st29⟩ := getF X20 hx hZ19 hown19 (host := "") (Or.inl (w103 hw)) Via.refl rfl f28 (g := (mkF m 20 #[vr o0] [(.ref o0), (.ref b1)])) rfl rfl (hb hby d326)
  have f33 := (kExa K20 f21)
  have f34 := (kExa K20 (kExa K19 (kExa K11 (kExa K3 (kExa K1 E_o_27)))))
  have lt_o_27 : o_27 < h0.size := Exa.lt E_o_27
  have f35 := (kFld K20 (kFld K19 (kFld K11 (kFld K3 (kFld K1 F_o_27_value nw0) (nwS (Or.inl (lt_ne lt_o_27 ge_b1)) (nwS (Or.inl (lt_ne lt_o_27 ge_b1)) nw0))) (nwM 16 rfl (lt_ne (Nat.lt_of_lt_of_le lt_o_27 K1.1) Q3_0) (nwS (Or.inl (lt_ne lt_o_27 ge_b1)) nw0))) nw0) (nwM 16 rfl (lt_ne (Nat.lt_of_lt_of_le lt_o_27 K1.1) Q3_0) (nwS (Or.inl (lt_ne lt_o_27 ge_b1)) nw0)))
  have lt_o_30 : o_30 < h0.size := Arv.lt V_o_30
  have f36 := (kArv K20 (kArv K19 (kArv K11 (kArv K3 (kArv K1 V_o_30 na0) (naN (Ne.symm (lt_ne lt_o_30 ge_b1)) (naN (Ne.symm (lt_ne lt_o_30 ge_b1)) na0))) (naNM 16 rfl (Ne.symm (lt_ne (Nat.lt_of_lt_of_le lt_o_30 K1.1) Q3_0)) (naN (Ne.symm (lt_ne lt_o_30 ge_b1)) na0))) na0) (naNM 16 rfl (Ne.symm (lt_ne (Nat.lt_of_lt_of_le lt_o_30 K1.1) Q3_0)) (naN (Ne.symm (lt_ne lt_o_30 ge_b1)) na0)))
  have f37 := (kFld K20 (kFld K19 (kFld K11 (kFld K3 (kFld K1 F_o_27_coder nw0) (nwS (Or.inl (lt_ne lt_o_27 ge_b1)) (nwS (Or.inl (lt_ne lt_o_27 ge_b1)) nw0))) (nwM 16 rfl (lt_ne (Nat.lt_of_lt_of_le lt_o_27 K1.1) Q3_0) (nwS (Or.inl (lt_ne lt_o_27 ge_b1)) nw0))) nw0) (nwM 16 rfl (lt_ne (Nat.lt_of_lt_of_le lt_o_27 K1.1) Q3_0) (nwS (Or.inl (lt_ne lt_o_27 ge_b1)) nw0)))
  have f38 := (kFld K20 f23 (nwM 16 rfl (lt_ne lt_b1 Q3_0) (nwS (Or.inr (sn_8 hw)) nw0)))
  have f39 := (kFld K20 f25 (nwM 16 rfl (lt_ne lt_b1 Q3_0) (nwS (Or.inr (sn_9 hw)) nw0)))
  have f40 := (kOld K20 f26 (naGM 16 rfl (Nat.le_trans Z0 (Nat.le_trans K1.1 Q3_0)) (naS (P := fun w => n0 ≤ w.1) (Nat.le_trans Z0 ge_b1) na0)))
  have sz_0_5 := (Nat.le_trans sz_0_4 K20.1)
  obtain ⟨_, T32, L32, X32, hQ32, st32⟩ := own_virtual X29 hx hZ19 hown19 (w128 hw) (w129 hw) (nfS hZ19 (w131 hw)) (w131 hw) (w130 hw) (w112 hw) (w132 hw) (by decide) (r34_append l Z a0 hw [] b1 o_27 o_30 i_31 k_o_30 i_2 b4_2_3 i_10 (58 : Int32) k4_2_3 T20.heap n0 (Nat.le_trans Z0 sz_0_5) f33 f34 f35 f36 sCS f37 Q20_1 f38 Q20_0 f39 f40 hp0 (Nat.le_trans Z0 (Nat.le_trans K1.1 Q3_0)) (lt_ne lt_b1 Q3_0) (Nat.le_trans Z0 ge_b1)) e29 f33 (W := 0) (by decide) (g := (mkF m 23 #[vr o0] [(.ref o_27), (.ref b1)])) rfl hml.symm (argsL := [(.ref o_27)]) (rest := []) (lenOf pd_21 rfl) rfl rfl (own_wr rfl rfl) (hb hby d327)
  obtain ⟨rfl, N32q, K32, Q32_0, Q32_1⟩ := hQ32
  have N32 := Fr.app N20 N32q
  have Ck5 := own_chK K32 (naFM 16 rfl (Ck4.2 _ (CHr.safe hC19 (Nat.lt_of_lt_of_le lt_b4_2_3 K11.1) (Ck2.2 _ (Ck1.2 _ (Safe.new Q3_0))))) (naF (Safe.exa hZ19.alike f33 (by decide) (by decide)) na0)) Ah5.1
  have Ah6 := Ah5.trans Ck5.1
  have f42 := (kExa K32 f33)
  have f43 := (kFld K32 f38 (nwM 16 rfl (lt_ne lt_b1 Q3_0) (nwS (Or.inr (sn_8 hw)) nw0)))
  have f44 := (kFld K32 f39 (nwM 16 rfl (lt_ne lt_b1 Q3_0) (nwS (Or.inr (sn_9 hw)) nw0)))
  have f45 := (kOld K32 f40 (naGM 16 rfl (Nat.le_trans Z0 (Nat.le_trans K1.1 Q3_0)) (naS (P := fun w => n0 ≤ w.1) (Nat.le_trans Z0 ge_b1) na0)))
  have sz_0_6 := (Nat.le_trans sz_0_5 K32.1)
  obtain ⟨_, T41, L41, X41, hQ41, st41⟩ := own_virtual X32 hx hZ19 hown19 (w167 hw) (w168 hw) (nfS hZ19 (w170 hw)) (w170 hw) (w169 hw) (w112 hw) (w171 hw) (by decide) (r39_toString l Z a0 hw [] b1 b4_2_3 i_2 i_10 (58 : Int32) i_31 k4_2_3 T32.heap n0 (Nat.le_trans Z0 sz_0_6) f42 f43 Q32_1 sCS f44 Q32_0 f45 hp0) rfl f42 (W := 0) (by decide) (g := (mkF m 26 #[vr o0] [(.ref b1)])) rfl hml.symm (argsL := []) (rest := []) (lenOf pd_27 rfl) rfl rfl (own_wr rfl rfl) (hb hby d328)
  obtain ⟨b1_41, b2_4_11_6_7_41, k2_4_11_6_7_41, rfl, N41q, K41, Q41_0, Q41_1, Q41_2, Q41_3, Q41_4, Q41_5, Q41_6⟩ := hQ41
  have N41 := Fr.app N32 N41q
  have Ck6 := own_chK K41 na0 Ah6.1
  have Ah7 := Ah6.trans Ck6.1
  have C0 := (KL.refl h0 []).trans K1 na0
  have C1 := C0.trans K3 (naO (Or.inr ge_b1) (naO (Or.inr ge_b1) na0))
  have C2 := C1.trans K11 (naOM 16 rfl (Nat.le_trans K1.1 Q3_0) (naO (Or.inr ge_b1) na0))
  have C3 := C2.trans K19 na0
  have C4 := C3.trans K20 (naOM 16 rfl (Nat.le_trans K1.1 Q3_0) (naO (Or.inr ge_b1) na0))
  have C5 := C4.trans K32 (naOM 16 rfl (Nat.le_trans K1.1 Q3_0) (naO (Or.inr ge_b1) na0))
  have C6 := C5.trans K41 na0
  have sz_4_6 := (Nat.le_trans K20.1 K32.1)
  have sz_4_7 := (Nat.le_trans sz_4_6 K41.1)
  refine ⟨T41, _, some (.ref b1_41), _, _, X41, hS19, (by rw [show T41.heap = T41.heap from rfl]; exact (Nat.le_trans hk19 sz_4_7)), (fun h => by cases h <;> rfl), ?_, Ah7, hZ19, fun fs hr => ?_⟩
  · show Q_r20_toString Z o0 i_2 o_6 o_9 i_10 k_o_9 o_27 o_30 i_31 k_o_30 h0 n0 _ T41.heap _
    exact ⟨b1_41, b2_4_11_6_7_41, k2_4_11_6_7_41, rfl, N41, C6, (Nat.le_trans sz_0_6 Q41_0), (Nat.le_trans sz_0_6 Q41_1), Q41_2, Q41_3, Q41_4, Q41_5, Q41_6⟩
  · refine st1 _ ?_
    refine t_dup 4 X1.here hx (hb hby d223) rfl rfl ?_
    refine st3 _ ?_
    refine t_aloadN 8 X3.here hx (hb hby d242) rfl rfl rfl ?_
    refine st8 _ ?_
    refine st11 _ ?_
    refine st19 _ ?_
    refine st20 _ ?_
    refine t_aloadN 20 X20.here hx (hb hby d325) rfl rfl rfl ?_
    refine st29 _ ?_
    refine st32 _ ?_
    refine st41 _ ?_
    jvm_step X41.here [X41.here.top, hx, (hb hby d417), X41.method', hret, Value.isRef, FieldType.isReference]
    first | (intro acts; rw [hr _ acts rfl rfl rfl]) | rw [hr _ _ rfl rfl rfl]
    exact Steps.refl _
def w109 (hw : HW Z a0) := ow 109 hw rfl
def w106 (hw : HW Z a0) := ow 106 hw rfl
def w107 (hw : HW Z a0) := ow 107 hw rfl
def WS_r53_compress (Z : State) (o2 : Addr) : List (Addr × Nat) := [(o2, (0 : Int32).toNatClampNeg), (o2, (1 : Int32).toNatClampNeg), (o2, (2 : Int32).toNatClampNeg)]
def Q_r53_compress (Z : State) (o0 o2 : Addr) (i_1 i_2 i_3 : Int32) (k_o0 k_o2 : ClassId) (h0 : Heap) (n0 : Nat) (v : Option Value) (h : Heap) (L : List Loc) : Prop := v = some (.int 3) ∧ Fr n0 L ∧ KL h0 h (WS_r53_compress Z o2) ∧ Arv Z h o2 k_o2 .byte 3 [(.int (i_1.toInt8.toInt32)), (.int (i_2.toInt8.toInt32)), (.int (i_3.toInt8.toInt32))] z0
theorem ef_r53_compress (o0 o2 : Addr) (m : MethodId) : entryFrame m #[(.ref o0), (.int 0), (.ref o2), (.int 0), (.int 3)] 7 = mkF m 0 #[.val (.ref o0), .val (.int 0), .val (.ref o2), .val (.int 0), .val (.int 3), .unset, .unset] [] := by first | (simp [entryFrame, mkF, argsToLocals, Value.category]; done) | rfl
set_option maxRecDepth 65536 in
set_option maxHeartbeats 40000000 in
theorem r53_compress (l : Launch) (Z : State) (a0 : Array Value) (hw : HW Z a0) (ws : List Jvm.Cond) (o0 o2 : Addr) (i_1 i_2 i_3 : Int32) (k_o0 k_o2 : ClassId) (h0 : Heap) (n0 : Nat) (Z0 : n0 ≤ h0.size) (V_o0 : Arv Z h0 o0 k_o0 .char 3 [(.int i_1), (.int i_2), (.int i_3)] z0) (hp0 : ¬ ((255 : Int32) < i_1)) (V_o2 : Arv Z h0 o2 k_o2 .byte 3 [z0, z0, z0] z0) (g_o2 : n0 ≤ o2) (ne_o0_o2 : o0 ≠ o2) (hp1 : ¬ ((255 : Int32) < i_2)) (hp2 : ¬ ((255 : Int32) < i_3)) :
    MF l Z y1_compress b4_ 7 (some .int) ws ⟨0, 0, 0, 0⟩ #[(.ref o0), z0, (.ref o2), z0, (.int 3)] h0 (Q_r53_compress Z o0 o2 i_1 i_2 i_3 k_o0 k_o2 h0 n0) := by
  refine own_body (plainFor_of_name pn_StringUTF16906) (ef_r53_compress o0 o2) (by decide) (by decide) ?_
  intro p e s m below meth c s₁ hx hby hml hown hnm hret hZ hh e0 X0
  have N0 := Fr.nil n0
  obtain ⟨T4, h4, X4, e4, W4, V4, st4⟩ := own_astB X0 hx hZ e0 V_o2 (j := 0) (by decide) 0 rfl (Nat.le_of_ble_eq_true rfl) (g := (mkF m 31 #[vr o0, vi 0, vr o2, vi 0, vi 3, vi 0, vi i_1] [(.int (i_1.toInt8.toInt32)), z0, (.ref o2)])) rfl rfl (hb hby d54)
  rw [show (nar .byte (i_1.toInt8.toInt32)) = (i_1.toInt8.toInt32) from (own_narb _)] at V4
  have K4 := KL.ofW W4
  replace V4 : Arv Z h4 o2 k_o2 .byte 3 [(.int (i_1.toInt8.toInt32)), z0, z0] z0 := V4
  have N4 := Fr.snoc X4 N0 g_o2
  have f5 := (kArv K4 V_o0 (naN (Ne.symm ne_o0_o2) na0))
  obtain ⟨T6, h6, X6, e6, W6, V6, st6⟩ := own_astB X4 hx hZ e4 V4 (j := 1) (by decide) 1 rfl (Nat.le_of_ble_eq_true rfl) (g := (mkF m 31 #[vr o0, vi 1, vr o2, vi 1, vi 3, vi 1, vi i_2] [(.int (i_2.toInt8.toInt32)), (.int 1), (.ref o2)])) rfl rfl (hb hby d54)
  rw [show (nar .byte (i_2.toInt8.toInt32)) = (i_2.toInt8.toInt32) from (own_narb _)] at V6
  have K6 := KL.ofW W6
  replace V6 : Arv Z h6 o2 k_o2 .byte 3 [(.int (i_1.toInt8.toInt32)), (.int (i_2.toInt8.toInt32)), z0] z0 := V6
  have N6 := Fr.snoc X6 N4 g_o2
  have f7 := (kArv K6 f5 (naN (Ne.symm ne_o0_o2) na0))
  obtain ⟨T8, h8, X8, e8, W8, V8, st8⟩ := own_astB X6 hx hZ e6 V6 (j := 2) (by decide) 2 rfl (Nat.le_of_ble_eq_true rfl) (g := (mkF m 31 #[vr o0, vi 2, vr o2, vi 2, vi 3, vi 2, vi i_3] [(.int (i_3.toInt8.toInt32)), (.int 2), (.ref o2)])) rfl rfl (hb hby d54)
  rw [show (nar .byte (i_3.toInt8.toInt32)) = (i_3.toInt8.toInt32) from (own_narb _)] at V8
  have K8 := KL.ofW W8
  replace V8 : Arv Z h8 o2 k_o2 .byte 3 [(.int (i_1.toInt8.toInt32)), (.int (i_2.toInt8.toInt32)), (.int (i_3.toInt8.toInt32))] z0 := V8
  have N8 := Fr.snoc X8 N6 g_o2
  have C0 := (KL.refl h0 (WS_r53_compress Z o2)).trans K4 (naO (own_mi 0 rfl) na0)
  have C1 := C0.trans K6 (naO (own_mi 1 rfl) na0)
  have C2 := C1.trans K8 (naO (own_mi 2 rfl) na0)
  refine ⟨T8, _, some (.int 3), X8, (fun h => by cases h <;> rfl), ?_, fun fs hr => ?_⟩
  · show Q_r53_compress Z o0 o2 i_1 i_2 i_3 k_o0 k_o2 h0 n0 _ T8.heap _
    rw [e8]
    exact ⟨rfl, N8, C2, V8⟩
  · refine t_iconst 1 (r := 0) X0.here hx (hb hby d38) (by decide) rfl ?_
    refine t_istore (pc' := 3) (L' := #[vr o0, vi 0, vr o2, vi 0, vi 3, vi 0, .unset]) X0.here hx (hb hby d39) rfl rfl ?_
    refine t_iload 5 X0.here hx (hb hby d40) rfl rfl ?_
    refine t_iload 7 X0.here hx (hb hby d41) rfl rfl ?_
    refine t_icmpNo 10 X0.here hx (hb hby d42) (by decide) rfl ?_
    refine t_aloadN 11 X0.here hx (hb hby d43) rfl rfl rfl ?_
    refine t_iloadN 12 X0.here hx (hb hby d44) rfl rfl ?_
    refine own_aldC (pc' := 13) X0 hx hZ e0 V_o0 (j := 0) (v := (.int i_1)) (by decide) rfl (hb hby d45) rfl ?_
    refine t_istore (pc' := 15) (L' := #[vr o0, vi 0, vr o2, vi 0, vi 3, vi 0, vi i_1]) X0.here hx (hb hby d46) rfl rfl ?_
    refine t_iload 17 X0.here hx (hb hby d47) rfl rfl ?_
    refine t_sipush 20 (r := 255) X0.here hx (hb hby d48) (by decide) rfl ?_
    refine t_icmpYes (pc := 20) 26 X0.here hx (hb hby d49) (flt hp0).2.2.2 (by decide) (by decide) ?_
    refine t_aloadN 27 X0.here hx (hb hby d50) rfl rfl rfl ?_
    refine t_iloadN 28 X0.here hx (hb hby d51) rfl rfl ?_
    refine t_iload 30 X0.here hx (hb hby d52) rfl rfl ?_
    refine t_i2b 31 X0.here hx (hb hby d53) rfl rfl ?_
    refine st4 _ ?_
    refine t_iinc (pc' := 35) (L' := #[vr o0, vi 1, vr o2, vi 0, vi 3, vi 0, vi i_1]) X4.here hx (hb hby d55) rfl (by first | rfl | decide) rfl ?_
    refine t_iinc (pc' := 38) (L' := #[vr o0, vi 1, vr o2, vi 1, vi 3, vi 0, vi i_1]) X4.here hx (hb hby d56) rfl (by first | rfl | decide) rfl ?_
    refine t_iinc (pc' := 41) (L' := #[vr o0, vi 1, vr o2, vi 1, vi 3, vi 1, vi i_1]) X4.here hx (hb hby d57) rfl (by first | rfl | decide) rfl ?_
    refine t_goto (pc := 41) 3 X4.here hx (hb hby d58) (by decide) (by decide) ?_
    refine t_iload 5 X4.here hx (hb hby d40) rfl rfl ?_
    refine t_iload 7 X4.here hx (hb hby d41) rfl rfl ?_
    refine t_icmpNo 10 X4.here hx (hb hby d42) (by decide) rfl ?_
    refine t_aloadN 11 X4.here hx (hb hby d43) rfl rfl rfl ?_
    refine t_iloadN 12 X4.here hx (hb hby d44) rfl rfl ?_
    refine own_aldC (pc' := 13) X4 hx hZ e4 f5 (j := 1) (v := (.int i_2)) (by decide) rfl (hb hby d45) rfl ?_
    refine t_istore (pc' := 15) (L' := #[vr o0, vi 1, vr o2, vi 1, vi 3, vi 1, vi i_2]) X4.here hx (hb hby d46) rfl rfl ?_
    refine t_iload 17 X4.here hx (hb hby d47) rfl rfl ?_
    refine t_sipush 20 (r := 255) X4.here hx (hb hby d48) (by decide) rfl ?_
    refine t_icmpYes (pc := 20) 26 X4.here hx (hb hby d49) (flt hp1).2.2.2 (by decide) (by decide) ?_
    refine t_aloadN 27 X4.here hx (hb hby d50) rfl rfl rfl ?_
    refine t_iloadN 28 X4.here hx (hb hby d51) rfl rfl ?_
    refine t_iload 30 X4.here hx (hb hby d52) rfl rfl ?_
    refine t_i2b 31 X4.here hx (hb hby d53) rfl rfl ?_
    refine st6 _ ?_
    refine t_iinc (pc' := 35) (L' := #[vr o0, vi 2, vr o2, vi 1, vi 3, vi 1, vi i_2]) X6.here hx (hb hby d55) rfl (by first | rfl | decide) rfl ?_
    refine t_iinc (pc' := 38) (L' := #[vr o0, vi 2, vr o2, vi 2, vi 3, vi 1, vi i_2]) X6.here hx (hb hby d56) rfl (by first | rfl | decide) rfl ?_
    refine t_iinc (pc' := 41) (L' := #[vr o0, vi 2, vr o2, vi 2, vi 3, vi 2, vi i_2]) X6.here hx (hb hby d57) rfl (by first | rfl | decide) rfl ?_
    refine t_goto (pc := 41) 3 X6.here hx (hb hby d58) (by decide) (by decide) ?_
    refine t_iload 5 X6.here hx (hb hby d40) rfl rfl ?_
    refine t_iload 7 X6.here hx (hb hby d41) rfl rfl ?_
    refine t_icmpNo 10 X6.here hx (hb hby d42) (by decide) rfl ?_
    refine t_aloadN 11 X6.here hx (hb hby d43) rfl rfl rfl ?_
    refine t_iloadN 12 X6.here hx (hb hby d44) rfl rfl ?_
    refine own_aldC (pc' := 13) X6 hx hZ e6 f7 (j := 2) (v := (.int i_3)) (by decide) rfl (hb hby d45) rfl ?_
    refine t_istore (pc' := 15) (L' := #[vr o0, vi 2, vr o2, vi 2, vi 3, vi 2, vi i_3]) X6.here hx (hb hby d46) rfl rfl ?_
    refine t_iload 17 X6.here hx (hb hby d47) rfl rfl ?_
    refine t_sipush 20 (r := 255) X6.here hx (hb hby d48) (by decide) rfl ?_
    refine t_icmpYes (pc := 20) 26 X6.here hx (hb hby d49) (flt hp2).2.2.2 (by decide) (by decide) ?_
    refine t_aloadN 27 X6.here hx (hb hby d50) rfl rfl rfl ?_
    refine t_iloadN 28 X6.here hx (hb hby d51) rfl rfl ?_
    refine t_iload 30 X6.here hx (hb hby d52) rfl rfl ?_
    refine t_i2b 31 X6.here hx (hb hby d53) rfl rfl ?_
    refine st8 _ ?_
    refine t_iinc (pc' := 35) (L' := #[vr o0, vi 3, vr o2, vi 2, vi 3, vi 2, vi i_3]) X8.here hx (hb hby d55) rfl (by first | rfl | decide) rfl ?_
    refine t_iinc (pc' := 38) (L' := #[vr o0, vi 3, vr o2, vi 3, vi 3, vi 2, vi i_3]) X8.here hx (hb hby d56) rfl (by first | rfl | decide) rfl ?_
    refine t_iinc (pc' := 41) (L' := #[vr o0, vi 3, vr o2, vi 3, vi 3, vi 3, vi i_3]) X8.here hx (hb hby d57) rfl (by first | rfl | decide) rfl ?_
    refine t_goto (pc := 41) 3 X8.here hx (hb hby d58) (by decide) (by decide) ?_
    refine t_iload 5 X8.here hx (hb hby d40) rfl rfl ?_
    refine t_iload 7 X8.here hx (hb hby d41) rfl rfl ?_
    refine t_icmpYes (pc := 7) 44 X8.here hx (hb hby d42) (by decide) (by decide) (by decide) ?_
    refine t_iload 46 X8.here hx (hb hby d59) rfl rfl ?_
    exact retI X8 hx hret (hb hby d60) hr
def Q_r52_compress (Z : State) (o0 : Addr) (i_2 i_3 i_4 : Int32) (k_o0 : ClassId) (h0 : Heap) (n0 : Nat) (v : Option Value) (h : Heap) (L : List Loc) : Prop := ∃ b1 : Addr, ∃ k1 : ClassId, v = some (.ref b1) ∧ Fr n0 L ∧ KL h0 h [] ∧ h0.size ≤ b1 ∧ Arv Z h b1 k1 .byte 3 [(.int (i_2.toInt8.toInt32)), (.int (i_3.toInt8.toInt32)), (.int (i_4.toInt8.toInt32))] z0
theorem ef_r52_compress (o0 : Addr) (m : MethodId) : entryFrame m #[(.ref o0), (.int 0), (.int 3)] 6 = mkF m 0 #[.val (.ref o0), .val (.int 0), .val (.int 3), .unset, .unset, .unset] [] := by first | (simp [entryFrame, mkF, argsToLocals, Value.category]; done) | rfl
set_option maxRecDepth 65536 in
set_option maxHeartbeats 40000000 in
theorem r52_compress (l : Launch) (Z : State) (a0 : Array Value) (hw : HW Z a0) (ws : List Jvm.Cond) (o0 : Addr) (i_2 i_3 i_4 : Int32) (k_o0 : ClassId) (h0 : Heap) (n0 : Nat) (Z0 : n0 ≤ h0.size) (V_o0 : Arv Z h0 o0 k_o0 .char 3 [(.int i_2), (.int i_3), (.int i_4)] z0) (hp0 : ¬ ((255 : Int32) < i_2)) (hp1 : ¬ ((255 : Int32) < i_3)) (hp2 : ¬ ((255 : Int32) < i_4)) :
    MF l Z y2_compress b3_ 6 (some (.array .byte)) ws ⟨1, 1, 3, 18⟩ #[(.ref o0), z0, (.int 3)] h0 (Q_r52_compress Z o0 i_2 i_3 i_4 k_o0 h0 n0) := by
  refine own_body (plainFor_of_name pn_StringUTF16906) (ef_r52_compress o0) (by decide) (by decide) ?_
  intro p e s m below meth c s₁ hx hby hml hown hnm hret hZ hh e0 X0
  have N0 := Fr.nil n0
  obtain ⟨T1, h1, k1, X1, e1, E1, A1, st1⟩ := newP (aty := .byte) X0 hx hZ (w23 hw) e0 (g := (mkF m 1 #[vr o0, vi 0, vi 3, .unset, .unset, .unset] [(.int 3)])) rfl (hb hby d30) rfl (by decide) (cap := 3) (by decide) (by decide) (by decide) (by decide)
  obtain ⟨b1, g1⟩ : ∃ z, z = h0.size := ⟨_, rfl⟩
  rw [← g1] at A1 st1
  have ge_b1 : h0.size ≤ b1 := Nat.le_of_eq g1.symm
  have K1 := KL.ofE E1
  have V1 : Arv Z h1 b1 k1 .byte 3 [z0, z0, z0] z0 := (Arv.new A1 (by decide)).pad (pad_rep [] z0 3)
  have f6 := (kArv K1 V_o0 na0)
  have lt_o0 : o0 < h0.size := Arv.lt V_o0
  obtain ⟨_, T5, L5, X5, hQ5, st5⟩ := own_static X1 hx hZ hown (w24 hw) (w25 hw) (w21 hw) (w26 hw) (by decide) (r53_compress l Z a0 hw [] o0 b1 i_2 i_3 i_4 k_o0 k1 h1 n0 (Nat.le_trans Z0 K1.1) f6 hp0 V1 (Nat.le_trans Z0 ge_b1) (lt_ne lt_o0 ge_b1) hp1 hp2) e1 (W := 0) (by decide) (g := (mkF m 9 #[vr o0, vi 0, vi 3, vr b1, .unset, .unset] [(.int 3), z0, (.ref b1), z0, (.ref o0)])) rfl hml.symm (argsL := [(.ref o0), z0, (.ref b1), z0, (.int 3)]) (rest := []) (lenOf pd_1 rfl) rfl rfl (own_wr rfl rfl) (hb hby d37)
  obtain ⟨rfl, N5q, K5, Q5_0⟩ := hQ5
  have N5 := Fr.app N0 N5q
  have C0 := (KL.refl h0 []).trans K1 na0
  have C1 := C0.trans K5 (naOM 3 rfl ge_b1 na0)
  refine ⟨T5, _, some (.ref b1), X5, (fun h => by cases h <;> rfl), ?_, fun fs hr => ?_⟩
  · show Q_r52_compress Z o0 i_2 i_3 i_4 k_o0 h0 n0 _ T5.heap _
    exact ⟨b1, k1, rfl, N5, C1, ge_b1, Q5_0⟩
  · refine t_iloadN 1 X0.here hx (hb hby d29) rfl rfl ?_
    refine st1 _ ?_
    refine t_astoreN (pc' := 4) (L' := #[vr o0, vi 0, vi 3, vr b1, .unset, .unset]) X1.here hx (hb hby d31) rfl rfl rfl ?_
    refine t_aloadN 5 X1.here hx (hb hby d32) rfl rfl rfl ?_
    refine t_iloadN 6 X1.here hx (hb hby d33) rfl rfl ?_
    refine t_aloadN 7 X1.here hx (hb hby d34) rfl rfl rfl ?_
    refine t_iconst 8 (r := 0) X1.here hx (hb hby d35) (by decide) rfl ?_
    refine t_iloadN 9 X1.here hx (hb hby d36) rfl rfl ?_
    refine st5 _ ?_
    refine t_istore (pc' := 14) (L' := #[vr o0, vi 0, vi 3, vr b1, vi 3, .unset]) X5.here hx (hb hby d61) rfl rfl ?_
    refine t_iload 16 X5.here hx (hb hby d62) rfl rfl ?_
    refine t_iloadN 17 X5.here hx (hb hby d63) rfl rfl ?_
    refine t_icmpYes (pc := 17) 57 X5.here hx (hb hby d64) (by decide) (by decide) (by decide) ?_
    refine t_aloadN 58 X5.here hx (hb hby d65) rfl rfl rfl ?_
    jvm_step X5.here [X5.here.top, hx, (hb hby d66), X5.method', hret, Value.isRef, FieldType.isReference]
    first | (intro acts; rw [hr _ acts rfl rfl rfl]) | rw [hr _ _ rfl rfl rfl]
    exact Steps.refl _
def Q_r54_coderFromArrayLen (Z : State) (o0 : Addr) (i_1 i_2 i_3 : Int32) (k_o0 : ClassId) (h0 : Heap) (n0 : Nat) (v : Option Value) (h : Heap) (L : List Loc) : Prop := v = some z0 ∧ Fr n0 L ∧ h = h0
theorem ef_r54_coderFromArrayLen (o0 : Addr) (m : MethodId) : entryFrame m #[(.ref o0), (.int 3)] 2 = mkF m 0 #[.val (.ref o0), .val (.int 3)] [] := by first | (simp [entryFrame, mkF, argsToLocals, Value.category]; done) | rfl
set_option maxRecDepth 65536 in
set_option maxHeartbeats 40000000 in
theorem r54_coderFromArrayLen (l : Launch) (Z : State) (a0 : Array Value) (hw : HW Z a0) (ws : List Jvm.Cond) (o0 : Addr) (i_1 i_2 i_3 : Int32) (k_o0 : ClassId) (h0 : Heap) (n0 : Nat) (Z0 : n0 ≤ h0.size) (V_o0 : Arv Z h0 o0 k_o0 .byte 3 [(.int i_1), (.int i_2), (.int i_3)] z0) :
    MF l Z y3_coderFromArrayLen b5_ 2 (some .byte) ws ⟨0, 0, 0, 0⟩ #[(.ref o0), (.int 3)] h0 (Q_r54_coderFromArrayLen Z o0 i_1 i_2 i_3 k_o0 h0 n0) := by
  refine own_body (plainFor_of_name pn_StringUTF16906) (ef_r54_coderFromArrayLen o0) (by decide) (by decide) ?_
  intro p e s m below meth c s₁ hx hby hml hown hnm hret hZ hh e0 X0
  have N0 := Fr.nil n0
  refine ⟨s₁, _, some z0, X0, (fun h => by cases h <;> rfl), ?_, fun fs hr => ?_⟩
  · show Q_r54_coderFromArrayLen Z o0 i_1 i_2 i_3 k_o0 h0 n0 _ s₁.heap _
    rw [e0]
    exact ⟨rfl, N0, rfl⟩
  · refine t_iloadN 1 X0.here hx (hb hby d72) rfl rfl ?_
    refine t_aloadN 2 X0.here hx (hb hby d73) rfl rfl rfl ?_
    refine own_arlen (pc' := 3) X0 hx hZ e0 V_o0 (hb hby d74) rfl ?_
    refine t_isub 4 (r := 0) X0.here hx (hb hby d75) (by decide : ((3 : Int32) - (3 : Int32)) = (0 : Int32)) rfl ?_
    refine t_bipush 6 (r := 31) X0.here hx (hb hby d76) (by decide) rfl ?_
    refine t_iushr 7 (r := 0) X0.here hx (hb hby d77) (by decide : (((0 : Int32).toUInt32 >>> ((31 : Int32) &&& 31).toUInt32).toInt32) = (0 : Int32)) rfl ?_
    refine t_i2b 8 (r := 0) X0.here hx (hb hby d78) (by decide : ((0 : Int32).toInt8.toInt32) = (0 : Int32)) rfl ?_
    exact retN X0 hx (t := .byte) hret (by simp) (hb hby d79) hr
def WS_r51__init_ (Z : State) (o0 : Addr) : List (Addr × Nat) := [(o0, (sl0 Z)), (o0, (sl1 Z))]
def Q_r51__init_ (Z : State) (o0 o1 : Addr) (i_2 i_4 i_5 i_6 : Int32) (k_o1 : ClassId) (h0 : Heap) (n0 : Nat) (v : Option Value) (h : Heap) (L : List Loc) : Prop := ∃ b1_7 : Addr, ∃ k1_7 : ClassId, v = none ∧ Fr n0 L ∧ KL h0 h (WS_r51__init_ Z o0) ∧ h0.size ≤ b1_7 ∧ Fd0 Z h o0 z0 ∧ Fd1 Z h o0 (.ref b1_7) ∧ Arv Z h b1_7 k1_7 .byte 3 [(.int (i_4.toInt8.toInt32)), (.int (i_5.toInt8.toInt32)), (.int (i_6.toInt8.toInt32))] z0
theorem ef_r51__init_ (o0 o1 : Addr) (m : MethodId) : entryFrame m #[(.ref o0), (.ref o1), (.int 0), (.int 3), .null] 6 = mkF m 0 #[.val (.ref o0), .val (.ref o1), .val (.int 0), .val (.int 3), .val .null, .unset] [] := by first | (simp [entryFrame, mkF, argsToLocals, Value.category]; done) | rfl
set_option maxRecDepth 65536 in
set_option maxHeartbeats 40000000 in
theorem r51__init_ (l : Launch) (Z : State) (a0 : Array Value) (hw : HW Z a0) (ws : List Jvm.Cond) (o0 o1 : Addr) (i_2 i_4 i_5 i_6 : Int32) (k_o1 : ClassId) (h0 : Heap) (n0 : Nat) (Z0 : n0 ≤ h0.size) (sCS : SCS Z i_2) (O0 : Old Z n0 h0) (hp0 : ¬ (i_2 = (0 : Int32))) (V_o1 : Arv Z h0 o1 k_o1 .char 3 [(.int i_4), (.int i_5), (.int i_6)] z0) (hp1 : ¬ ((255 : Int32) < i_4)) (hp2 : ¬ ((255 : Int32) < i_5)) (hp3 : ¬ ((255 : Int32) < i_6)) (F_o0_coder : Fd0 Z h0 o0 z0) (E_o0 : Ex0 Z h0 o0) (g_o0 : n0 ≤ o0) (F_o0_value : Fd1 Z h0 o0 .null) :
    MF l Z y4__init_ b2_ 6 none ws ⟨2, 1, 3, 35⟩ #[(.ref o0), (.ref o1), z0, (.int 3), .null] h0 (Q_r51__init_ Z o0 o1 i_2 i_4 i_5 i_6 k_o1 h0 n0) := by
  refine own_body (plainFor_of_name pn_String564) (ef_r51__init_ o0 o1) (by decide) (by decide) ?_
  intro p e s m below meth c s₁ hx hby hml hown hnm hret hZ hh e0 X0
  have N0 := Fr.nil n0
  obtain ⟨T1, X1, e1, st1⟩ := initO X0 hx hZ hown (w15 hw) (w16 hw) (w17 hw) e0 (g := (mkF m 1 #[vr o0, vr o1, vi 0, vi 3, .val .null, .unset] [(.ref o0)])) rfl hml.symm rfl (hb hby d20) (by decide) (W := 0) (own_wr rfl rfl) (by decide)
  obtain ⟨T3, X3, e3, st3⟩ := getS2 X1 hx hZ hown (host := "") (Or.inl (w18 hw)) Via.refl e1 (Sta.ext O0.2 sCS) (g := (mkF m 27 #[vr o0, vr o1, vi 0, vi 3, .val .null, .unset] [])) rfl (hb hby d23)
  obtain ⟨_, T7, L7, X7, hQ7, st7⟩ := own_static X3 hx hZ hown (w19 hw) (w20 hw) (w21 hw) (w22 hw) (by decide) (r52_compress l Z a0 hw [] o1 i_4 i_5 i_6 k_o1 h0 n0 Z0 V_o1 hp1 hp2 hp3) e3 (W := 0) (by decide) (g := (mkF m 36 #[vr o0, vr o1, vi 0, vi 3, .val .null, .unset] [(.int 3), z0, (.ref o1)])) rfl hml.symm (argsL := [(.ref o1), z0, (.int 3)]) (rest := []) (lenOf pd_2 rfl) rfl rfl (own_wr rfl rfl) (hb hby d28)
  obtain ⟨b1_7, k1_7, rfl, N7q, K7, Q7_0, Q7_1⟩ := hQ7
  have N7 := Fr.app N0 N7q
  obtain ⟨_, T9, L9, X9, hQ9, st9⟩ := own_static X7 hx hZ hown (w27 hw) (w28 hw) (w21 hw) (w29 hw) (by decide) (r54_coderFromArrayLen l Z a0 hw [] b1_7 (i_4.toInt8.toInt32) (i_5.toInt8.toInt32) (i_6.toInt8.toInt32) k1_7 T7.heap n0 (Nat.le_trans Z0 K7.1) Q7_1) rfl (W := 1) (by decide) (g := (mkF m 45 #[vr o0, vr o1, vi 0, vi 3, .val .null, vr b1_7] [(.int 3), (.ref b1_7), (.ref o0)])) rfl hml.symm (argsL := [(.ref b1_7), (.int 3)]) (rest := [(.ref o0)]) (lenOf pd_3 rfl) rfl rfl (own_wr rfl rfl) (hb hby d71)
  obtain ⟨rfl, N9q, e9⟩ := hQ9
  have N9 := Fr.app N7 N9q
  have f10 := (kFld K7 F_o0_coder nw0)
  have f11 := (kExa K7 E_o0)
  obtain ⟨T12, h12, X12, e12, W12, st12⟩ := putF X9 hx hZ hown (host := "") (Or.inl (w30 hw)) Via.refl e9 f10 f11 (Or.inr ⟨(w31 hw), rfl, hnm⟩) (w5 hw) (ty := .byte) (by decide) (by decide) (by decide) (g := (mkF m 48 #[vr o0, vr o1, vi 0, vi 3, .val .null, vr b1_7] [z0, (.ref o0)])) rfl rfl (hb hby d80)
  have K12 := KL.ofW W12
  have Fw12 : Fd0 Z h12 o0 z0 := Fld.same W12 f10
  have N12 := Fr.snoc X12 N9 g_o0
  have f13 := (kFld K12 (kFld K7 F_o0_value nw0) (nwS (Or.inr (sn_0 hw)) nw0))
  have f14 := (kExa K12 f11)
  obtain ⟨T15, h15, X15, e15, W15, st15⟩ := putF X12 hx hZ hown (host := "") (Or.inl (w32 hw)) Via.refl e12 f13 f14 (Or.inr ⟨(w33 hw), rfl, hnm⟩) (w5 hw) (ty := (.array .byte)) (by decide) rfl rfl (g := (mkF m 54 #[vr o0, vr o1, vi 0, vi 3, .val .null, vr b1_7] [(.ref b1_7), (.ref o0)])) rfl rfl (hb hby d83)
  have K15 := KL.ofW W15
  have Fw15 : Fd1 Z h15 o0 (.ref b1_7) := Fld.same W15 f13
  have N15 := Fr.snoc X15 N12 g_o0
  have C0 := (KL.refl h0 (WS_r51__init_ Z o0)).trans K7 na0
  have C1 := C0.trans K12 (naO (own_mi 0 rfl) na0)
  have C2 := C1.trans K15 (naO (own_mi 1 rfl) na0)
  have f16 := (kFld K15 Fw12 (nwS (Or.inr (sn_1 hw)) nw0))
  have lt_o0 : o0 < h0.size := Fld.lt F_o0_coder
  have f17 := (kArv K15 (kArv K12 Q7_1 (naN (lt_ne lt_o0 Q7_0) na0)) (naN (lt_ne lt_o0 Q7_0) na0))
  refine ⟨T15, _, none, X15, (fun h => by cases h <;> rfl), ?_, fun fs hr => ?_⟩
  · show Q_r51__init_ Z o0 o1 i_2 i_4 i_5 i_6 k_o1 h0 n0 _ T15.heap _
    rw [e15]
    exact ⟨b1_7, k1_7, rfl, N15, C2, Q7_0, f16, Fw15, f17⟩
  · refine t_aloadN 1 X0.here hx (hb hby d19) rfl rfl rfl ?_
    refine st1 _ ?_
    refine t_iloadN 5 X1.here hx (hb hby d21) rfl rfl ?_
    refine t_ifYes (pc := 5) 27 X1.here hx (hb hby d22) (by decide) (by decide) (by decide) ?_
    refine st3 _ ?_
    refine t_ifNo 33 X3.here hx (hb hby d24) ((if0 _ _).trans (feq hp0).1) rfl ?_
    refine t_aloadN 34 X3.here hx (hb hby d25) rfl rfl rfl ?_
    refine t_iloadN 35 X3.here hx (hb hby d26) rfl rfl ?_
    refine t_iloadN 36 X3.here hx (hb hby d27) rfl rfl ?_
    refine st7 _ ?_
    refine t_astore (pc' := 41) (L' := #[vr o0, vr o1, vi 0, vi 3, .val .null, vr b1_7]) X7.here hx (hb hby d67) rfl rfl rfl ?_
    refine t_aloadN 42 X7.here hx (hb hby d68) rfl rfl rfl ?_
    refine t_aload 44 X7.here hx (hb hby d69) rfl rfl rfl ?_
    refine t_iloadN 45 X7.here hx (hb hby d70) rfl rfl ?_
    refine st9 _ ?_
    refine st12 _ ?_
    refine t_aloadN 52 X12.here hx (hb hby d81) rfl rfl rfl ?_
    refine t_aload 54 X12.here hx (hb hby d82) rfl rfl rfl ?_
    refine st15 _ ?_
    exact X15.returnOut hx hret (hb hby d84) hr
def WS_r50__init_ (Z : State) (o0 : Addr) : List (Addr × Nat) := [(o0, (sl0 Z)), (o0, (sl1 Z))]
def Q_r50__init_ (Z : State) (o0 o1 : Addr) (i_1 i_2 i_3 : Int32) (k_o1 : ClassId) (i_4 : Int32) (h0 : Heap) (n0 : Nat) (v : Option Value) (h : Heap) (L : List Loc) : Prop := ∃ b1_7_5 : Addr, ∃ k1_7_5 : ClassId, v = none ∧ Fr n0 L ∧ KL h0 h (WS_r50__init_ Z o0) ∧ h0.size ≤ b1_7_5 ∧ Fd0 Z h o0 z0 ∧ Fd1 Z h o0 (.ref b1_7_5) ∧ Arv Z h b1_7_5 k1_7_5 .byte 3 [(.int (i_1.toInt8.toInt32)), (.int (i_2.toInt8.toInt32)), (.int (i_3.toInt8.toInt32))] z0
theorem ef_r50__init_ (o0 o1 : Addr) (m : MethodId) : entryFrame m #[(.ref o0), (.ref o1)] 2 = mkF m 0 #[.val (.ref o0), .val (.ref o1)] [] := by first | (simp [entryFrame, mkF, argsToLocals, Value.category]; done) | rfl
set_option maxRecDepth 65536 in
set_option maxHeartbeats 40000000 in
theorem r50__init_ (l : Launch) (Z : State) (a0 : Array Value) (hw : HW Z a0) (ws : List Jvm.Cond) (o0 o1 : Addr) (i_1 i_2 i_3 : Int32) (k_o1 : ClassId) (i_4 : Int32) (h0 : Heap) (n0 : Nat) (Z0 : n0 ≤ h0.size) (V_o1 : Arv Z h0 o1 k_o1 .char 3 [(.int i_1), (.int i_2), (.int i_3)] z0) (sCS : SCS Z i_4) (F_o0_coder : Fd0 Z h0 o0 z0) (E_o0 : Ex0 Z h0 o0) (F_o0_value : Fd1 Z h0 o0 .null) (O0 : Old Z n0 h0) (hp0 : ¬ (i_4 = (0 : Int32))) (hp1 : ¬ ((255 : Int32) < i_1)) (hp2 : ¬ ((255 : Int32) < i_2)) (hp3 : ¬ ((255 : Int32) < i_3)) (g_o0 : n0 ≤ o0) :
    MF l Z y5__init_ b1_ 2 none ws ⟨3, 1, 3, 52⟩ #[(.ref o0), (.ref o1)] h0 (Q_r50__init_ Z o0 o1 i_1 i_2 i_3 k_o1 i_4 h0 n0) := by
  refine own_body (plainFor_of_name pn_String564) (ef_r50__init_ o0 o1) (by decide) (by decide) ?_
  intro p e s m below meth c s₁ hx hby hml hown hnm hret hZ hh e0 X0
  have N0 := Fr.nil n0
  obtain ⟨_, T5, L5, X5, hQ5, st5⟩ := own_init X0 hx hZ rfl hown (w11 hw) (w12 hw) (w6 hw) (w14 hw) (by decide) (r51__init_ l Z a0 hw [] o0 o1 i_4 i_1 i_2 i_3 k_o1 h0 n0 Z0 sCS O0 hp0 V_o1 hp1 hp2 hp3 F_o0_coder E_o0 g_o0 F_o0_value) e0 (W := 0) (by decide) (g := (mkF m 6 #[vr o0, vr o1] [.null, (.int 3), z0, (.ref o1), (.ref o0)])) rfl hml.symm (argsL := [(.ref o1), z0, (.int 3), .null]) (rest := []) (lenOf pd_4 rfl) rfl rfl (own_wr rfl rfl) (hb hby d18)
  obtain ⟨b1_7_5, k1_7_5, rfl, N5q, K5, Q5_0, Q5_1, Q5_2, Q5_3⟩ := hQ5
  have N5 := Fr.app N0 N5q
  have C0 := (KL.refl h0 (WS_r50__init_ Z o0)).trans K5 (naO (own_mi 0 rfl) (naO (own_mi 1 rfl) na0))
  refine ⟨T5, _, none, X5, (fun h => by cases h <;> rfl), ?_, fun fs hr => ?_⟩
  · show Q_r50__init_ Z o0 o1 i_1 i_2 i_3 k_o1 i_4 h0 n0 _ T5.heap _
    exact ⟨b1_7_5, k1_7_5, rfl, N5, C0, Q5_0, Q5_1, Q5_2, Q5_3⟩
  · refine t_aloadN 1 X0.here hx (hb hby d12) rfl rfl rfl ?_
    refine t_aloadN 2 X0.here hx (hb hby d13) rfl rfl rfl ?_
    refine t_iconst 3 (r := 0) X0.here hx (hb hby d14) (by decide) rfl ?_
    refine t_aloadN 4 X0.here hx (hb hby d15) rfl rfl rfl ?_
    refine own_arlen (pc' := 5) X0 hx hZ e0 V_o1 (hb hby d16) rfl ?_
    refine t_aconst_null 6 X0.here hx (hb hby d17) rfl ?_
    refine st5 _ ?_
    exact X5.returnOut hx hret (hb hby d85) hr
def w209 (hw : HW Z a0) := ow 209 hw rfl
def w212 (hw : HW Z a0) := ow 212 hw rfl
abbrev b39_ := jdk_42_method_66_code
theorem d418 : decode b39_ 0 = .ok (.aload_n 0, 1) := by decide +kernel
theorem d419 : decode b39_ 1 = .ok (.aload_n 1, 1) := by decide +kernel
theorem d420 : decode b39_ 2 = .ok (.if_acmp .ne 5, 3) := by decide +kernel
theorem d421 : decode b39_ 7 = .ok (.aload_n 1, 1) := by decide +kernel
theorem d422 : decode b39_ 8 = .ok (.instanceof 10, 3) := by decide +kernel
def w214 (hw : HW Z a0) := ow 214 hw rfl
theorem d423 : decode b39_ 11 = .ok (.ifCond .eq 43, 3) := by decide +kernel
theorem d424 : decode b39_ 14 = .ok (.aload_n 1, 1) := by decide +kernel
theorem d425 : decode b39_ 15 = .ok (.checkcast 10, 3) := by decide +kernel
theorem d426 : decode b39_ 18 = .ok (.astore_n 2, 1) := by decide +kernel
theorem d427 : decode b39_ 19 = .ok (.getstatic 38, 3) := by decide +kernel
theorem d428 : decode b39_ 22 = .ok (.ifCond .eq 14, 3) := by decide +kernel
theorem d429 : decode b39_ 25 = .ok (.aload_n 0, 1) := by decide +kernel
theorem d430 : decode b39_ 26 = .ok (.getfield 15, 3) := by decide +kernel
theorem d431 : decode b39_ 29 = .ok (.aload_n 2, 1) := by decide +kernel
theorem d432 : decode b39_ 30 = .ok (.getfield 15, 3) := by decide +kernel
theorem d433 : decode b39_ 33 = .ok (.if_icmp .ne 21, 3) := by decide +kernel
theorem d434 : decode b39_ 36 = .ok (.aload_n 0, 1) := by decide +kernel
theorem d435 : decode b39_ 37 = .ok (.getfield 9, 3) := by decide +kernel
theorem d436 : decode b39_ 40 = .ok (.aload_n 2, 1) := by decide +kernel
theorem d437 : decode b39_ 41 = .ok (.getfield 9, 3) := by decide +kernel
theorem d438 : decode b39_ 44 = .ok (.invokestatic 541, 3) := by decide +kernel
def w215 (hw : HW Z a0) := ow 215 hw rfl
abbrev b40_ := jdk_43_method_13_code
theorem d439 : decode b40_ 0 = .ok (.aload_n 0, 1) := by decide +kernel
theorem d440 : decode b40_ 1 = .ok (.arraylength, 1) := by decide +kernel
theorem d441 : decode b40_ 2 = .ok (.aload_n 1, 1) := by decide +kernel
theorem d442 : decode b40_ 3 = .ok (.arraylength, 1) := by decide +kernel
theorem d443 : decode b40_ 4 = .ok (.if_icmp .ne 30, 3) := by decide +kernel
theorem d444 : decode b40_ 7 = .ok (.iconst 0, 1) := by decide +kernel
theorem d445 : decode b40_ 8 = .ok (.istore_n 2, 1) := by decide +kernel
theorem d446 : decode b40_ 9 = .ok (.iload_n 2, 1) := by decide +kernel
theorem d447 : decode b40_ 10 = .ok (.aload_n 0, 1) := by decide +kernel
theorem d448 : decode b40_ 11 = .ok (.arraylength, 1) := by decide +kernel
theorem d449 : decode b40_ 12 = .ok (.if_icmp .ge 20, 3) := by decide +kernel
theorem d450 : decode b40_ 15 = .ok (.aload_n 0, 1) := by decide +kernel
theorem d451 : decode b40_ 16 = .ok (.iload_n 2, 1) := by decide +kernel
theorem d452 : decode b40_ 17 = .ok (.baload, 1) := by decide +kernel
theorem d453 : decode b40_ 18 = .ok (.aload_n 1, 1) := by decide +kernel
theorem d454 : decode b40_ 19 = .ok (.iload_n 2, 1) := by decide +kernel
theorem d455 : decode b40_ 20 = .ok (.baload, 1) := by decide +kernel
theorem d456 : decode b40_ 21 = .ok (.if_icmp .eq 5, 3) := by decide +kernel
theorem d457 : decode b40_ 26 = .ok (.iinc 2 1, 3) := by decide +kernel
theorem d458 : decode b40_ 29 = .ok (.goto (-20), 3) := by decide +kernel
theorem d459 : decode b40_ 32 = .ok (.iconst 1, 1) := by decide +kernel
theorem d460 : decode b40_ 33 = .ok (.ireturn, 1) := by decide +kernel
abbrev y39_equals : MethodName := ⟨"java/lang/StringLatin1", "equals", "([B[B)Z"⟩
def Q_r56_equals (Z : State) (o0 o1 : Addr) (i_1 i_2 i_3 : Int32) (k_o0 : ClassId) (i_4 : Int32) (k_o1 : ClassId) (h0 : Heap) (n0 : Nat) (v : Option Value) (h : Heap) (L : List Loc) : Prop := v = some (.int 1) ∧ Fr n0 L ∧ h = h0
theorem ef_r56_equals (o0 o1 : Addr) (m : MethodId) : entryFrame m #[(.ref o0), (.ref o1)] 3 = mkF m 0 #[.val (.ref o0), .val (.ref o1), .unset] [] := by first | (simp [entryFrame, mkF, argsToLocals, Value.category]; done) | rfl
set_option maxRecDepth 65536 in
set_option maxHeartbeats 40000000 in
theorem r56_equals (l : Launch) (Z : State) (a0 : Array Value) (hw : HW Z a0) (ws : List Jvm.Cond) (o0 o1 : Addr) (i_1 i_2 i_3 : Int32) (k_o0 : ClassId) (i_4 : Int32) (k_o1 : ClassId) (h0 : Heap) (n0 : Nat) (Z0 : n0 ≤ h0.size) (V_o0 : Arv Z h0 o0 k_o0 .byte 3 [(.int i_1), (.int i_2), (.int i_3)] z0) (V_o1 : Arv Z h0 o1 k_o1 .byte 3 [(.int i_1), (.int i_4), (.int i_3)] z0) (hp0 : i_2 = i_4) :
    MF l Z y39_equals b40_ 3 (some .boolean) ws ⟨0, 0, 0, 0⟩ #[(.ref o0), (.ref o1)] h0 (Q_r56_equals Z o0 o1 i_1 i_2 i_3 k_o0 i_4 k_o1 h0 n0) := by
  refine own_body (plainFor_of_name pn_StringLatin1120) (ef_r56_equals o0 o1) (by decide) (by decide) ?_
  intro p e s m below meth c s₁ hx hby hml hown hnm hret hZ hh e0 X0
  have N0 := Fr.nil n0
  refine ⟨s₁, _, some (.int 1), X0, (fun h => by cases h <;> rfl), ?_, fun fs hr => ?_⟩
  · show Q_r56_equals Z o0 o1 i_1 i_2 i_3 k_o0 i_4 k_o1 h0 n0 _ s₁.heap _
    rw [e0]
    exact ⟨rfl, N0, rfl⟩
  · refine t_aloadN 1 X0.here hx (hb hby d439) rfl rfl rfl ?_
    refine own_arlen (pc' := 2) X0 hx hZ e0 V_o0 (hb hby d440) rfl ?_
    refine t_aloadN 3 X0.here hx (hb hby d441) rfl rfl rfl ?_
    refine own_arlen (pc' := 4) X0 hx hZ e0 V_o1 (hb hby d442) rfl ?_
    refine t_icmpNo 7 X0.here hx (hb hby d443) (by decide) rfl ?_
    refine t_iconst 8 (r := 0) X0.here hx (hb hby d444) (by decide) rfl ?_
    refine t_istoreN (pc' := 9) (L' := #[vr o0, vr o1, vi 0]) X0.here hx (hb hby d445) rfl rfl ?_
    refine t_iloadN 10 X0.here hx (hb hby d446) rfl rfl ?_
    refine t_aloadN 11 X0.here hx (hb hby d447) rfl rfl rfl ?_
    refine own_arlen (pc' := 12) X0 hx hZ e0 V_o0 (hb hby d448) rfl ?_
    refine t_icmpNo 15 X0.here hx (hb hby d449) (by decide) rfl ?_
    refine t_aloadN 16 X0.here hx (hb hby d450) rfl rfl rfl ?_
    refine t_iloadN 17 X0.here hx (hb hby d451) rfl rfl ?_
    refine own_aldB (pc' := 18) X0 hx hZ e0 V_o0 (j := 0) (v := (.int i_1)) (by decide) rfl (hb hby d452) rfl ?_
    refine t_aloadN 19 X0.here hx (hb hby d453) rfl rfl rfl ?_
    refine t_iloadN 20 X0.here hx (hb hby d454) rfl rfl ?_
    refine own_aldB (pc' := 21) X0 hx hZ e0 V_o1 (j := 0) (v := (.int i_1)) (by decide) rfl (hb hby d455) rfl ?_
    refine t_icmpYes (pc := 21) 26 X0.here hx (hb hby d456) (teq (rfl : i_1 = i_1)).1 (by decide) (by decide) ?_
    refine t_iinc (pc' := 29) (L' := #[vr o0, vr o1, vi 1]) X0.here hx (hb hby d457) rfl (by first | rfl | decide) rfl ?_
    refine t_goto (pc := 29) 9 X0.here hx (hb hby d458) (by decide) (by decide) ?_
    refine t_iloadN 10 X0.here hx (hb hby d446) rfl rfl ?_
    refine t_aloadN 11 X0.here hx (hb hby d447) rfl rfl rfl ?_
    refine own_arlen (pc' := 12) X0 hx hZ e0 V_o0 (hb hby d448) rfl ?_
    refine t_icmpNo 15 X0.here hx (hb hby d449) (by decide) rfl ?_
    refine t_aloadN 16 X0.here hx (hb hby d450) rfl rfl rfl ?_
    refine t_iloadN 17 X0.here hx (hb hby d451) rfl rfl ?_
    refine own_aldB (pc' := 18) X0 hx hZ e0 V_o0 (j := 1) (v := (.int i_2)) (by decide) rfl (hb hby d452) rfl ?_
    refine t_aloadN 19 X0.here hx (hb hby d453) rfl rfl rfl ?_
    refine t_iloadN 20 X0.here hx (hb hby d454) rfl rfl ?_
    refine own_aldB (pc' := 21) X0 hx hZ e0 V_o1 (j := 1) (v := (.int i_4)) (by decide) rfl (hb hby d455) rfl ?_
    refine t_icmpYes (pc := 21) 26 X0.here hx (hb hby d456) (teq hp0).1 (by decide) (by decide) ?_
    refine t_iinc (pc' := 29) (L' := #[vr o0, vr o1, vi 2]) X0.here hx (hb hby d457) rfl (by first | rfl | decide) rfl ?_
    refine t_goto (pc := 29) 9 X0.here hx (hb hby d458) (by decide) (by decide) ?_
    refine t_iloadN 10 X0.here hx (hb hby d446) rfl rfl ?_
    refine t_aloadN 11 X0.here hx (hb hby d447) rfl rfl rfl ?_
    refine own_arlen (pc' := 12) X0 hx hZ e0 V_o0 (hb hby d448) rfl ?_
    refine t_icmpNo 15 X0.here hx (hb hby d449) (by decide) rfl ?_
    refine t_aloadN 16 X0.here hx (hb hby d450) rfl rfl rfl ?_
    refine t_iloadN 17 X0.here hx (hb hby d451) rfl rfl ?_
    refine own_aldB (pc' := 18) X0 hx hZ e0 V_o0 (j := 2) (v := (.int i_3)) (by decide) rfl (hb hby d452) rfl ?_
    refine t_aloadN 19 X0.here hx (hb hby d453) rfl rfl rfl ?_
    refine t_iloadN 20 X0.here hx (hb hby d454) rfl rfl ?_
    refine own_aldB (pc' := 21) X0 hx hZ e0 V_o1 (j := 2) (v := (.int i_3)) (by decide) rfl (hb hby d455) rfl ?_
    refine t_icmpYes (pc := 21) 26 X0.here hx (hb hby d456) (teq (rfl : i_3 = i_3)).1 (by decide) (by decide) ?_
    refine t_iinc (pc' := 29) (L' := #[vr o0, vr o1, vi 3]) X0.here hx (hb hby d457) rfl (by first | rfl | decide) rfl ?_
    refine t_goto (pc := 29) 9 X0.here hx (hb hby d458) (by decide) (by decide) ?_
    refine t_iloadN 10 X0.here hx (hb hby d446) rfl rfl ?_
    refine t_aloadN 11 X0.here hx (hb hby d447) rfl rfl rfl ?_
    refine own_arlen (pc' := 12) X0 hx hZ e0 V_o0 (hb hby d448) rfl ?_
    refine t_icmpYes (pc := 12) 32 X0.here hx (hb hby d449) (by decide) (by decide) (by decide) ?_
    refine t_iconst 33 (r := 1) X0.here hx (hb hby d459) (by decide) rfl ?_
    exact retN X0 hx (t := .boolean) hret (by simp) (hb hby d460) hr
def w217 (hw : HW Z a0) := ow 217 hw rfl
theorem pd_28 : parseMethodDescriptor "([B[B)Z" = some ⟨[(.array .byte), (.array .byte)], some .boolean⟩ := by decide +kernel
def w216 (hw : HW Z a0) := ow 216 hw rfl
theorem d461 : decode b39_ 47 = .ok (.ifCond .eq 7, 3) := by decide +kernel
theorem d462 : decode b39_ 50 = .ok (.iconst 1, 1) := by decide +kernel
theorem d463 : decode b39_ 51 = .ok (.goto 4, 3) := by decide +kernel
theorem d464 : decode b39_ 55 = .ok (.ireturn, 1) := by decide +kernel
abbrev y40_equals : MethodName := ⟨"java/lang/String", "equals", "(Ljava/lang/Object;)Z"⟩
def Q_r55_equals (Z : State) (o0 o1 : Addr) (i_3 : Int32) (o_7 o_9 : Addr) (i_11 i_12 i_13 : Int32) (k_o_7 : ClassId) (i_14 : Int32) (k_o_9 : ClassId) (h0 : Heap) (n0 : Nat) (v : Option Value) (h : Heap) (L : List Loc) : Prop := v = some (.int 1) ∧ Fr n0 L ∧ h = h0
theorem ef_r55_equals (o0 o1 : Addr) (m : MethodId) : entryFrame m #[(.ref o0), (.ref o1)] 3 = mkF m 0 #[.val (.ref o0), .val (.ref o1), .unset] [] := by first | (simp [entryFrame, mkF, argsToLocals, Value.category]; done) | rfl
set_option maxRecDepth 65536 in
set_option maxHeartbeats 40000000 in
theorem r55_equals (l : Launch) (Z : State) (a0 : Array Value) (hw : HW Z a0) (ws : List Jvm.Cond) (o0 o1 : Addr) (i_3 : Int32) (o_7 o_9 : Addr) (i_11 i_12 i_13 : Int32) (k_o_7 : ClassId) (i_14 : Int32) (k_o_9 : ClassId) (h0 : Heap) (n0 : Nat) (Z0 : n0 ≤ h0.size) (ne_o0_o1 : o0 ≠ o1) (E_o1 : Ex0 Z h0 o1) (sCS : SCS Z i_3) (O0 : Old Z n0 h0) (hp0 : ¬ (i_3 = (0 : Int32))) (F_o0_coder : Fd0 Z h0 o0 z0) (F_o1_coder : Fd0 Z h0 o1 z0) (F_o0_value : Fd1 Z h0 o0 (.ref o_7)) (F_o1_value : Fd1 Z h0 o1 (.ref o_9)) (V_o_7 : Arv Z h0 o_7 k_o_7 .byte 3 [(.int i_11), (.int i_12), (.int i_13)] z0) (V_o_9 : Arv Z h0 o_9 k_o_9 .byte 3 [(.int i_11), (.int i_14), (.int i_13)] z0) (hp1 : i_12 = i_14) :
    MF l Z y40_equals b39_ 3 (some .boolean) ws ⟨1, 0, 0, 14⟩ #[(.ref o0), (.ref o1)] h0 (Q_r55_equals Z o0 o1 i_3 o_7 o_9 i_11 i_12 i_13 k_o_7 i_14 k_o_9 h0 n0) := by
  refine own_body (plainFor_of_name pn_String564) (ef_r55_equals o0 o1) (by decide) (by decide) ?_
  intro p e s m below meth c s₁ hx hby hml hown hnm hret hZ hh e0 X0
  have N0 := Fr.nil n0
  obtain ⟨T1, X1, e1, st1⟩ := instY X0 hx hZ hown (w214 hw) e0 (Ins.self E_o1) (g := (mkF m 8 #[vr o0, vr o1, .unset] [(.ref o1)])) rfl rfl (hb hby d422)
  obtain ⟨T2, X2, e2, st2⟩ := castY X1 hx hZ hown (w214 hw) e1 (Ins.self E_o1) (g := (mkF m 15 #[vr o0, vr o1, .unset] [(.ref o1)])) rfl rfl (hb hby d425)
  obtain ⟨T4, X4, e4, st4⟩ := getS2 X2 hx hZ hown (host := "") (Or.inl (w18 hw)) Via.refl e2 (Sta.ext O0.2 sCS) (g := (mkF m 19 #[vr o0, vr o1, vr o1] [])) rfl (hb hby d427)
  obtain ⟨T5, X5, e5, st5⟩ := getF X4 hx hZ hown (host := "") (Or.inl (w30 hw)) Via.refl e4 F_o0_coder (g := (mkF m 26 #[vr o0, vr o1, vr o1] [(.ref o0)])) rfl rfl (hb hby d430)
  obtain ⟨T6, X6, e6, st6⟩ := getF X5 hx hZ hown (host := "") (Or.inl (w30 hw)) Via.refl e5 F_o1_coder (g := (mkF m 30 #[vr o0, vr o1, vr o1] [(.ref o1), z0])) rfl rfl (hb hby d432)
  obtain ⟨T8, X8, e8, st8⟩ := getF X6 hx hZ hown (host := "") (Or.inl (w32 hw)) Via.refl e6 F_o0_value (g := (mkF m 37 #[vr o0, vr o1, vr o1] [(.ref o0)])) rfl rfl (hb hby d435)
  obtain ⟨T10, X10, e10, st10⟩ := getF X8 hx hZ hown (host := "") (Or.inl (w32 hw)) Via.refl e8 F_o1_value (g := (mkF m 41 #[vr o0, vr o1, vr o1] [(.ref o1), (.ref o_7)])) rfl rfl (hb hby d437)
  obtain ⟨_, T15, L15, X15, hQ15, st15⟩ := own_static X10 hx hZ hown (w215 hw) (w216 hw) (w86 hw) (w217 hw) (by decide) (r56_equals l Z a0 hw [] o_7 o_9 i_11 i_12 i_13 k_o_7 i_14 k_o_9 h0 n0 Z0 V_o_7 V_o_9 hp1) e10 (W := 0) (by decide) (g := (mkF m 44 #[vr o0, vr o1, vr o1] [(.ref o_9), (.ref o_7)])) rfl hml.symm (argsL := [(.ref o_7), (.ref o_9)]) (rest := []) (lenOf pd_28 rfl) rfl rfl (own_wr rfl rfl) (hb hby d438)
  obtain ⟨rfl, N15q, e15⟩ := hQ15
  have N15 := Fr.app N0 N15q
  refine ⟨T15, _, some (.int 1), X15, (fun h => by cases h <;> rfl), ?_, fun fs hr => ?_⟩
  · show Q_r55_equals Z o0 o1 i_3 o_7 o_9 i_11 i_12 i_13 k_o_7 i_14 k_o_9 h0 n0 _ T15.heap _
    rw [e15]
    exact ⟨rfl, N15, rfl⟩
  · refine t_aloadN 1 X0.here hx (hb hby d418) rfl rfl rfl ?_
    refine t_aloadN 2 X0.here hx (hb hby d419) rfl rfl rfl ?_
    refine Jvm.RoadKit.acmp (g := (mkF m 2 #[vr o0, vr o1, .unset] [(.ref o1), (.ref o0)])) X0 hx rfl rfl rfl (pc0 := 2) (pc' := 7) (same := false) rfl (hb hby d420) rfl (decide_eq_false fun q => absurd (Value.ref.inj q) ne_o0_o1) (by decide) (by decide) ?_
    refine t_aloadN 8 X0.here hx (hb hby d421) rfl rfl rfl ?_
    refine st1 _ ?_
    refine t_ifNo 14 X1.here hx (hb hby d423) (by decide) rfl ?_
    refine t_aloadN 15 X1.here hx (hb hby d424) rfl rfl rfl ?_
    refine st2 _ ?_
    refine t_astoreN (pc' := 19) (L' := #[vr o0, vr o1, vr o1]) X2.here hx (hb hby d426) rfl rfl rfl ?_
    refine st4 _ ?_
    refine t_ifNo 25 X4.here hx (hb hby d428) ((if0 _ _).trans (feq hp0).1) rfl ?_
    refine t_aloadN 26 X4.here hx (hb hby d429) rfl rfl rfl ?_
    refine st5 _ ?_
    refine t_aloadN 30 X5.here hx (hb hby d431) rfl rfl rfl ?_
    refine st6 _ ?_
    refine t_icmpNo 36 X6.here hx (hb hby d433) (by decide) rfl ?_
    refine t_aloadN 37 X6.here hx (hb hby d434) rfl rfl rfl ?_
    refine st8 _ ?_
    refine t_aloadN 41 X8.here hx (hb hby d436) rfl rfl rfl ?_
    refine st10 _ ?_
    refine st15 _ ?_
    refine t_ifNo 50 X15.here hx (hb hby d461) (by decide) rfl ?_
    refine t_iconst 51 (r := 1) X15.here hx (hb hby d462) (by decide) rfl ?_
    refine t_goto (pc := 51) 55 X15.here hx (hb hby d463) (by decide) (by decide) ?_
    exact retN X15 hx (t := .boolean) hret (by simp) (hb hby d464) hr
def w213 (hw : HW Z a0) := ow 213 hw rfl
theorem pd_29 : parseMethodDescriptor "(Ljava/lang/Object;)Z" = some ⟨[(.object "java/lang/Object")], some .boolean⟩ := by decide +kernel
def w210 (hw : HW Z a0) := ow 210 hw rfl
def w211 (hw : HW Z a0) := ow 211 hw rfl
def Q_law (n0 : Nat) (v : Option Value) (L : List Loc) : Prop := v = some (.int 1) ∧ Fr n0 L
theorem ef_law_tt (p0 p1 : Int32) (m : MethodId) : entryFrame m #[(.int p0), (.int p1)] maxLocals = mkF m 0 #[.val (.int p0), .val (.int p1), .unset, .unset, .unset, .unset, .unset, .unset, .unset, .unset, .unset, .unset, .unset] [] := by first | (simp [entryFrame, mkF, argsToLocals, Value.category, maxLocals]; done) | rfl
set_option maxRecDepth 65536 in
set_option maxHeartbeats 40000000 in
theorem law_tt (l : Launch) (Z : State) (a0 : Array Value) (hw : HW Z a0) (ws : List Jvm.Cond) (p0 p1 cs : Int32) (h0 : Heap) (n0 : Nat) (Z0 : n0 ≤ h0.size) (hcs : ¬ (cs = (0 : Int32))) (hp0 : ((own_u16 p0) &&& (1 : Int32)) = (0 : Int32)) (hp1 : ((own_u16 p1) &&& (1 : Int32)) = (0 : Int32)) (sCS : SCS Z cs) (O0 : Old Z n0 h0) :
    MetFree l x (head1 (Jvm.Cond.code x code maxLocals ret :: ws) room_1) (fun a U => a = #[(.int p0), (.int p1)] ∧ Z.Warmed39 U.vm ∧ U.heap = h0 ∧ CHv Z consts_1 U.vm h0 ∧ ∀ x ∈ ([] : List Addr), Safe Z consts_1 U.vm h0 x) (fun _ _ _ _ _ => True) (fun _ U o U' => ∃ v L, o = .returned v ∧ Q_law n0 v L ∧ CHr Z consts_1 U.vm U.heap U'.vm U'.heap ∧ ReturnedEndW U o U' L 48 3328) := by
  refine own_bodyH (k := 20) (n := 99) (y := x) (Q := fun v _ L => Q_law n0 v L) (own_EW hw) (plainFor_of_name pn_IdentifierToStringPinLaw460) (ef_law_tt p0 p1) (by decide) (by decide) ?_
  intro p e s m below meth c s₁ hx hby hml hown hnm hret hZ e0 hS0 hk0 X0 hC0 hSF0
  have N0 := Fr.nil n0
  obtain ⟨_, T1, L1, X1, hQ1, st1⟩ := own_static X0 hx hZ hown (w0 hw) (w1 hw) (w2 hw) (w3 hw) (by decide) (r_sys l Z a0 hw [] p0 h0 n0 Z0) e0 (W := 0) (by decide) (g := (mkF m 1 #[vi p0, vi p1, .unset, .unset, .unset, .unset, .unset, .unset, .unset, .unset, .unset, .unset, .unset] [(.int p0)])) rfl hml.symm (argsL := [(.int p0)]) (rest := []) (lenOf pd_0 rfl) rfl rfl (own_wr rfl rfl) (hb hby at_1)
  obtain ⟨rfl, N1q, e1⟩ := hQ1
  have N1 := Fr.app N0 N1q
  obtain ⟨_, T2, L2, X2, hQ2, st2⟩ := own_static X1 hx hZ hown (w0 hw) (w1 hw) (w2 hw) (w3 hw) (by decide) (r_sys l Z a0 hw [] (own_u8 p0) h0 n0 Z0) e1 (W := 0) (by decide) (g := (mkF m 9 #[vi p0, vi p1, vi ((own_sys p0)), .unset, .unset, .unset, .unset, .unset, .unset, .unset, .unset, .unset, .unset] [(.int (own_u8 p0))])) rfl hml.symm (argsL := [(.int (own_u8 p0))]) (rest := []) (lenOf pd_0 rfl) rfl rfl (own_wr rfl rfl) (hb hby at_9)
  obtain ⟨rfl, N2q, e2⟩ := hQ2
  have N2 := Fr.app N1 N2q
  obtain ⟨T3, h3, X3, e3, E3, A3, D3, -, st3⟩ := newO X2 hx hZ hown (w4 hw) (w5 hw) (w6 hw) e2 (g := (mkF m 190 #[vi p0, vi p1, vi ((own_sys p0)), vi ((own_sys (own_u8 p0))), vi 0, vi ((p1 &&& (255 : Int32))), vi (((own_u8 p1) &&& (255 : Int32))), vi 0, .unset, .unset, .unset, .unset, .unset] [])) rfl (hb hby at_190) (by decide) (by decide)
  obtain ⟨b3, g3⟩ : ∃ z, z = h0.size := ⟨_, rfl⟩
  rw [← g3] at A3 D3 st3
  have ge_b3 : h0.size ≤ b3 := Nat.le_of_eq g3.symm
  have K3 := KL.ofE E3
  have Ck0 := own_chK K3 na0 (CHr.refl hC0).1
  have Ah1 := (CHr.refl hC0).trans Ck0.1
  have F_b3_coder : Fd0 Z h3 b3 z0 := D3 (Or.inr (w31 hw)) (ty := .byte) (by decide)
  have F_b3_value : Fd1 Z h3 b3 .null := D3 (Or.inr (w33 hw)) (ty := (.array .byte)) (by decide)
  obtain ⟨T4, h4, k4, X4, e4, E4, A4, st4⟩ := newP (aty := .char) X3 hx hZ (w7 hw) e3 (g := (mkF m 195 #[vi p0, vi p1, vi ((own_sys p0)), vi ((own_sys (own_u8 p0))), vi 0, vi ((p1 &&& (255 : Int32))), vi (((own_u8 p1) &&& (255 : Int32))), vi 0, .unset, .unset, .unset, .unset, .unset] [(.int 1), (.ref b3), (.ref b3)])) rfl (hb hby at_195) rfl (by decide) (cap := 1) (by decide) (by decide) (by decide) (by decide)
  obtain ⟨b4, g4⟩ : ∃ z, z = h3.size := ⟨_, rfl⟩
  rw [← g4] at A4 st4
  have ge_b4 : h3.size ≤ b4 := Nat.le_of_eq g4.symm
  have K4 := KL.ofE E4
  have Ck1 := own_chK K4 na0 Ah1.1
  have Ah2 := Ah1.trans Ck1.1
  have V4 : Arv Z h4 b4 k4 .char 1 [z0] z0 := (Arv.new A4 (by decide)).pad (pad_rep [] z0 1)
  obtain ⟨T5, h5, X5, e5, W5, V5, st5⟩ := own_astC X4 hx hZ e4 V4 (j := 0) (by decide) 0 rfl (Nat.le_of_ble_eq_true rfl) (g := (mkF m 200 #[vi p0, vi p1, vi ((own_sys p0)), vi ((own_sys (own_u8 p0))), vi 0, vi ((p1 &&& (255 : Int32))), vi (((own_u8 p1) &&& (255 : Int32))), vi 0, .unset, .unset, .unset, .unset, .unset] [(.int (own_sys p0)), z0, (.ref b4), (.ref b4), (.ref b3), (.ref b3)])) rfl rfl (hb hby at_200)
  rw [show (nar .char (own_sys p0)) = (own_sys p0) from (own_c2c (own_sysa _) (own_sysb _))] at V5
  have K5 := KL.ofW W5
  have Ck2 := own_chK K5 (naF (Ck1.2 _ (Safe.new ge_b4)) na0) Ah2.1
  have Ah3 := Ah2.trans Ck2.1
  replace V5 : Arv Z h5 b4 k4 .char 1 [(.int (own_sys p0))] z0 := V5
  have N5 := Fr.snoc X5 N2 (Nat.le_trans Z0 (Nat.le_trans K3.1 ge_b4))
  have lt_b3 : b3 < h3.size := Exa.lt A3
  have f7 := (kFld K5 (kFld K4 F_b3_coder nw0) (nwS (Or.inl (lt_ne lt_b3 ge_b4)) nw0))
  have f8 := (kExa K5 (kExa K4 A3))
  have f9 := (kFld K5 (kFld K4 F_b3_value nw0) (nwS (Or.inl (lt_ne lt_b3 ge_b4)) nw0))
  have f10 := (kOld K5 (kOld K4 (kOld K3 O0 na0) na0) (naS (P := fun w => n0 ≤ w.1) (Nat.le_trans Z0 (Nat.le_trans K3.1 ge_b4)) na0))
  have sz_0_2 := (Nat.le_trans K3.1 K4.1)
  have sz_0_3 := (Nat.le_trans sz_0_2 K5.1)
  obtain ⟨_, T6, L6, X6, hQ6, st6⟩ := own_init X5 hx hZ rfl hown (w8 hw) (w9 hw) (w6 hw) (w10 hw) (by decide) (r1__init_ l Z a0 hw [] b3 b4 (own_sys p0) k4 cs h5 n0 (Nat.le_trans Z0 sz_0_3) V5 sCS f7 f8 f9 f10 hcs (own_sysb _) (Nat.le_trans Z0 ge_b3)) e5 (W := 1) (by decide) (g := (mkF m 201 #[vi p0, vi p1, vi ((own_sys p0)), vi ((own_sys (own_u8 p0))), vi 0, vi ((p1 &&& (255 : Int32))), vi (((own_u8 p1) &&& (255 : Int32))), vi 0, .unset, .unset, .unset, .unset, .unset] [(.ref b4), (.ref b3), (.ref b3)])) rfl hml.symm (argsL := [(.ref b4)]) (rest := [(.ref b3)]) (lenOf pd_5 rfl) rfl rfl (own_wr rfl rfl) (hb hby at_201)
  obtain ⟨b1_5_3_6, k1_5_3_6, rfl, N6q, K6, Q6_0, Q6_1, Q6_2, Q6_3⟩ := hQ6
  have N6 := Fr.app N5 N6q
  have Ck3 := own_chK K6 (naF (Ck2.2 _ (Ck1.2 _ (Ck0.2 _ (Safe.new ge_b3)))) (naF (Ck2.2 _ (Ck1.2 _ (Ck0.2 _ (Safe.new ge_b3)))) na0)) Ah3.1
  have Ah4 := Ah3.trans Ck3.1
  obtain ⟨T12, h12, X12, e12, E12, A12, D12, -, st12⟩ := newO X6 hx hZ hown (w4 hw) (w5 hw) (w6 hw) rfl (g := (mkF m 260 #[vi p0, vi p1, vi ((own_sys p0)), vi ((own_sys (own_u8 p0))), vi 0, vi ((p1 &&& (255 : Int32))), vi (((own_u8 p1) &&& (255 : Int32))), vi 0, vr b3, .unset, .unset, .unset, .unset] [])) rfl (hb hby at_260) (by decide) (by decide)
  obtain ⟨b12, g12⟩ : ∃ z, z = T6.heap.size := ⟨_, rfl⟩
  rw [← g12] at A12 D12 st12
  have ge_b12 : T6.heap.size ≤ b12 := Nat.le_of_eq g12.symm
  have K12 := KL.ofE E12
  have Ck4 := own_chK K12 na0 Ah4.1
  have Ah5 := Ah4.trans Ck4.1
  have F_b12_coder : Fd0 Z h12 b12 z0 := D12 (Or.inr (w31 hw)) (ty := .byte) (by decide)
  have F_b12_value : Fd1 Z h12 b12 .null := D12 (Or.inr (w33 hw)) (ty := (.array .byte)) (by decide)
  obtain ⟨T13, h13, k13, X13, e13, E13, A13, st13⟩ := newP (aty := .char) X12 hx hZ (w7 hw) e12 (g := (mkF m 265 #[vi p0, vi p1, vi ((own_sys p0)), vi ((own_sys (own_u8 p0))), vi 0, vi ((p1 &&& (255 : Int32))), vi (((own_u8 p1) &&& (255 : Int32))), vi 0, vr b3, .unset, .unset, .unset, .unset] [(.int 1), (.ref b12), (.ref b12)])) rfl (hb hby at_265) rfl (by decide) (cap := 1) (by decide) (by decide) (by decide) (by decide)
  obtain ⟨b13, g13⟩ : ∃ z, z = h12.size := ⟨_, rfl⟩
  rw [← g13] at A13 st13
  have ge_b13 : h12.size ≤ b13 := Nat.le_of_eq g13.symm
  have K13 := KL.ofE E13
  have Ck5 := own_chK K13 na0 Ah5.1
  have Ah6 := Ah5.trans Ck5.1
  have V13 : Arv Z h13 b13 k13 .char 1 [z0] z0 := (Arv.new A13 (by decide)).pad (pad_rep [] z0 1)
  obtain ⟨T14, h14, X14, e14, W14, V14, st14⟩ := own_astC X13 hx hZ e13 V13 (j := 0) (by decide) 0 rfl (Nat.le_of_ble_eq_true rfl) (g := (mkF m 271 #[vi p0, vi p1, vi ((own_sys p0)), vi ((own_sys (own_u8 p0))), vi 0, vi ((p1 &&& (255 : Int32))), vi (((own_u8 p1) &&& (255 : Int32))), vi 0, vr b3, .unset, .unset, .unset, .unset] [(.int (p1 &&& (255 : Int32))), z0, (.ref b13), (.ref b13), (.ref b12), (.ref b12)])) rfl rfl (hb hby at_271)
  rw [show (nar .char (p1 &&& (255 : Int32))) = (p1 &&& (255 : Int32)) from (i2c_mask _)] at V14
  have sz_0_4 := (Nat.le_trans sz_0_3 K6.1)
  have sz_0_5 := (Nat.le_trans sz_0_4 K12.1)
  have K14 := KL.ofW W14
  have Ck6 := own_chK K14 (naF (Ck5.2 _ (Safe.new ge_b13)) na0) Ah6.1
  have Ah7 := Ah6.trans Ck6.1
  replace V14 : Arv Z h14 b13 k13 .char 1 [(.int (p1 &&& (255 : Int32)))] z0 := V14
  have N14 := Fr.snoc X14 N6 (Nat.le_trans Z0 (Nat.le_trans sz_0_5 ge_b13))
  have lt_b12 : b12 < h12.size := Exa.lt A12
  have f16 := (kFld K14 (kFld K13 F_b12_coder nw0) (nwS (Or.inl (lt_ne lt_b12 ge_b13)) nw0))
  have f17 := (kExa K14 (kExa K13 A12))
  have f18 := (kFld K14 (kFld K13 F_b12_value nw0) (nwS (Or.inl (lt_ne lt_b12 ge_b13)) nw0))
  have f19 := (kOld K14 (kOld K13 (kOld K12 (kOld K6 f10 (naS (P := fun w => n0 ≤ w.1) (Nat.le_trans Z0 ge_b3) (naS (P := fun w => n0 ≤ w.1) (Nat.le_trans Z0 ge_b3) na0))) na0) na0) (naS (P := fun w => n0 ≤ w.1) (Nat.le_trans Z0 (Nat.le_trans sz_0_5 ge_b13)) na0))
  have sz_0_6 := (Nat.le_trans sz_0_5 K13.1)
  have sz_0_7 := (Nat.le_trans sz_0_6 K14.1)
  obtain ⟨_, T15, L15, X15, hQ15, st15⟩ := own_init X14 hx hZ rfl hown (w8 hw) (w9 hw) (w6 hw) (w10 hw) (by decide) (r1__init_ l Z a0 hw [] b12 b13 (p1 &&& (255 : Int32)) k13 cs h14 n0 (Nat.le_trans Z0 sz_0_7) V14 sCS f16 f17 f18 f19 hcs (own_m255b _) (Nat.le_trans Z0 (Nat.le_trans sz_0_4 ge_b12))) e14 (W := 1) (by decide) (g := (mkF m 272 #[vi p0, vi p1, vi ((own_sys p0)), vi ((own_sys (own_u8 p0))), vi 0, vi ((p1 &&& (255 : Int32))), vi (((own_u8 p1) &&& (255 : Int32))), vi 0, vr b3, .unset, .unset, .unset, .unset] [(.ref b13), (.ref b12), (.ref b12)])) rfl hml.symm (argsL := [(.ref b13)]) (rest := [(.ref b12)]) (lenOf pd_5 rfl) rfl rfl (own_wr rfl rfl) (hb hby at_272)
  obtain ⟨b1_5_3_15, k1_5_3_15, rfl, N15q, K15, Q15_0, Q15_1, Q15_2, Q15_3⟩ := hQ15
  have N15 := Fr.app N14 N15q
  have Ck7 := own_chK K15 (naF (Ck6.2 _ (Ck5.2 _ (Ck4.2 _ (Safe.new ge_b12)))) (naF (Ck6.2 _ (Ck5.2 _ (Ck4.2 _ (Safe.new ge_b12)))) na0)) Ah7.1
  have Ah8 := Ah7.trans Ck7.1
  obtain ⟨T21, h21, k21, X21, e21, E21, A21, st21⟩ := newP (aty := .char) X15 hx hZ (w7 hw) rfl (g := (mkF m 278 #[vi p0, vi p1, vi ((own_sys p0)), vi ((own_sys (own_u8 p0))), vi 0, vi ((p1 &&& (255 : Int32))), vi (((own_u8 p1) &&& (255 : Int32))), vi 0, vr b3, vr b12, .unset, .unset, .unset] [(.int 3)])) rfl (hb hby at_278) rfl (by decide) (cap := 3) (by decide) (by decide) (by decide) (by decide)
  obtain ⟨b21, g21⟩ : ∃ z, z = T15.heap.size := ⟨_, rfl⟩
  rw [← g21] at A21 st21
  have ge_b21 : T15.heap.size ≤ b21 := Nat.le_of_eq g21.symm
  have K21 := KL.ofE E21
  have Ck8 := own_chK K21 na0 Ah8.1
  have Ah9 := Ah8.trans Ck8.1
  have V21 : Arv Z h21 b21 k21 .char 3 [z0, z0, z0] z0 := (Arv.new A21 (by decide)).pad (pad_rep [] z0 3)
  obtain ⟨T22, h22, X22, e22, W22, V22, st22⟩ := own_astC X21 hx hZ e21 V21 (j := 0) (by decide) 0 rfl (Nat.le_of_ble_eq_true rfl) (g := (mkF m 283 #[vi p0, vi p1, vi ((own_sys p0)), vi ((own_sys (own_u8 p0))), vi 0, vi ((p1 &&& (255 : Int32))), vi (((own_u8 p1) &&& (255 : Int32))), vi 0, vr b3, vr b12, .unset, .unset, .unset] [(.int (own_sys p0)), z0, (.ref b21), (.ref b21)])) rfl rfl (hb hby at_283)
  rw [show (nar .char (own_sys p0)) = (own_sys p0) from (own_c2c (own_sysa _) (own_sysb _))] at V22
  have sz_0_8 := (Nat.le_trans sz_0_7 K15.1)
  have K22 := KL.ofW W22
  have Ck9 := own_chK K22 (naF (Ck8.2 _ (Safe.new ge_b21)) na0) Ah9.1
  have Ah10 := Ah9.trans Ck9.1
  replace V22 : Arv Z h22 b21 k21 .char 3 [(.int (own_sys p0)), z0, z0] z0 := V22
  have N22 := Fr.snoc X22 N15 (Nat.le_trans Z0 (Nat.le_trans sz_0_8 ge_b21))
  obtain ⟨T23, h23, X23, e23, W23, V23, st23⟩ := own_astC X22 hx hZ e22 V22 (j := 1) (by decide) 1 rfl (Nat.le_of_ble_eq_true rfl) (g := (mkF m 288 #[vi p0, vi p1, vi ((own_sys p0)), vi ((own_sys (own_u8 p0))), vi 0, vi ((p1 &&& (255 : Int32))), vi (((own_u8 p1) &&& (255 : Int32))), vi 0, vr b3, vr b12, .unset, .unset, .unset] [(.int 58), (.int 1), (.ref b21), (.ref b21)])) rfl rfl (hb hby at_288)
  rw [show (nar .char 58) = (58 : Int32) from (by decide : (nar .char 58) = (58 : Int32))] at V23
  have K23 := KL.ofW W23
  have Ck10 := own_chK K23 (naF (Ck9.2 _ (Ck8.2 _ (Safe.new ge_b21))) na0) Ah10.1
  have Ah11 := Ah10.trans Ck10.1
  replace V23 : Arv Z h23 b21 k21 .char 3 [(.int (own_sys p0)), (.int 58), z0] z0 := V23
  have N23 := Fr.snoc X23 N22 (Nat.le_trans Z0 (Nat.le_trans sz_0_8 ge_b21))
  obtain ⟨T24, h24, X24, e24, W24, V24, st24⟩ := own_astC X23 hx hZ e23 V23 (j := 2) (by decide) 2 rfl (Nat.le_of_ble_eq_true rfl) (g := (mkF m 293 #[vi p0, vi p1, vi ((own_sys p0)), vi ((own_sys (own_u8 p0))), vi 0, vi ((p1 &&& (255 : Int32))), vi (((own_u8 p1) &&& (255 : Int32))), vi 0, vr b3, vr b12, .unset, .unset, .unset] [(.int (p1 &&& (255 : Int32))), (.int 2), (.ref b21), (.ref b21)])) rfl rfl (hb hby at_293)
  rw [show (nar .char (p1 &&& (255 : Int32))) = (p1 &&& (255 : Int32)) from (i2c_mask _)] at V24
  have K24 := KL.ofW W24
  have Ck11 := own_chK K24 (naF (Ck10.2 _ (Ck9.2 _ (Ck8.2 _ (Safe.new ge_b21)))) na0) Ah11.1
  have Ah12 := Ah11.trans Ck11.1
  replace V24 : Arv Z h24 b21 k21 .char 3 [(.int (own_sys p0)), (.int 58), (.int (p1 &&& (255 : Int32)))] z0 := V24
  have N24 := Fr.snoc X24 N23 (Nat.le_trans Z0 (Nat.le_trans sz_0_8 ge_b21))
  obtain ⟨T25, h25, X25, e25, E25, A25, D25, -, st25⟩ := newO X24 hx hZ hown (w34 hw) (w35 hw) (w36 hw) e24 (g := (mkF m 296 #[vi p0, vi p1, vi ((own_sys p0)), vi ((own_sys (own_u8 p0))), vi 0, vi ((p1 &&& (255 : Int32))), vi (((own_u8 p1) &&& (255 : Int32))), vi 0, vr b3, vr b12, vr b21, .unset, .unset] [])) rfl (hb hby at_296) (by decide) (by decide)
  obtain ⟨b25, g25⟩ : ∃ z, z = h24.size := ⟨_, rfl⟩
  rw [← g25] at A25 D25 st25
  have ge_b25 : h24.size ≤ b25 := Nat.le_of_eq g25.symm
  have K25 := KL.ofE E25
  have Ck12 := own_chK K25 na0 Ah12.1
  have Ah13 := Ah12.trans Ck12.1
  have F_b25_system : Fd2 Z h25 b25 .null := D25 (Or.inr (w102 hw)) (ty := (.object "java/lang/String")) (by decide)
  have F_b25_id : Fd3 Z h25 b25 .null := D25 (Or.inr (w104 hw)) (ty := (.object "java/lang/String")) (by decide)
  have f27 := (kExa K25 (kExa K24 (kExa K23 (kExa K22 (kExa K21 (kExa K15 (kExa K14 (kExa K13 (kExa K12 (kExa K6 f8))))))))))
  have sz_1_3 := (Nat.le_trans K4.1 K5.1)
  have sz_1_4 := (Nat.le_trans sz_1_3 K6.1)
  have sz_1_5 := (Nat.le_trans sz_1_4 K12.1)
  have sz_1_6 := (Nat.le_trans sz_1_5 K13.1)
  have sz_1_7 := (Nat.le_trans sz_1_6 K14.1)
  have sz_1_8 := (Nat.le_trans sz_1_7 K15.1)
  have f28 := (kFld K25 (kFld K24 (kFld K23 (kFld K22 (kFld K21 (kFld K15 (kFld K14 (kFld K13 (kFld K12 Q6_2 nw0) nw0) (nwS (Or.inl (lt_ne (Nat.lt_of_lt_of_le lt_b3 sz_1_5) ge_b13)) nw0)) (nwS (Or.inl (lt_ne (Nat.lt_of_lt_of_le lt_b3 sz_1_4) ge_b12)) (nwS (Or.inl (lt_ne (Nat.lt_of_lt_of_le lt_b3 sz_1_4) ge_b12)) nw0))) nw0) (nwS (Or.inl (lt_ne (Nat.lt_of_lt_of_le lt_b3 sz_1_8) ge_b21)) nw0)) (nwS (Or.inl (lt_ne (Nat.lt_of_lt_of_le lt_b3 sz_1_8) ge_b21)) nw0)) (nwS (Or.inl (lt_ne (Nat.lt_of_lt_of_le lt_b3 sz_1_8) ge_b21)) nw0)) nw0)
  have lt_b1_5_3_6 : b1_5_3_6 < T6.heap.size := Arv.lt Q6_3
  have sz_4_6 := (Nat.le_trans K12.1 K13.1)
  have sz_4_7 := (Nat.le_trans sz_4_6 K14.1)
  have sz_4_8 := (Nat.le_trans sz_4_7 K15.1)
  have f29 := (kArv K25 (kArv K24 (kArv K23 (kArv K22 (kArv K21 (kArv K15 (kArv K14 (kArv K13 (kArv K12 Q6_3 na0) na0) (naN (Ne.symm (lt_ne (Nat.lt_of_lt_of_le lt_b1_5_3_6 K12.1) ge_b13)) na0)) (naN (Ne.symm (lt_ne lt_b1_5_3_6 ge_b12)) (naN (Ne.symm (lt_ne lt_b1_5_3_6 ge_b12)) na0))) na0) (naN (Ne.symm (lt_ne (Nat.lt_of_lt_of_le lt_b1_5_3_6 sz_4_8) ge_b21)) na0)) (naN (Ne.symm (lt_ne (Nat.lt_of_lt_of_le lt_b1_5_3_6 sz_4_8) ge_b21)) na0)) (naN (Ne.symm (lt_ne (Nat.lt_of_lt_of_le lt_b1_5_3_6 sz_4_8) ge_b21)) na0)) na0)
  have f30 := (kFld K25 (kFld K24 (kFld K23 (kFld K22 (kFld K21 (kFld K15 (kFld K14 (kFld K13 (kFld K12 Q6_1 nw0) nw0) (nwS (Or.inl (lt_ne (Nat.lt_of_lt_of_le lt_b3 sz_1_5) ge_b13)) nw0)) (nwS (Or.inl (lt_ne (Nat.lt_of_lt_of_le lt_b3 sz_1_4) ge_b12)) (nwS (Or.inl (lt_ne (Nat.lt_of_lt_of_le lt_b3 sz_1_4) ge_b12)) nw0))) nw0) (nwS (Or.inl (lt_ne (Nat.lt_of_lt_of_le lt_b3 sz_1_8) ge_b21)) nw0)) (nwS (Or.inl (lt_ne (Nat.lt_of_lt_of_le lt_b3 sz_1_8) ge_b21)) nw0)) (nwS (Or.inl (lt_ne (Nat.lt_of_lt_of_le lt_b3 sz_1_8) ge_b21)) nw0)) nw0)
  have f31 := (kOld K25 (kOld K24 (kOld K23 (kOld K22 (kOld K21 (kOld K15 f19 (naS (P := fun w => n0 ≤ w.1) (Nat.le_trans Z0 (Nat.le_trans sz_0_4 ge_b12)) (naS (P := fun w => n0 ≤ w.1) (Nat.le_trans Z0 (Nat.le_trans sz_0_4 ge_b12)) na0))) na0) (naS (P := fun w => n0 ≤ w.1) (Nat.le_trans Z0 (Nat.le_trans sz_0_8 ge_b21)) na0)) (naS (P := fun w => n0 ≤ w.1) (Nat.le_trans Z0 (Nat.le_trans sz_0_8 ge_b21)) na0)) (naS (P := fun w => n0 ≤ w.1) (Nat.le_trans Z0 (Nat.le_trans sz_0_8 ge_b21)) na0)) na0)
  have f32 := (kExa K25 (kExa K24 (kExa K23 (kExa K22 (kExa K21 (kExa K15 f17))))))
  have sz_5_7 := (Nat.le_trans K13.1 K14.1)
  have sz_5_8 := (Nat.le_trans sz_5_7 K15.1)
  have f33 := (kFld K25 (kFld K24 (kFld K23 (kFld K22 (kFld K21 Q15_2 nw0) (nwS (Or.inl (lt_ne (Nat.lt_of_lt_of_le lt_b12 sz_5_8) ge_b21)) nw0)) (nwS (Or.inl (lt_ne (Nat.lt_of_lt_of_le lt_b12 sz_5_8) ge_b21)) nw0)) (nwS (Or.inl (lt_ne (Nat.lt_of_lt_of_le lt_b12 sz_5_8) ge_b21)) nw0)) nw0)
  have lt_b1_5_3_15 : b1_5_3_15 < T15.heap.size := Arv.lt Q15_3
  have f34 := (kArv K25 (kArv K24 (kArv K23 (kArv K22 (kArv K21 Q15_3 na0) (naN (Ne.symm (lt_ne lt_b1_5_3_15 ge_b21)) na0)) (naN (Ne.symm (lt_ne lt_b1_5_3_15 ge_b21)) na0)) (naN (Ne.symm (lt_ne lt_b1_5_3_15 ge_b21)) na0)) na0)
  have sz_0_9 := (Nat.le_trans sz_0_8 K21.1)
  have sz_0_10 := (Nat.le_trans sz_0_9 K22.1)
  have sz_0_11 := (Nat.le_trans sz_0_10 K23.1)
  have sz_0_12 := (Nat.le_trans sz_0_11 K24.1)
  have sz_0_13 := (Nat.le_trans sz_0_12 K25.1)
  obtain ⟨_, T26, L26, X26, hS26, hk26, hZ26, hown26, hQ26, hC26, st26⟩ := own_Hinit X25 hx hZ rfl hown (w37 hw) (w38 hw) (w36 hw) (w39 hw) (by decide) (r6__init_ l Z a0 hw [] b25 b3 b12 b1_5_3_6 ((own_sys p0).toInt8.toInt32) k1_5_3_6 cs b1_5_3_15 ((p1 &&& (255 : Int32)).toInt8.toInt32) k1_5_3_15 h25 n0 (Nat.le_trans Z0 sz_0_13) f27 f28 f29 sCS f30 f31 hcs (own_sysn _) f32 f33 f34 F_b25_system A25 (Nat.le_trans Z0 (Nat.le_trans sz_0_12 ge_b25)) F_b25_id) e25 (W := 1) (by decide) (g := (mkF m 304 #[vi p0, vi p1, vi ((own_sys p0)), vi ((own_sys (own_u8 p0))), vi 0, vi ((p1 &&& (255 : Int32))), vi (((own_u8 p1) &&& (255 : Int32))), vi 0, vr b3, vr b12, vr b21, .unset, .unset] [(.ref b12), (.ref b3), (.ref b25), (.ref b25)])) rfl hml.symm (argsL := [(.ref b3), (.ref b12)]) (rest := [(.ref b25)]) (lenOf pd_15 rfl) rfl rfl (own_wr rfl rfl) (hb hby at_304) hS0 (Nat.le_trans hk0 sz_0_13) (own_EW hw) Ah13.1 sf0
  obtain ⟨rfl, N26q, K26, Q26_0, Q26_1⟩ := hQ26
  have N26 := Fr.app N24 N26q
  have Ah14 := Ah13.trans hC26
  have f36 := (kOld K26 f31 (naS (P := fun w => n0 ≤ w.1) (Nat.le_trans Z0 (Nat.le_trans sz_0_12 ge_b25)) (naS (P := fun w => n0 ≤ w.1) (Nat.le_trans Z0 (Nat.le_trans sz_0_12 ge_b25)) na0)))
  have f37 := (kExa K26 f27)
  have sz_1_9 := (Nat.le_trans sz_1_8 K21.1)
  have sz_1_10 := (Nat.le_trans sz_1_9 K22.1)
  have sz_1_11 := (Nat.le_trans sz_1_10 K23.1)
  have sz_1_12 := (Nat.le_trans sz_1_11 K24.1)
  have f38 := (kFld K26 f28 (nwS (Or.inl (lt_ne (Nat.lt_of_lt_of_le lt_b3 sz_1_12) ge_b25)) (nwS (Or.inl (lt_ne (Nat.lt_of_lt_of_le lt_b3 sz_1_12) ge_b25)) nw0)))
  have sz_4_9 := (Nat.le_trans sz_4_8 K21.1)
  have sz_4_10 := (Nat.le_trans sz_4_9 K22.1)
  have sz_4_11 := (Nat.le_trans sz_4_10 K23.1)
  have sz_4_12 := (Nat.le_trans sz_4_11 K24.1)
  have f39 := (kArv K26 f29 (naN (Ne.symm (lt_ne (Nat.lt_of_lt_of_le lt_b1_5_3_6 sz_4_12) ge_b25)) (naN (Ne.symm (lt_ne (Nat.lt_of_lt_of_le lt_b1_5_3_6 sz_4_12) ge_b25)) na0)))
  have f40 := (kFld K26 f30 (nwS (Or.inl (lt_ne (Nat.lt_of_lt_of_le lt_b3 sz_1_12) ge_b25)) (nwS (Or.inl (lt_ne (Nat.lt_of_lt_of_le lt_b3 sz_1_12) ge_b25)) nw0)))
  have f41 := (kExa K26 f32)
  have sz_5_9 := (Nat.le_trans sz_5_8 K21.1)
  have sz_5_10 := (Nat.le_trans sz_5_9 K22.1)
  have sz_5_11 := (Nat.le_trans sz_5_10 K23.1)
  have sz_5_12 := (Nat.le_trans sz_5_11 K24.1)
  have f42 := (kFld K26 f33 (nwS (Or.inl (lt_ne (Nat.lt_of_lt_of_le lt_b12 sz_5_12) ge_b25)) (nwS (Or.inl (lt_ne (Nat.lt_of_lt_of_le lt_b12 sz_5_12) ge_b25)) nw0)))
  have sz_8_10 := (Nat.le_trans K21.1 K22.1)
  have sz_8_11 := (Nat.le_trans sz_8_10 K23.1)
  have sz_8_12 := (Nat.le_trans sz_8_11 K24.1)
  have f43 := (kArv K26 f34 (naN (Ne.symm (lt_ne (Nat.lt_of_lt_of_le lt_b1_5_3_15 sz_8_12) ge_b25)) (naN (Ne.symm (lt_ne (Nat.lt_of_lt_of_le lt_b1_5_3_15 sz_8_12) ge_b25)) na0)))
  have f44 := (kFld K26 (kFld K25 (kFld K24 (kFld K23 (kFld K22 (kFld K21 Q15_1 nw0) (nwS (Or.inl (lt_ne (Nat.lt_of_lt_of_le lt_b12 sz_5_8) ge_b21)) nw0)) (nwS (Or.inl (lt_ne (Nat.lt_of_lt_of_le lt_b12 sz_5_8) ge_b21)) nw0)) (nwS (Or.inl (lt_ne (Nat.lt_of_lt_of_le lt_b12 sz_5_8) ge_b21)) nw0)) nw0) (nwS (Or.inl (lt_ne (Nat.lt_of_lt_of_le lt_b12 sz_5_12) ge_b25)) (nwS (Or.inl (lt_ne (Nat.lt_of_lt_of_le lt_b12 sz_5_12) ge_b25)) nw0)))
  have sz_0_14 := (Nat.le_trans sz_0_13 K26.1)
  have f45 := (kExa K26 A25)
  obtain ⟨_, T35, L35, X35, hS35, hk35, hZ35, hown35, hQ35, hC35, st35⟩ := own_Hvirtual X26 hx hZ26 hown26 (w105 hw) (w106 hw) (nfS hZ26 (w108 hw)) (w108 hw) (w107 hw) (w36 hw) (w109 hw) (by decide) (r20_toString l Z a0 hw [] b25 cs b3 b1_5_3_6 ((own_sys p0).toInt8.toInt32) k1_5_3_6 b12 b1_5_3_15 ((p1 &&& (255 : Int32)).toInt8.toInt32) k1_5_3_15 T26.heap n0 (Nat.le_trans Z0 sz_0_14) sCS f36 hcs Q26_0 f37 f38 f39 f40 Q26_1 f41 f42 f43 f44) rfl f45 (W := 0) (by decide) (g := (mkF m 311 #[vi p0, vi p1, vi ((own_sys p0)), vi ((own_sys (own_u8 p0))), vi 0, vi ((p1 &&& (255 : Int32))), vi (((own_u8 p1) &&& (255 : Int32))), vi 0, vr b3, vr b12, vr b21, vr b25, .unset] [(.ref b25)])) rfl hml.symm (argsL := []) (rest := []) (lenOf pd_27 rfl) rfl rfl (own_wr rfl rfl) (hb hby at_311) hS26 hk26 (own_EW hw) Ah14.1 sf0
  obtain ⟨b1_41_35, b2_4_11_6_7_41_35, k2_4_11_6_7_41_35, rfl, N35q, K35, Q35_0, Q35_1, Q35_2, Q35_3, Q35_4, Q35_5, Q35_6⟩ := hQ35
  have N35 := Fr.app N26 N35q
  have Ah15 := Ah14.trans hC35
  obtain ⟨T48, h48, X48, e48, E48, A48, D48, -, st48⟩ := newO X35 hx hZ35 hown35 (w4 hw) (w5 hw) (w6 hw) rfl (g := (mkF m 318 #[vi p0, vi p1, vi ((own_sys p0)), vi ((own_sys (own_u8 p0))), vi 0, vi ((p1 &&& (255 : Int32))), vi (((own_u8 p1) &&& (255 : Int32))), vi 0, vr b3, vr b12, vr b21, vr b25, vr b1_41_35] [(.ref b1_41_35)])) rfl (hb hby at_318) (by decide) (by decide)
  obtain ⟨b48, g48⟩ : ∃ z, z = T35.heap.size := ⟨_, rfl⟩
  rw [← g48] at A48 D48 st48
  have ge_b48 : T35.heap.size ≤ b48 := Nat.le_of_eq g48.symm
  have K48 := KL.ofE E48
  have Ck15 := own_chK K48 na0 Ah15.1
  have Ah16 := Ah15.trans Ck15.1
  have F_b48_coder : Fd0 Z h48 b48 z0 := D48 (Or.inr (w31 hw)) (ty := .byte) (by decide)
  have F_b48_value : Fd1 Z h48 b48 .null := D48 (Or.inr (w33 hw)) (ty := (.array .byte)) (by decide)
  have lt_b21 : b21 < h21.size := Arv.lt V21
  have sz_9_11 := (Nat.le_trans K22.1 K23.1)
  have sz_9_12 := (Nat.le_trans sz_9_11 K24.1)
  have f50 := (kArv K48 (kArv K35 (kArv K26 (kArv K25 V24 na0) (naN (Ne.symm (lt_ne (Nat.lt_of_lt_of_le lt_b21 sz_9_12) ge_b25)) (naN (Ne.symm (lt_ne (Nat.lt_of_lt_of_le lt_b21 sz_9_12) ge_b25)) na0))) na0) na0)
  have f51 := (kOld K48 (kOld K35 f36 na0) na0)
  have sz_0_15 := (Nat.le_trans sz_0_14 K35.1)
  have sz_0_16 := (Nat.le_trans sz_0_15 K48.1)
  obtain ⟨_, T49, L49, X49, hQ49, st49⟩ := own_init X48 hx hZ35 rfl hown35 (w8 hw) (w9 hw) (w6 hw) (w10 hw) (by decide) (r50__init_ l Z a0 hw [] b48 b21 (own_sys p0) (58 : Int32) (p1 &&& (255 : Int32)) k21 cs h48 n0 (Nat.le_trans Z0 sz_0_16) f50 sCS F_b48_coder A48 F_b48_value f51 hcs (own_sysb _) (by decide) (own_m255b _) (Nat.le_trans Z0 (Nat.le_trans sz_0_15 ge_b48))) e48 (W := 2) (by decide) (g := (mkF m 324 #[vi p0, vi p1, vi ((own_sys p0)), vi ((own_sys (own_u8 p0))), vi 0, vi ((p1 &&& (255 : Int32))), vi (((own_u8 p1) &&& (255 : Int32))), vi 0, vr b3, vr b12, vr b21, vr b25, vr b1_41_35] [(.ref b21), (.ref b48), (.ref b48), (.ref b1_41_35)])) rfl hml.symm (argsL := [(.ref b21)]) (rest := [(.ref b48), (.ref b1_41_35)]) (lenOf pd_5 rfl) rfl rfl (own_wr rfl rfl) (hb hby at_324)
  obtain ⟨b1_7_5_49, k1_7_5_49, rfl, N49q, K49, Q49_0, Q49_1, Q49_2, Q49_3⟩ := hQ49
  have N49 := Fr.app N35 N49q
  have Ck16 := own_chK K49 (naF (Ck15.2 _ (Safe.new ge_b48)) (naF (Ck15.2 _ (Safe.new ge_b48)) na0)) Ah16.1
  have Ah17 := Ah16.trans Ck16.1
  have lt_b1_41_35 : b1_41_35 < T35.heap.size := Exa.lt Q35_3
  have f54 := (kExa K49 A48)
  have f55 := (kOld K49 f51 (naS (P := fun w => n0 ≤ w.1) (Nat.le_trans Z0 (Nat.le_trans sz_0_15 ge_b48)) (naS (P := fun w => n0 ≤ w.1) (Nat.le_trans Z0 (Nat.le_trans sz_0_15 ge_b48)) na0)))
  have f56 := (kFld K49 (kFld K48 Q35_4 nw0) (nwS (Or.inl (lt_ne lt_b1_41_35 ge_b48)) (nwS (Or.inl (lt_ne lt_b1_41_35 ge_b48)) nw0)))
  have f57 := (kFld K49 (kFld K48 Q35_5 nw0) (nwS (Or.inl (lt_ne lt_b1_41_35 ge_b48)) (nwS (Or.inl (lt_ne lt_b1_41_35 ge_b48)) nw0)))
  have lt_b2_4_11_6_7_41_35 : b2_4_11_6_7_41_35 < T35.heap.size := Arv.lt Q35_6
  have f58 := (kArv K49 (kArv K48 Q35_6 na0) (naN (Ne.symm (lt_ne lt_b2_4_11_6_7_41_35 ge_b48)) (naN (Ne.symm (lt_ne lt_b2_4_11_6_7_41_35 ge_b48)) na0)))
  have sz_0_17 := (Nat.le_trans sz_0_16 K49.1)
  have f59 := (kExa K49 (kExa K48 Q35_3))
  obtain ⟨_, T53, L53, X53, hQ53, st53⟩ := own_virtual X49 hx hZ35 hown35 (w209 hw) (w210 hw) (nfS hZ35 (w212 hw)) (w212 hw) (w211 hw) (w6 hw) (w213 hw) (by decide) (r55_equals l Z a0 hw [] b1_41_35 b48 cs b2_4_11_6_7_41_35 b1_7_5_49 ((own_sys p0).toInt8.toInt32) (58 : Int32) ((p1 &&& (255 : Int32)).toInt8.toInt32) k2_4_11_6_7_41_35 ((58 : Int32).toInt8.toInt32) k1_7_5_49 T49.heap n0 (Nat.le_trans Z0 sz_0_17) (lt_ne lt_b1_41_35 ge_b48) f54 sCS f55 hcs f56 Q49_1 f57 Q49_2 f58 Q49_3 (by decide)) rfl f59 (W := 0) (by decide) (g := (mkF m 327 #[vi p0, vi p1, vi ((own_sys p0)), vi ((own_sys (own_u8 p0))), vi 0, vi ((p1 &&& (255 : Int32))), vi (((own_u8 p1) &&& (255 : Int32))), vi 0, vr b3, vr b12, vr b21, vr b25, vr b1_41_35] [(.ref b48), (.ref b1_41_35)])) rfl hml.symm (argsL := [(.ref b48)]) (rest := []) (lenOf pd_29 rfl) rfl rfl (own_wr rfl rfl) (hb hby at_327)
  obtain ⟨rfl, N53q, e53⟩ := hQ53
  have N53 := Fr.app N49 N53q
  have sz_15_17 := (Nat.le_trans K48.1 K49.1)
  refine ⟨T53, _, some (.int 1), _, _, X53, hS35, (by rw [e53]; exact (Nat.le_trans hk35 sz_15_17)), (fun h => by cases h <;> rfl), ?_, (by rw [e53]; exact Ah17), hZ35, fun fs hr => ?_⟩
  · show Q_law n0 _ _
    exact ⟨rfl, N53⟩
  · refine t_iloadN 1 X0.here hx (hb hby at_0) rfl rfl ?_
    refine st1 _ ?_
    refine t_istoreN (pc' := 5) (L' := #[vi p0, vi p1, vi ((own_sys p0)), .unset, .unset, .unset, .unset, .unset, .unset, .unset, .unset, .unset, .unset]) X1.here hx (hb hby at_4) rfl rfl ?_
    refine t_iloadN 6 X1.here hx (hb hby at_5) rfl rfl ?_
    refine t_bipush 8 (r := 8) X1.here hx (hb hby at_6) (by decide) rfl ?_
    refine t_iushr 9 (r := (own_u8 p0)) X1.here hx (hb hby at_8) (Eq.refl (own_u8 p0)) rfl ?_
    refine st2 _ ?_
    refine t_istoreN (pc' := 13) (L' := #[vi p0, vi p1, vi ((own_sys p0)), vi ((own_sys (own_u8 p0))), .unset, .unset, .unset, .unset, .unset, .unset, .unset, .unset, .unset]) X2.here hx (hb hby at_12) rfl rfl ?_
    refine t_iloadN 14 X2.here hx (hb hby at_13) rfl rfl ?_
    refine t_bipush 16 (r := 16) X2.here hx (hb hby at_14) (by decide) rfl ?_
    refine t_iushr 17 (r := (own_u16 p0)) X2.here hx (hb hby at_16) (Eq.refl (own_u16 p0)) rfl ?_
    refine t_iconst 18 (r := 1) X2.here hx (hb hby at_17) (by decide) rfl ?_
    refine t_iand 19 X2.here hx (hb hby at_18) rfl rfl ?_
    refine t_ifYes (pc := 19) 26 X2.here hx (hb hby at_19) ((if0 _ _).trans (teq hp0).1) (by decide) (by decide) ?_
    refine t_iconst 27 (r := 0) X2.here hx (hb hby at_26) (by decide) rfl ?_
    refine t_istore (pc' := 29) (L' := #[vi p0, vi p1, vi ((own_sys p0)), vi ((own_sys (own_u8 p0))), vi 0, .unset, .unset, .unset, .unset, .unset, .unset, .unset, .unset]) X2.here hx (hb hby at_27) rfl rfl ?_
    refine t_iloadN 30 X2.here hx (hb hby at_29) rfl rfl ?_
    refine t_sipush 33 (r := 255) X2.here hx (hb hby at_30) (by decide) rfl ?_
    refine t_iand 34 X2.here hx (hb hby at_33) rfl rfl ?_
    refine t_i2c 35 (r := (p1 &&& (255 : Int32))) X2.here hx (hb hby at_34) (i2c_mask _) rfl ?_
    refine t_istore (pc' := 37) (L' := #[vi p0, vi p1, vi ((own_sys p0)), vi ((own_sys (own_u8 p0))), vi 0, vi ((p1 &&& (255 : Int32))), .unset, .unset, .unset, .unset, .unset, .unset, .unset]) X2.here hx (hb hby at_35) rfl rfl ?_
    refine t_iloadN 38 X2.here hx (hb hby at_37) rfl rfl ?_
    refine t_bipush 40 (r := 8) X2.here hx (hb hby at_38) (by decide) rfl ?_
    refine t_iushr 41 (r := (own_u8 p1)) X2.here hx (hb hby at_40) (Eq.refl (own_u8 p1)) rfl ?_
    refine t_sipush 44 (r := 255) X2.here hx (hb hby at_41) (by decide) rfl ?_
    refine t_iand 45 X2.here hx (hb hby at_44) rfl rfl ?_
    refine t_i2c 46 (r := ((own_u8 p1) &&& (255 : Int32))) X2.here hx (hb hby at_45) (i2c_mask _) rfl ?_
    refine t_istore (pc' := 48) (L' := #[vi p0, vi p1, vi ((own_sys p0)), vi ((own_sys (own_u8 p0))), vi 0, vi ((p1 &&& (255 : Int32))), vi (((own_u8 p1) &&& (255 : Int32))), .unset, .unset, .unset, .unset, .unset, .unset]) X2.here hx (hb hby at_46) rfl rfl ?_
    refine t_iloadN 49 X2.here hx (hb hby at_48) rfl rfl ?_
    refine t_bipush 51 (r := 16) X2.here hx (hb hby at_49) (by decide) rfl ?_
    refine t_iushr 52 (r := (own_u16 p1)) X2.here hx (hb hby at_51) (Eq.refl (own_u16 p1)) rfl ?_
    refine t_iconst 53 (r := 1) X2.here hx (hb hby at_52) (by decide) rfl ?_
    refine t_iand 54 X2.here hx (hb hby at_53) rfl rfl ?_
    refine t_ifYes (pc := 54) 61 X2.here hx (hb hby at_54) ((if0 _ _).trans (teq hp1).1) (by decide) (by decide) ?_
    refine t_iconst 62 (r := 0) X2.here hx (hb hby at_61) (by decide) rfl ?_
    refine t_istore (pc' := 64) (L' := #[vi p0, vi p1, vi ((own_sys p0)), vi ((own_sys (own_u8 p0))), vi 0, vi ((p1 &&& (255 : Int32))), vi (((own_u8 p1) &&& (255 : Int32))), vi 0, .unset, .unset, .unset, .unset, .unset]) X2.here hx (hb hby at_62) rfl rfl ?_
    refine t_iload 66 X2.here hx (hb hby at_64) rfl rfl ?_
    refine t_ifYes (pc := 66) 190 X2.here hx (hb hby at_66) (by decide) (by decide) (by decide) ?_
    refine st3 _ ?_
    refine t_dup 194 X3.here hx (hb hby at_193) rfl rfl ?_
    refine t_iconst 195 (r := 1) X3.here hx (hb hby at_194) (by decide) rfl ?_
    refine st4 _ ?_
    refine t_dup 198 X4.here hx (hb hby at_197) rfl rfl ?_
    refine t_iconst 199 (r := 0) X4.here hx (hb hby at_198) (by decide) rfl ?_
    refine t_iloadN 200 X4.here hx (hb hby at_199) rfl rfl ?_
    refine st5 _ ?_
    refine st6 _ ?_
    refine t_astore (pc' := 206) (L' := #[vi p0, vi p1, vi ((own_sys p0)), vi ((own_sys (own_u8 p0))), vi 0, vi ((p1 &&& (255 : Int32))), vi (((own_u8 p1) &&& (255 : Int32))), vi 0, vr b3, .unset, .unset, .unset, .unset]) X6.here hx (hb hby at_204) rfl rfl rfl ?_
    refine t_iload 208 X6.here hx (hb hby at_206) rfl rfl ?_
    refine t_ifYes (pc := 208) 260 X6.here hx (hb hby at_208) (by decide) (by decide) (by decide) ?_
    refine st12 _ ?_
    refine t_dup 264 X12.here hx (hb hby at_263) rfl rfl ?_
    refine t_iconst 265 (r := 1) X12.here hx (hb hby at_264) (by decide) rfl ?_
    refine st13 _ ?_
    refine t_dup 268 X13.here hx (hb hby at_267) rfl rfl ?_
    refine t_iconst 269 (r := 0) X13.here hx (hb hby at_268) (by decide) rfl ?_
    refine t_iload 271 X13.here hx (hb hby at_269) rfl rfl ?_
    refine st14 _ ?_
    refine st15 _ ?_
    refine t_astore (pc' := 277) (L' := #[vi p0, vi p1, vi ((own_sys p0)), vi ((own_sys (own_u8 p0))), vi 0, vi ((p1 &&& (255 : Int32))), vi (((own_u8 p1) &&& (255 : Int32))), vi 0, vr b3, vr b12, .unset, .unset, .unset]) X15.here hx (hb hby at_275) rfl rfl rfl ?_
    refine t_iconst 278 (r := 3) X15.here hx (hb hby at_277) (by decide) rfl ?_
    refine st21 _ ?_
    refine t_dup 281 X21.here hx (hb hby at_280) rfl rfl ?_
    refine t_iconst 282 (r := 0) X21.here hx (hb hby at_281) (by decide) rfl ?_
    refine t_iloadN 283 X21.here hx (hb hby at_282) rfl rfl ?_
    refine st22 _ ?_
    refine t_dup 285 X22.here hx (hb hby at_284) rfl rfl ?_
    refine t_iconst 286 (r := 1) X22.here hx (hb hby at_285) (by decide) rfl ?_
    refine t_bipush 288 (r := 58) X22.here hx (hb hby at_286) (by decide) rfl ?_
    refine st23 _ ?_
    refine t_dup 290 X23.here hx (hb hby at_289) rfl rfl ?_
    refine t_iconst 291 (r := 2) X23.here hx (hb hby at_290) (by decide) rfl ?_
    refine t_iload 293 X23.here hx (hb hby at_291) rfl rfl ?_
    refine st24 _ ?_
    refine t_astore (pc' := 296) (L' := #[vi p0, vi p1, vi ((own_sys p0)), vi ((own_sys (own_u8 p0))), vi 0, vi ((p1 &&& (255 : Int32))), vi (((own_u8 p1) &&& (255 : Int32))), vi 0, vr b3, vr b12, vr b21, .unset, .unset]) X24.here hx (hb hby at_294) rfl rfl rfl ?_
    refine st25 _ ?_
    refine t_dup 300 X25.here hx (hb hby at_299) rfl rfl ?_
    refine t_aload 302 X25.here hx (hb hby at_300) rfl rfl rfl ?_
    refine t_aload 304 X25.here hx (hb hby at_302) rfl rfl rfl ?_
    refine st26 _ ?_
    refine t_astore (pc' := 309) (L' := #[vi p0, vi p1, vi ((own_sys p0)), vi ((own_sys (own_u8 p0))), vi 0, vi ((p1 &&& (255 : Int32))), vi (((own_u8 p1) &&& (255 : Int32))), vi 0, vr b3, vr b12, vr b21, vr b25, .unset]) X26.here hx (hb hby at_307) rfl rfl rfl ?_
    refine t_aload 311 X26.here hx (hb hby at_309) rfl rfl rfl ?_
    refine st35 _ ?_
    refine t_astore (pc' := 316) (L' := #[vi p0, vi p1, vi ((own_sys p0)), vi ((own_sys (own_u8 p0))), vi 0, vi ((p1 &&& (255 : Int32))), vi (((own_u8 p1) &&& (255 : Int32))), vi 0, vr b3, vr b12, vr b21, vr b25, vr b1_41_35]) X35.here hx (hb hby at_314) rfl rfl rfl ?_
    refine t_aload 318 X35.here hx (hb hby at_316) rfl rfl rfl ?_
    refine st48 _ ?_
    refine t_dup 322 X48.here hx (hb hby at_321) rfl rfl ?_
    refine t_aload 324 X48.here hx (hb hby at_322) rfl rfl rfl ?_
    refine st49 _ ?_
    refine st53 _ ?_
    exact retN X53 hx (t := .boolean) hret (by simp) (hb hby at_330) hr
def WS_r60_compress (Z : State) (o2 : Addr) : List (Addr × Nat) := [(o2, (0 : Int32).toNatClampNeg), (o2, (1 : Int32).toNatClampNeg)]
def Q_r60_compress (Z : State) (o0 o2 : Addr) (i_1 i_2 : Int32) (k_o0 k_o2 : ClassId) (h0 : Heap) (n0 : Nat) (v : Option Value) (h : Heap) (L : List Loc) : Prop := v = some (.int 2) ∧ Fr n0 L ∧ KL h0 h (WS_r60_compress Z o2) ∧ Arv Z h o2 k_o2 .byte 2 [(.int (i_1.toInt8.toInt32)), (.int (i_2.toInt8.toInt32))] z0
theorem ef_r60_compress (o0 o2 : Addr) (m : MethodId) : entryFrame m #[(.ref o0), (.int 0), (.ref o2), (.int 0), (.int 2)] 7 = mkF m 0 #[.val (.ref o0), .val (.int 0), .val (.ref o2), .val (.int 0), .val (.int 2), .unset, .unset] [] := by first | (simp [entryFrame, mkF, argsToLocals, Value.category]; done) | rfl
set_option maxRecDepth 65536 in
set_option maxHeartbeats 40000000 in
theorem r60_compress (l : Launch) (Z : State) (a0 : Array Value) (hw : HW Z a0) (ws : List Jvm.Cond) (o0 o2 : Addr) (i_1 i_2 : Int32) (k_o0 k_o2 : ClassId) (h0 : Heap) (n0 : Nat) (Z0 : n0 ≤ h0.size) (V_o0 : Arv Z h0 o0 k_o0 .char 2 [(.int i_1), (.int i_2)] z0) (hp0 : ¬ ((255 : Int32) < i_1)) (V_o2 : Arv Z h0 o2 k_o2 .byte 2 [z0, z0] z0) (g_o2 : n0 ≤ o2) (ne_o0_o2 : o0 ≠ o2) (hp1 : ¬ ((255 : Int32) < i_2)) :
    MF l Z y1_compress b4_ 7 (some .int) ws ⟨0, 0, 0, 0⟩ #[(.ref o0), z0, (.ref o2), z0, (.int 2)] h0 (Q_r60_compress Z o0 o2 i_1 i_2 k_o0 k_o2 h0 n0) := by
  refine own_body (plainFor_of_name pn_StringUTF16906) (ef_r60_compress o0 o2) (by decide) (by decide) ?_
  intro p e s m below meth c s₁ hx hby hml hown hnm hret hZ hh e0 X0
  have N0 := Fr.nil n0
  obtain ⟨T3, h3, X3, e3, W3, V3, st3⟩ := own_astB X0 hx hZ e0 V_o2 (j := 0) (by decide) 0 rfl (Nat.le_of_ble_eq_true rfl) (g := (mkF m 31 #[vr o0, vi 0, vr o2, vi 0, vi 2, vi 0, vi i_1] [(.int (i_1.toInt8.toInt32)), z0, (.ref o2)])) rfl rfl (hb hby d54)
  rw [show (nar .byte (i_1.toInt8.toInt32)) = (i_1.toInt8.toInt32) from (own_narb _)] at V3
  have K3 := KL.ofW W3
  replace V3 : Arv Z h3 o2 k_o2 .byte 2 [(.int (i_1.toInt8.toInt32)), z0] z0 := V3
  have N3 := Fr.snoc X3 N0 g_o2
  have f4 := (kArv K3 V_o0 (naN (Ne.symm ne_o0_o2) na0))
  obtain ⟨T5, h5, X5, e5, W5, V5, st5⟩ := own_astB X3 hx hZ e3 V3 (j := 1) (by decide) 1 rfl (Nat.le_of_ble_eq_true rfl) (g := (mkF m 31 #[vr o0, vi 1, vr o2, vi 1, vi 2, vi 1, vi i_2] [(.int (i_2.toInt8.toInt32)), (.int 1), (.ref o2)])) rfl rfl (hb hby d54)
  rw [show (nar .byte (i_2.toInt8.toInt32)) = (i_2.toInt8.toInt32) from (own_narb _)] at V5
  have K5 := KL.ofW W5
  replace V5 : Arv Z h5 o2 k_o2 .byte 2 [(.int (i_1.toInt8.toInt32)), (.int (i_2.toInt8.toInt32))] z0 := V5
  have N5 := Fr.snoc X5 N3 g_o2
  have C0 := (KL.refl h0 (WS_r60_compress Z o2)).trans K3 (naO (own_mi 0 rfl) na0)
  have C1 := C0.trans K5 (naO (own_mi 1 rfl) na0)
  refine ⟨T5, _, some (.int 2), X5, (fun h => by cases h <;> rfl), ?_, fun fs hr => ?_⟩
  · show Q_r60_compress Z o0 o2 i_1 i_2 k_o0 k_o2 h0 n0 _ T5.heap _
    rw [e5]
    exact ⟨rfl, N5, C1, V5⟩
  · refine t_iconst 1 (r := 0) X0.here hx (hb hby d38) (by decide) rfl ?_
    refine t_istore (pc' := 3) (L' := #[vr o0, vi 0, vr o2, vi 0, vi 2, vi 0, .unset]) X0.here hx (hb hby d39) rfl rfl ?_
    refine t_iload 5 X0.here hx (hb hby d40) rfl rfl ?_
    refine t_iload 7 X0.here hx (hb hby d41) rfl rfl ?_
    refine t_icmpNo 10 X0.here hx (hb hby d42) (by decide) rfl ?_
    refine t_aloadN 11 X0.here hx (hb hby d43) rfl rfl rfl ?_
    refine t_iloadN 12 X0.here hx (hb hby d44) rfl rfl ?_
    refine own_aldC (pc' := 13) X0 hx hZ e0 V_o0 (j := 0) (v := (.int i_1)) (by decide) rfl (hb hby d45) rfl ?_
    refine t_istore (pc' := 15) (L' := #[vr o0, vi 0, vr o2, vi 0, vi 2, vi 0, vi i_1]) X0.here hx (hb hby d46) rfl rfl ?_
    refine t_iload 17 X0.here hx (hb hby d47) rfl rfl ?_
    refine t_sipush 20 (r := 255) X0.here hx (hb hby d48) (by decide) rfl ?_
    refine t_icmpYes (pc := 20) 26 X0.here hx (hb hby d49) (flt hp0).2.2.2 (by decide) (by decide) ?_
    refine t_aloadN 27 X0.here hx (hb hby d50) rfl rfl rfl ?_
    refine t_iloadN 28 X0.here hx (hb hby d51) rfl rfl ?_
    refine t_iload 30 X0.here hx (hb hby d52) rfl rfl ?_
    refine t_i2b 31 X0.here hx (hb hby d53) rfl rfl ?_
    refine st3 _ ?_
    refine t_iinc (pc' := 35) (L' := #[vr o0, vi 1, vr o2, vi 0, vi 2, vi 0, vi i_1]) X3.here hx (hb hby d55) rfl (by first | rfl | decide) rfl ?_
    refine t_iinc (pc' := 38) (L' := #[vr o0, vi 1, vr o2, vi 1, vi 2, vi 0, vi i_1]) X3.here hx (hb hby d56) rfl (by first | rfl | decide) rfl ?_
    refine t_iinc (pc' := 41) (L' := #[vr o0, vi 1, vr o2, vi 1, vi 2, vi 1, vi i_1]) X3.here hx (hb hby d57) rfl (by first | rfl | decide) rfl ?_
    refine t_goto (pc := 41) 3 X3.here hx (hb hby d58) (by decide) (by decide) ?_
    refine t_iload 5 X3.here hx (hb hby d40) rfl rfl ?_
    refine t_iload 7 X3.here hx (hb hby d41) rfl rfl ?_
    refine t_icmpNo 10 X3.here hx (hb hby d42) (by decide) rfl ?_
    refine t_aloadN 11 X3.here hx (hb hby d43) rfl rfl rfl ?_
    refine t_iloadN 12 X3.here hx (hb hby d44) rfl rfl ?_
    refine own_aldC (pc' := 13) X3 hx hZ e3 f4 (j := 1) (v := (.int i_2)) (by decide) rfl (hb hby d45) rfl ?_
    refine t_istore (pc' := 15) (L' := #[vr o0, vi 1, vr o2, vi 1, vi 2, vi 1, vi i_2]) X3.here hx (hb hby d46) rfl rfl ?_
    refine t_iload 17 X3.here hx (hb hby d47) rfl rfl ?_
    refine t_sipush 20 (r := 255) X3.here hx (hb hby d48) (by decide) rfl ?_
    refine t_icmpYes (pc := 20) 26 X3.here hx (hb hby d49) (flt hp1).2.2.2 (by decide) (by decide) ?_
    refine t_aloadN 27 X3.here hx (hb hby d50) rfl rfl rfl ?_
    refine t_iloadN 28 X3.here hx (hb hby d51) rfl rfl ?_
    refine t_iload 30 X3.here hx (hb hby d52) rfl rfl ?_
    refine t_i2b 31 X3.here hx (hb hby d53) rfl rfl ?_
    refine st5 _ ?_
    refine t_iinc (pc' := 35) (L' := #[vr o0, vi 2, vr o2, vi 1, vi 2, vi 1, vi i_2]) X5.here hx (hb hby d55) rfl (by first | rfl | decide) rfl ?_
    refine t_iinc (pc' := 38) (L' := #[vr o0, vi 2, vr o2, vi 2, vi 2, vi 1, vi i_2]) X5.here hx (hb hby d56) rfl (by first | rfl | decide) rfl ?_
    refine t_iinc (pc' := 41) (L' := #[vr o0, vi 2, vr o2, vi 2, vi 2, vi 2, vi i_2]) X5.here hx (hb hby d57) rfl (by first | rfl | decide) rfl ?_
    refine t_goto (pc := 41) 3 X5.here hx (hb hby d58) (by decide) (by decide) ?_
    refine t_iload 5 X5.here hx (hb hby d40) rfl rfl ?_
    refine t_iload 7 X5.here hx (hb hby d41) rfl rfl ?_
    refine t_icmpYes (pc := 7) 44 X5.here hx (hb hby d42) (by decide) (by decide) (by decide) ?_
    refine t_iload 46 X5.here hx (hb hby d59) rfl rfl ?_
    exact retI X5 hx hret (hb hby d60) hr
def Q_r59_compress (Z : State) (o0 : Addr) (i_2 i_3 : Int32) (k_o0 : ClassId) (h0 : Heap) (n0 : Nat) (v : Option Value) (h : Heap) (L : List Loc) : Prop := ∃ b1 : Addr, ∃ k1 : ClassId, v = some (.ref b1) ∧ Fr n0 L ∧ KL h0 h [] ∧ h0.size ≤ b1 ∧ Arv Z h b1 k1 .byte 2 [(.int (i_2.toInt8.toInt32)), (.int (i_3.toInt8.toInt32))] z0
theorem ef_r59_compress (o0 : Addr) (m : MethodId) : entryFrame m #[(.ref o0), (.int 0), (.int 2)] 6 = mkF m 0 #[.val (.ref o0), .val (.int 0), .val (.int 2), .unset, .unset, .unset] [] := by first | (simp [entryFrame, mkF, argsToLocals, Value.category]; done) | rfl
set_option maxRecDepth 65536 in
set_option maxHeartbeats 40000000 in
theorem r59_compress (l : Launch) (Z : State) (a0 : Array Value) (hw : HW Z a0) (ws : List Jvm.Cond) (o0 : Addr) (i_2 i_3 : Int32) (k_o0 : ClassId) (h0 : Heap) (n0 : Nat) (Z0 : n0 ≤ h0.size) (V_o0 : Arv Z h0 o0 k_o0 .char 2 [(.int i_2), (.int i_3)] z0) (hp0 : ¬ ((255 : Int32) < i_2)) (hp1 : ¬ ((255 : Int32) < i_3)) :
    MF l Z y2_compress b3_ 6 (some (.array .byte)) ws ⟨1, 1, 2, 18⟩ #[(.ref o0), z0, (.int 2)] h0 (Q_r59_compress Z o0 i_2 i_3 k_o0 h0 n0) := by
  refine own_body (plainFor_of_name pn_StringUTF16906) (ef_r59_compress o0) (by decide) (by decide) ?_
  intro p e s m below meth c s₁ hx hby hml hown hnm hret hZ hh e0 X0
  have N0 := Fr.nil n0
  obtain ⟨T1, h1, k1, X1, e1, E1, A1, st1⟩ := newP (aty := .byte) X0 hx hZ (w23 hw) e0 (g := (mkF m 1 #[vr o0, vi 0, vi 2, .unset, .unset, .unset] [(.int 2)])) rfl (hb hby d30) rfl (by decide) (cap := 2) (by decide) (by decide) (by decide) (by decide)
  obtain ⟨b1, g1⟩ : ∃ z, z = h0.size := ⟨_, rfl⟩
  rw [← g1] at A1 st1
  have ge_b1 : h0.size ≤ b1 := Nat.le_of_eq g1.symm
  have K1 := KL.ofE E1
  have V1 : Arv Z h1 b1 k1 .byte 2 [z0, z0] z0 := (Arv.new A1 (by decide)).pad (pad_rep [] z0 2)
  have f5 := (kArv K1 V_o0 na0)
  have lt_o0 : o0 < h0.size := Arv.lt V_o0
  obtain ⟨_, T4, L4, X4, hQ4, st4⟩ := own_static X1 hx hZ hown (w24 hw) (w25 hw) (w21 hw) (w26 hw) (by decide) (r60_compress l Z a0 hw [] o0 b1 i_2 i_3 k_o0 k1 h1 n0 (Nat.le_trans Z0 K1.1) f5 hp0 V1 (Nat.le_trans Z0 ge_b1) (lt_ne lt_o0 ge_b1) hp1) e1 (W := 0) (by decide) (g := (mkF m 9 #[vr o0, vi 0, vi 2, vr b1, .unset, .unset] [(.int 2), z0, (.ref b1), z0, (.ref o0)])) rfl hml.symm (argsL := [(.ref o0), z0, (.ref b1), z0, (.int 2)]) (rest := []) (lenOf pd_1 rfl) rfl rfl (own_wr rfl rfl) (hb hby d37)
  obtain ⟨rfl, N4q, K4, Q4_0⟩ := hQ4
  have N4 := Fr.app N0 N4q
  have C0 := (KL.refl h0 []).trans K1 na0
  have C1 := C0.trans K4 (naO (Or.inr ge_b1) (naO (Or.inr ge_b1) na0))
  refine ⟨T4, _, some (.ref b1), X4, (fun h => by cases h <;> rfl), ?_, fun fs hr => ?_⟩
  · show Q_r59_compress Z o0 i_2 i_3 k_o0 h0 n0 _ T4.heap _
    exact ⟨b1, k1, rfl, N4, C1, ge_b1, Q4_0⟩
  · refine t_iloadN 1 X0.here hx (hb hby d29) rfl rfl ?_
    refine st1 _ ?_
    refine t_astoreN (pc' := 4) (L' := #[vr o0, vi 0, vi 2, vr b1, .unset, .unset]) X1.here hx (hb hby d31) rfl rfl rfl ?_
    refine t_aloadN 5 X1.here hx (hb hby d32) rfl rfl rfl ?_
    refine t_iloadN 6 X1.here hx (hb hby d33) rfl rfl ?_
    refine t_aloadN 7 X1.here hx (hb hby d34) rfl rfl rfl ?_
    refine t_iconst 8 (r := 0) X1.here hx (hb hby d35) (by decide) rfl ?_
    refine t_iloadN 9 X1.here hx (hb hby d36) rfl rfl ?_
    refine st4 _ ?_
    refine t_istore (pc' := 14) (L' := #[vr o0, vi 0, vi 2, vr b1, vi 2, .unset]) X4.here hx (hb hby d61) rfl rfl ?_
    refine t_iload 16 X4.here hx (hb hby d62) rfl rfl ?_
    refine t_iloadN 17 X4.here hx (hb hby d63) rfl rfl ?_
    refine t_icmpYes (pc := 17) 57 X4.here hx (hb hby d64) (by decide) (by decide) (by decide) ?_
    refine t_aloadN 58 X4.here hx (hb hby d65) rfl rfl rfl ?_
    jvm_step X4.here [X4.here.top, hx, (hb hby d66), X4.method', hret, Value.isRef, FieldType.isReference]
    first | (intro acts; rw [hr _ acts rfl rfl rfl]) | rw [hr _ _ rfl rfl rfl]
    exact Steps.refl _
def Q_r61_coderFromArrayLen (Z : State) (o0 : Addr) (i_1 i_2 : Int32) (k_o0 : ClassId) (h0 : Heap) (n0 : Nat) (v : Option Value) (h : Heap) (L : List Loc) : Prop := v = some z0 ∧ Fr n0 L ∧ h = h0
theorem ef_r61_coderFromArrayLen (o0 : Addr) (m : MethodId) : entryFrame m #[(.ref o0), (.int 2)] 2 = mkF m 0 #[.val (.ref o0), .val (.int 2)] [] := by first | (simp [entryFrame, mkF, argsToLocals, Value.category]; done) | rfl
set_option maxRecDepth 65536 in
set_option maxHeartbeats 40000000 in
theorem r61_coderFromArrayLen (l : Launch) (Z : State) (a0 : Array Value) (hw : HW Z a0) (ws : List Jvm.Cond) (o0 : Addr) (i_1 i_2 : Int32) (k_o0 : ClassId) (h0 : Heap) (n0 : Nat) (Z0 : n0 ≤ h0.size) (V_o0 : Arv Z h0 o0 k_o0 .byte 2 [(.int i_1), (.int i_2)] z0) :
    MF l Z y3_coderFromArrayLen b5_ 2 (some .byte) ws ⟨0, 0, 0, 0⟩ #[(.ref o0), (.int 2)] h0 (Q_r61_coderFromArrayLen Z o0 i_1 i_2 k_o0 h0 n0) := by
  refine own_body (plainFor_of_name pn_StringUTF16906) (ef_r61_coderFromArrayLen o0) (by decide) (by decide) ?_
  intro p e s m below meth c s₁ hx hby hml hown hnm hret hZ hh e0 X0
  have N0 := Fr.nil n0
  refine ⟨s₁, _, some z0, X0, (fun h => by cases h <;> rfl), ?_, fun fs hr => ?_⟩
  · show Q_r61_coderFromArrayLen Z o0 i_1 i_2 k_o0 h0 n0 _ s₁.heap _
    rw [e0]
    exact ⟨rfl, N0, rfl⟩
  · refine t_iloadN 1 X0.here hx (hb hby d72) rfl rfl ?_
    refine t_aloadN 2 X0.here hx (hb hby d73) rfl rfl rfl ?_
    refine own_arlen (pc' := 3) X0 hx hZ e0 V_o0 (hb hby d74) rfl ?_
    refine t_isub 4 (r := 0) X0.here hx (hb hby d75) (by decide : ((2 : Int32) - (2 : Int32)) = (0 : Int32)) rfl ?_
    refine t_bipush 6 (r := 31) X0.here hx (hb hby d76) (by decide) rfl ?_
    refine t_iushr 7 (r := 0) X0.here hx (hb hby d77) (by decide : (((0 : Int32).toUInt32 >>> ((31 : Int32) &&& 31).toUInt32).toInt32) = (0 : Int32)) rfl ?_
    refine t_i2b 8 (r := 0) X0.here hx (hb hby d78) (by decide : ((0 : Int32).toInt8.toInt32) = (0 : Int32)) rfl ?_
    exact retN X0 hx (t := .byte) hret (by simp) (hb hby d79) hr
def WS_r58__init_ (Z : State) (o0 : Addr) : List (Addr × Nat) := [(o0, (sl0 Z)), (o0, (sl1 Z))]
def Q_r58__init_ (Z : State) (o0 o1 : Addr) (i_2 i_4 i_5 : Int32) (k_o1 : ClassId) (h0 : Heap) (n0 : Nat) (v : Option Value) (h : Heap) (L : List Loc) : Prop := ∃ b1_6 : Addr, ∃ k1_6 : ClassId, v = none ∧ Fr n0 L ∧ KL h0 h (WS_r58__init_ Z o0) ∧ h0.size ≤ b1_6 ∧ Fd0 Z h o0 z0 ∧ Fd1 Z h o0 (.ref b1_6) ∧ Arv Z h b1_6 k1_6 .byte 2 [(.int (i_4.toInt8.toInt32)), (.int (i_5.toInt8.toInt32))] z0
theorem ef_r58__init_ (o0 o1 : Addr) (m : MethodId) : entryFrame m #[(.ref o0), (.ref o1), (.int 0), (.int 2), .null] 6 = mkF m 0 #[.val (.ref o0), .val (.ref o1), .val (.int 0), .val (.int 2), .val .null, .unset] [] := by first | (simp [entryFrame, mkF, argsToLocals, Value.category]; done) | rfl
set_option maxRecDepth 65536 in
set_option maxHeartbeats 40000000 in
theorem r58__init_ (l : Launch) (Z : State) (a0 : Array Value) (hw : HW Z a0) (ws : List Jvm.Cond) (o0 o1 : Addr) (i_2 i_4 i_5 : Int32) (k_o1 : ClassId) (h0 : Heap) (n0 : Nat) (Z0 : n0 ≤ h0.size) (sCS : SCS Z i_2) (O0 : Old Z n0 h0) (hp0 : ¬ (i_2 = (0 : Int32))) (V_o1 : Arv Z h0 o1 k_o1 .char 2 [(.int i_4), (.int i_5)] z0) (hp1 : ¬ ((255 : Int32) < i_4)) (hp2 : ¬ ((255 : Int32) < i_5)) (F_o0_coder : Fd0 Z h0 o0 z0) (E_o0 : Ex0 Z h0 o0) (g_o0 : n0 ≤ o0) (F_o0_value : Fd1 Z h0 o0 .null) :
    MF l Z y4__init_ b2_ 6 none ws ⟨2, 1, 2, 35⟩ #[(.ref o0), (.ref o1), z0, (.int 2), .null] h0 (Q_r58__init_ Z o0 o1 i_2 i_4 i_5 k_o1 h0 n0) := by
  refine own_body (plainFor_of_name pn_String564) (ef_r58__init_ o0 o1) (by decide) (by decide) ?_
  intro p e s m below meth c s₁ hx hby hml hown hnm hret hZ hh e0 X0
  have N0 := Fr.nil n0
  obtain ⟨T1, X1, e1, st1⟩ := initO X0 hx hZ hown (w15 hw) (w16 hw) (w17 hw) e0 (g := (mkF m 1 #[vr o0, vr o1, vi 0, vi 2, .val .null, .unset] [(.ref o0)])) rfl hml.symm rfl (hb hby d20) (by decide) (W := 0) (own_wr rfl rfl) (by decide)
  obtain ⟨T3, X3, e3, st3⟩ := getS2 X1 hx hZ hown (host := "") (Or.inl (w18 hw)) Via.refl e1 (Sta.ext O0.2 sCS) (g := (mkF m 27 #[vr o0, vr o1, vi 0, vi 2, .val .null, .unset] [])) rfl (hb hby d23)
  obtain ⟨_, T6, L6, X6, hQ6, st6⟩ := own_static X3 hx hZ hown (w19 hw) (w20 hw) (w21 hw) (w22 hw) (by decide) (r59_compress l Z a0 hw [] o1 i_4 i_5 k_o1 h0 n0 Z0 V_o1 hp1 hp2) e3 (W := 0) (by decide) (g := (mkF m 36 #[vr o0, vr o1, vi 0, vi 2, .val .null, .unset] [(.int 2), z0, (.ref o1)])) rfl hml.symm (argsL := [(.ref o1), z0, (.int 2)]) (rest := []) (lenOf pd_2 rfl) rfl rfl (own_wr rfl rfl) (hb hby d28)
  obtain ⟨b1_6, k1_6, rfl, N6q, K6, Q6_0, Q6_1⟩ := hQ6
  have N6 := Fr.app N0 N6q
  obtain ⟨_, T8, L8, X8, hQ8, st8⟩ := own_static X6 hx hZ hown (w27 hw) (w28 hw) (w21 hw) (w29 hw) (by decide) (r61_coderFromArrayLen l Z a0 hw [] b1_6 (i_4.toInt8.toInt32) (i_5.toInt8.toInt32) k1_6 T6.heap n0 (Nat.le_trans Z0 K6.1) Q6_1) rfl (W := 1) (by decide) (g := (mkF m 45 #[vr o0, vr o1, vi 0, vi 2, .val .null, vr b1_6] [(.int 2), (.ref b1_6), (.ref o0)])) rfl hml.symm (argsL := [(.ref b1_6), (.int 2)]) (rest := [(.ref o0)]) (lenOf pd_3 rfl) rfl rfl (own_wr rfl rfl) (hb hby d71)
  obtain ⟨rfl, N8q, e8⟩ := hQ8
  have N8 := Fr.app N6 N8q
  have f9 := (kFld K6 F_o0_coder nw0)
  have f10 := (kExa K6 E_o0)
  obtain ⟨T11, h11, X11, e11, W11, st11⟩ := putF X8 hx hZ hown (host := "") (Or.inl (w30 hw)) Via.refl e8 f9 f10 (Or.inr ⟨(w31 hw), rfl, hnm⟩) (w5 hw) (ty := .byte) (by decide) (by decide) (by decide) (g := (mkF m 48 #[vr o0, vr o1, vi 0, vi 2, .val .null, vr b1_6] [z0, (.ref o0)])) rfl rfl (hb hby d80)
  have K11 := KL.ofW W11
  have Fw11 : Fd0 Z h11 o0 z0 := Fld.same W11 f9
  have N11 := Fr.snoc X11 N8 g_o0
  have f12 := (kFld K11 (kFld K6 F_o0_value nw0) (nwS (Or.inr (sn_0 hw)) nw0))
  have f13 := (kExa K11 f10)
  obtain ⟨T14, h14, X14, e14, W14, st14⟩ := putF X11 hx hZ hown (host := "") (Or.inl (w32 hw)) Via.refl e11 f12 f13 (Or.inr ⟨(w33 hw), rfl, hnm⟩) (w5 hw) (ty := (.array .byte)) (by decide) rfl rfl (g := (mkF m 54 #[vr o0, vr o1, vi 0, vi 2, .val .null, vr b1_6] [(.ref b1_6), (.ref o0)])) rfl rfl (hb hby d83)
  have K14 := KL.ofW W14
  have Fw14 : Fd1 Z h14 o0 (.ref b1_6) := Fld.same W14 f12
  have N14 := Fr.snoc X14 N11 g_o0
  have C0 := (KL.refl h0 (WS_r58__init_ Z o0)).trans K6 na0
  have C1 := C0.trans K11 (naO (own_mi 0 rfl) na0)
  have C2 := C1.trans K14 (naO (own_mi 1 rfl) na0)
  have f15 := (kFld K14 Fw11 (nwS (Or.inr (sn_1 hw)) nw0))
  have lt_o0 : o0 < h0.size := Fld.lt F_o0_coder
  have f16 := (kArv K14 (kArv K11 Q6_1 (naN (lt_ne lt_o0 Q6_0) na0)) (naN (lt_ne lt_o0 Q6_0) na0))
  refine ⟨T14, _, none, X14, (fun h => by cases h <;> rfl), ?_, fun fs hr => ?_⟩
  · show Q_r58__init_ Z o0 o1 i_2 i_4 i_5 k_o1 h0 n0 _ T14.heap _
    rw [e14]
    exact ⟨b1_6, k1_6, rfl, N14, C2, Q6_0, f15, Fw14, f16⟩
  · refine t_aloadN 1 X0.here hx (hb hby d19) rfl rfl rfl ?_
    refine st1 _ ?_
    refine t_iloadN 5 X1.here hx (hb hby d21) rfl rfl ?_
    refine t_ifYes (pc := 5) 27 X1.here hx (hb hby d22) (by decide) (by decide) (by decide) ?_
    refine st3 _ ?_
    refine t_ifNo 33 X3.here hx (hb hby d24) ((if0 _ _).trans (feq hp0).1) rfl ?_
    refine t_aloadN 34 X3.here hx (hb hby d25) rfl rfl rfl ?_
    refine t_iloadN 35 X3.here hx (hb hby d26) rfl rfl ?_
    refine t_iloadN 36 X3.here hx (hb hby d27) rfl rfl ?_
    refine st6 _ ?_
    refine t_astore (pc' := 41) (L' := #[vr o0, vr o1, vi 0, vi 2, .val .null, vr b1_6]) X6.here hx (hb hby d67) rfl rfl rfl ?_
    refine t_aloadN 42 X6.here hx (hb hby d68) rfl rfl rfl ?_
    refine t_aload 44 X6.here hx (hb hby d69) rfl rfl rfl ?_
    refine t_iloadN 45 X6.here hx (hb hby d70) rfl rfl ?_
    refine st8 _ ?_
    refine st11 _ ?_
    refine t_aloadN 52 X11.here hx (hb hby d81) rfl rfl rfl ?_
    refine t_aload 54 X11.here hx (hb hby d82) rfl rfl rfl ?_
    refine st14 _ ?_
    exact X14.returnOut hx hret (hb hby d84) hr
def WS_r57__init_ (Z : State) (o0 : Addr) : List (Addr × Nat) := [(o0, (sl0 Z)), (o0, (sl1 Z))]
def Q_r57__init_ (Z : State) (o0 o1 : Addr) (i_1 i_2 : Int32) (k_o1 : ClassId) (i_3 : Int32) (h0 : Heap) (n0 : Nat) (v : Option Value) (h : Heap) (L : List Loc) : Prop := ∃ b1_6_4 : Addr, ∃ k1_6_4 : ClassId, v = none ∧ Fr n0 L ∧ KL h0 h (WS_r57__init_ Z o0) ∧ h0.size ≤ b1_6_4 ∧ Fd0 Z h o0 z0 ∧ Fd1 Z h o0 (.ref b1_6_4) ∧ Arv Z h b1_6_4 k1_6_4 .byte 2 [(.int (i_1.toInt8.toInt32)), (.int (i_2.toInt8.toInt32))] z0
theorem ef_r57__init_ (o0 o1 : Addr) (m : MethodId) : entryFrame m #[(.ref o0), (.ref o1)] 2 = mkF m 0 #[.val (.ref o0), .val (.ref o1)] [] := by first | (simp [entryFrame, mkF, argsToLocals, Value.category]; done) | rfl
set_option maxRecDepth 65536 in
set_option maxHeartbeats 40000000 in
theorem r57__init_ (l : Launch) (Z : State) (a0 : Array Value) (hw : HW Z a0) (ws : List Jvm.Cond) (o0 o1 : Addr) (i_1 i_2 : Int32) (k_o1 : ClassId) (i_3 : Int32) (h0 : Heap) (n0 : Nat) (Z0 : n0 ≤ h0.size) (V_o1 : Arv Z h0 o1 k_o1 .char 2 [(.int i_1), (.int i_2)] z0) (sCS : SCS Z i_3) (F_o0_coder : Fd0 Z h0 o0 z0) (E_o0 : Ex0 Z h0 o0) (F_o0_value : Fd1 Z h0 o0 .null) (O0 : Old Z n0 h0) (hp0 : ¬ (i_3 = (0 : Int32))) (hp1 : ¬ ((255 : Int32) < i_1)) (hp2 : ¬ ((255 : Int32) < i_2)) (g_o0 : n0 ≤ o0) :
    MF l Z y5__init_ b1_ 2 none ws ⟨3, 1, 2, 52⟩ #[(.ref o0), (.ref o1)] h0 (Q_r57__init_ Z o0 o1 i_1 i_2 k_o1 i_3 h0 n0) := by
  refine own_body (plainFor_of_name pn_String564) (ef_r57__init_ o0 o1) (by decide) (by decide) ?_
  intro p e s m below meth c s₁ hx hby hml hown hnm hret hZ hh e0 X0
  have N0 := Fr.nil n0
  obtain ⟨_, T4, L4, X4, hQ4, st4⟩ := own_init X0 hx hZ rfl hown (w11 hw) (w12 hw) (w6 hw) (w14 hw) (by decide) (r58__init_ l Z a0 hw [] o0 o1 i_3 i_1 i_2 k_o1 h0 n0 Z0 sCS O0 hp0 V_o1 hp1 hp2 F_o0_coder E_o0 g_o0 F_o0_value) e0 (W := 0) (by decide) (g := (mkF m 6 #[vr o0, vr o1] [.null, (.int 2), z0, (.ref o1), (.ref o0)])) rfl hml.symm (argsL := [(.ref o1), z0, (.int 2), .null]) (rest := []) (lenOf pd_4 rfl) rfl rfl (own_wr rfl rfl) (hb hby d18)
  obtain ⟨b1_6_4, k1_6_4, rfl, N4q, K4, Q4_0, Q4_1, Q4_2, Q4_3⟩ := hQ4
  have N4 := Fr.app N0 N4q
  have C0 := (KL.refl h0 (WS_r57__init_ Z o0)).trans K4 (naO (own_mi 0 rfl) (naO (own_mi 1 rfl) na0))
  refine ⟨T4, _, none, X4, (fun h => by cases h <;> rfl), ?_, fun fs hr => ?_⟩
  · show Q_r57__init_ Z o0 o1 i_1 i_2 k_o1 i_3 h0 n0 _ T4.heap _
    exact ⟨b1_6_4, k1_6_4, rfl, N4, C0, Q4_0, Q4_1, Q4_2, Q4_3⟩
  · refine t_aloadN 1 X0.here hx (hb hby d12) rfl rfl rfl ?_
    refine t_aloadN 2 X0.here hx (hb hby d13) rfl rfl rfl ?_
    refine t_iconst 3 (r := 0) X0.here hx (hb hby d14) (by decide) rfl ?_
    refine t_aloadN 4 X0.here hx (hb hby d15) rfl rfl rfl ?_
    refine own_arlen (pc' := 5) X0 hx hZ e0 V_o1 (hb hby d16) rfl ?_
    refine t_aconst_null 6 X0.here hx (hb hby d17) rfl ?_
    refine st4 _ ?_
    exact X4.returnOut hx hret (hb hby d85) hr
def Q_r63_isEmpty (Z : State) (o0 o_1 : Addr) (i_3 i_4 : Int32) (k_o_1 : ClassId) (h0 : Heap) (n0 : Nat) (v : Option Value) (h : Heap) (L : List Loc) : Prop := v = some z0 ∧ Fr n0 L ∧ h = h0
theorem ef_r63_isEmpty (o0 : Addr) (m : MethodId) : entryFrame m #[(.ref o0)] 1 = mkF m 0 #[.val (.ref o0)] [] := by first | (simp [entryFrame, mkF, argsToLocals, Value.category]; done) | rfl
set_option maxRecDepth 65536 in
set_option maxHeartbeats 40000000 in
theorem r63_isEmpty (l : Launch) (Z : State) (a0 : Array Value) (hw : HW Z a0) (ws : List Jvm.Cond) (o0 o_1 : Addr) (i_3 i_4 : Int32) (k_o_1 : ClassId) (h0 : Heap) (n0 : Nat) (Z0 : n0 ≤ h0.size) (F_o0_value : Fd1 Z h0 o0 (.ref o_1)) (V_o_1 : Arv Z h0 o_1 k_o_1 .byte 2 [(.int i_3), (.int i_4)] z0) :
    MF l Z y8_isEmpty b9_ 1 (some .boolean) ws ⟨0, 0, 0, 0⟩ #[(.ref o0)] h0 (Q_r63_isEmpty Z o0 o_1 i_3 i_4 k_o_1 h0 n0) := by
  refine own_body (plainFor_of_name pn_String564) (ef_r63_isEmpty o0) (by decide) (by decide) ?_
  intro p e s m below meth c s₁ hx hby hml hown hnm hret hZ hh e0 X0
  have N0 := Fr.nil n0
  obtain ⟨T2, X2, e2, st2⟩ := getF X0 hx hZ hown (host := "") (Or.inl (w32 hw)) Via.refl e0 F_o0_value (g := (mkF m 1 #[vr o0] [(.ref o0)])) rfl rfl (hb hby d106)
  refine ⟨T2, _, some z0, X2, (fun h => by cases h <;> rfl), ?_, fun fs hr => ?_⟩
  · show Q_r63_isEmpty Z o0 o_1 i_3 i_4 k_o_1 h0 n0 _ T2.heap _
    rw [e2]
    exact ⟨rfl, N0, rfl⟩
  · refine t_aloadN 1 X0.here hx (hb hby d105) rfl rfl rfl ?_
    refine st2 _ ?_
    refine own_arlen (pc' := 5) X2 hx hZ e2 V_o_1 (hb hby d107) rfl ?_
    refine t_ifYes (pc := 5) 12 X2.here hx (hb hby d108) (by decide) (by decide) (by decide) ?_
    refine t_iconst 13 (r := 0) X2.here hx (hb hby d109) (by decide) rfl ?_
    exact retN X2 hx (t := .boolean) hret (by simp) (hb hby d110) hr
def WS_r62__init_ (Z : State) (o0 : Addr) : List (Addr × Nat) := [(o0, (sl2 Z)), (o0, (sl3 Z))]
def Q_r62__init_ (Z : State) (o0 o1 o2 o_6 : Addr) (i_7 : Int32) (k_o_6 : ClassId) (i_12 : Int32) (o_16 : Addr) (i_17 i_18 : Int32) (k_o_16 : ClassId) (h0 : Heap) (n0 : Nat) (v : Option Value) (h : Heap) (L : List Loc) : Prop := v = none ∧ Fr n0 L ∧ KL h0 h (WS_r62__init_ Z o0) ∧ Fd2 Z h o0 (.ref o1) ∧ Fd3 Z h o0 (.ref o2)
theorem ef_r62__init_ (o0 o1 o2 : Addr) (m : MethodId) : entryFrame m #[(.ref o0), (.ref o1), (.ref o2)] 3 = mkF m 0 #[.val (.ref o0), .val (.ref o1), .val (.ref o2)] [] := by first | (simp [entryFrame, mkF, argsToLocals, Value.category]; done) | rfl
set_option maxRecDepth 65536 in
set_option maxHeartbeats 40000000 in
theorem r62__init_ (l : Launch) (Z : State) (a0 : Array Value) (hw : HW Z a0) (ws : List Jvm.Cond) (o0 o1 o2 o_6 : Addr) (i_7 : Int32) (k_o_6 : ClassId) (i_12 : Int32) (o_16 : Addr) (i_17 i_18 : Int32) (k_o_16 : ClassId) (h0 : Heap) (n0 : Nat) (Z0 : n0 ≤ h0.size) (E_o1 : Ex0 Z h0 o1) (F_o1_value : Fd1 Z h0 o1 (.ref o_6)) (V_o_6 : Arv Z h0 o_6 k_o_6 .byte 1 [(.int i_7)] z0) (sCS : SCS Z i_12) (F_o1_coder : Fd0 Z h0 o1 z0) (O0 : Old Z n0 h0) (hp0 : ¬ (i_12 = (0 : Int32))) (hp1 : ¬ (i_7 = (58 : Int32))) (E_o2 : Ex0 Z h0 o2) (F_o2_value : Fd1 Z h0 o2 (.ref o_16)) (V_o_16 : Arv Z h0 o_16 k_o_16 .byte 2 [(.int i_17), (.int i_18)] z0) (F_o0_system : Fd2 Z h0 o0 .null) (E_o0 : Ex1 Z h0 o0) (g_o0 : n0 ≤ o0) (F_o0_id : Fd3 Z h0 o0 .null) :
    OMH l Z consts_1 [] y19__init_ b6_ 3 none ws ⟨4, 4, 40, 59⟩ #[(.ref o0), (.ref o1), (.ref o2)] h0 (Q_r62__init_ Z o0 o1 o2 o_6 i_7 k_o_6 i_12 o_16 i_17 i_18 k_o_16 h0 n0) := by
  refine own_bodyH (k := 4) (n := 40) (own_EW hw) (plainFor_of_name pn_Identifier44) (ef_r62__init_ o0 o1 o2) (by decide) (by decide) ?_
  intro p e s m below meth c s₁ hx hby hml hown hnm hret hZ e0 hS0 hk0 X0 hC0 hSF0
  have N0 := Fr.nil n0
  obtain ⟨_, T1, L1, X1, hQ1, st1⟩ := own_init X0 hx hZ rfl hown (w40 hw) (w41 hw) (w43 hw) (w44 hw) (by decide) (r7__init_ l Z a0 hw [] o0 h0 n0 Z0) e0 (W := 0) (by decide) (g := (mkF m 1 #[vr o0, vr o1, vr o2] [(.ref o0)])) rfl hml.symm (argsL := []) (rest := []) (lenOf pd_6 rfl) rfl rfl (own_wr rfl rfl) (hb hby d87)
  obtain ⟨rfl, N1q, e1⟩ := hQ1
  have N1 := Fr.app N0 N1q
  obtain ⟨c2, T2, h2, k2, b2, kb2, X2, e2, E2, hS2, hk2, hZ2, hown2, Ex2, Fc2, Fv2, Ar2, lta2, ltb2, hC2, Lt2, hne2, st2⟩ := ldcCH X1 hx hZ hown (w46 hw) (own_wS hw) e1 hS0 hk0 (own_EW hw) (by decide) (CHr.refl hC0).1 (vs := [(.int 115), (.int 121), (.int 115), (.int 116), (.int 101), (.int 109)]) (z := 6) ⟨by decide, rfl⟩ (by decide) rfl (g := (mkF m 5 #[vr o0, vr o1, vr o2] [(.ref o1)])) rfl (hb hby d92) (n := 24) (by decide) (by decide) (by decide) (by decide)
  have K2 := KL.ofE E2
  have Ah1 := (CHr.refl hC0).trans hC2
  obtain ⟨_, T3, L3, X3, hQ3, st3⟩ := own_static X2 hx hZ2 hown2 (w49 hw) (w50 hw) (w51 hw) (w52 hw) (by decide) (r8_requireNonNull l Z a0 hw [] o1 c2 h2 n0 (Nat.le_trans Z0 K2.1)) e2 (W := 0) (by decide) (g := (mkF m 7 #[vr o0, vr o1, vr o2] [(.ref c2), (.ref o1)])) rfl hml.symm (argsL := [(.ref o1), (.ref c2)]) (rest := []) (lenOf pd_7 rfl) rfl rfl (own_wr rfl rfl) (hb hby d93)
  obtain ⟨rfl, N3q, e3⟩ := hQ3
  have N3 := Fr.app N1 N3q
  obtain ⟨c4, T4, h4, k4, b4, kb4, X4, e4, E4, hS4, hk4, hZ4, hown4, Ex4, Fc4, Fv4, Ar4, lta4, ltb4, hC4, Lt4, hne4, st4⟩ := ldcCH X3 hx hZ2 hown2 (w53 hw) (own_wS hw) e3 hS2 hk2 (own_EW hw) (by decide) Ah1.1 (vs := [(.int 105), (.int 100)]) (z := 2) ⟨by decide, rfl⟩ (by decide) rfl (g := (mkF m 12 #[vr o0, vr o1, vr o2] [(.ref o2)])) rfl (hb hby d100) (n := 8) (by decide) (by decide) (by decide) (by decide)
  have K4 := KL.ofE E4
  have Ah2 := Ah1.trans hC4
  have sz_0_2 := (Nat.le_trans K2.1 K4.1)
  obtain ⟨_, T5, L5, X5, hQ5, st5⟩ := own_static X4 hx hZ4 hown4 (w49 hw) (w50 hw) (w51 hw) (w52 hw) (by decide) (r8_requireNonNull l Z a0 hw [] o2 c4 h4 n0 (Nat.le_trans Z0 sz_0_2)) e4 (W := 0) (by decide) (g := (mkF m 14 #[vr o0, vr o1, vr o2] [(.ref c4), (.ref o2)])) rfl hml.symm (argsL := [(.ref o2), (.ref c4)]) (rest := []) (lenOf pd_7 rfl) rfl rfl (own_wr rfl rfl) (hb hby d101)
  obtain ⟨rfl, N5q, e5⟩ := hQ5
  have N5 := Fr.app N3 N5q
  have f9 := (kFld K4 (kFld K2 F_o1_value nw0) nw0)
  have f10 := (kArv K4 (kArv K2 V_o_6 na0) na0)
  have f11 := (kExa K4 (kExa K2 E_o1))
  obtain ⟨_, T8, L8, X8, hQ8, st8⟩ := own_virtual X5 hx hZ4 hown4 (w54 hw) (w55 hw) (nfS hZ4 (w57 hw)) (w57 hw) (w56 hw) (w6 hw) (w58 hw) (by decide) (r9_isEmpty l Z a0 hw [] o1 o_6 i_7 k_o_6 h4 n0 (Nat.le_trans Z0 sz_0_2) f9 f10) e5 f11 (W := 0) (by decide) (g := (mkF m 19 #[vr o0, vr o1, vr o2] [(.ref o1)])) rfl hml.symm (argsL := []) (rest := []) (lenOf pd_8 rfl) rfl rfl (own_wr rfl rfl) (hb hby d104)
  obtain ⟨rfl, N8q, e8⟩ := hQ8
  have N8 := Fr.app N5 N8q
  have f14 := (kFld K4 (kFld K2 F_o1_coder nw0) nw0)
  have f15 := (kOld K4 (kOld K2 O0 na0) na0)
  obtain ⟨_, T13, L13, X13, hQ13, st13⟩ := own_virtual X8 hx hZ4 hown4 (w59 hw) (w60 hw) (nfS hZ4 (w62 hw)) (w62 hw) (w61 hw) (w6 hw) (w63 hw) (by decide) (r10_indexOf l Z a0 hw [] o1 i_12 o_6 i_7 k_o_6 h4 n0 (Nat.le_trans Z0 sz_0_2) f11 sCS f14 f9 f10 f15 hp0 hp1) e8 f11 (W := 0) (by decide) (g := (mkF m 28 #[vr o0, vr o1, vr o2] [(.int 58), (.ref o1)])) rfl hml.symm (argsL := [(.int 58)]) (rest := []) (lenOf pd_14 rfl) rfl rfl (own_wr rfl rfl) (hb hby d114)
  obtain ⟨rfl, N13q, e13⟩ := hQ13
  have N13 := Fr.app N8 N13q
  have f20 := (kFld K4 (kFld K2 F_o2_value nw0) nw0)
  have f21 := (kArv K4 (kArv K2 V_o_16 na0) na0)
  have f22 := (kExa K4 (kExa K2 E_o2))
  obtain ⟨_, T19, L19, X19, hQ19, st19⟩ := own_virtual X13 hx hZ4 hown4 (w54 hw) (w55 hw) (nfS hZ4 (w57 hw)) (w57 hw) (w56 hw) (w6 hw) (w58 hw) (by decide) (r63_isEmpty l Z a0 hw [] o2 o_16 i_17 i_18 k_o_16 h4 n0 (Nat.le_trans Z0 sz_0_2) f20 f21) e13 f22 (W := 0) (by decide) (g := (mkF m 67 #[vr o0, vr o1, vr o2] [(.ref o2)])) rfl hml.symm (argsL := []) (rest := []) (lenOf pd_8 rfl) rfl rfl (own_wr rfl rfl) (hb hby d213)
  obtain ⟨rfl, N19q, e19⟩ := hQ19
  have N19 := Fr.app N13 N19q
  have f23 := (kFld K4 (kFld K2 F_o0_system nw0) nw0)
  have f24 := (kExa K4 (kExa K2 E_o0))
  obtain ⟨T25, h25, X25, e25, W25, st25⟩ := putF X19 hx hZ4 hown4 (host := "") (Or.inl (w101 hw)) Via.refl e19 f23 f24 (Or.inr ⟨(w102 hw), rfl, hnm⟩) (w35 hw) (ty := (.object "java/lang/String")) (by decide) rfl rfl (g := (mkF m 85 #[vr o0, vr o1, vr o2] [(.ref o1), (.ref o0)])) rfl rfl (hb hby d217)
  have K25 := KL.ofW W25
  have Ck2 := own_chK K25 (naF (Safe.exa hZ4.alike f24 (by decide) (by decide)) na0) Ah2.1
  have Ah3 := Ah2.trans Ck2.1
  have Fw25 : Fd2 Z h25 o0 (.ref o1) := Fld.same W25 f23
  have N25 := Fr.snoc X25 N19 g_o0
  have f26 := (kFld K25 (kFld K4 (kFld K2 F_o0_id nw0) nw0) (nwS (Or.inr (sn_2 hw)) nw0))
  have f27 := (kExa K25 f24)
  obtain ⟨T28, h28, X28, e28, W28, st28⟩ := putF X25 hx hZ4 hown4 (host := "") (Or.inl (w103 hw)) Via.refl e25 f26 f27 (Or.inr ⟨(w104 hw), rfl, hnm⟩) (w35 hw) (ty := (.object "java/lang/String")) (by decide) rfl rfl (g := (mkF m 90 #[vr o0, vr o1, vr o2] [(.ref o2), (.ref o0)])) rfl rfl (hb hby d220)
  have K28 := KL.ofW W28
  have Ck3 := own_chK K28 (naF (Safe.exa hZ4.alike f27 (by decide) (by decide)) na0) Ah3.1
  have Ah4 := Ah3.trans Ck3.1
  have Fw28 : Fd3 Z h28 o0 (.ref o2) := Fld.same W28 f26
  have N28 := Fr.snoc X28 N25 g_o0
  have C0 := (KL.refl h0 (WS_r62__init_ Z o0)).trans K2 na0
  have C1 := C0.trans K4 na0
  have C2 := C1.trans K25 (naO (own_mi 0 rfl) na0)
  have C3 := C2.trans K28 (naO (own_mi 1 rfl) na0)
  have f29 := (kFld K28 Fw25 (nwS (Or.inr (sn_3 hw)) nw0))
  have sz_2_4 := (Nat.le_trans K25.1 K28.1)
  refine ⟨T28, _, none, _, _, X28, hS4, (by rw [e28]; exact (Nat.le_trans hk4 sz_2_4)), (fun h => by cases h <;> rfl), ?_, (by rw [e28]; exact Ah4), hZ4, fun fs hr => ?_⟩
  · show Q_r62__init_ Z o0 o1 o2 o_6 i_7 k_o_6 i_12 o_16 i_17 i_18 k_o_16 h0 n0 _ T28.heap _
    rw [e28]
    exact ⟨rfl, N28, C3, f29, Fw28⟩
  · refine t_aloadN 1 X0.here hx (hb hby d86) rfl rfl rfl ?_
    refine st1 _ ?_
    refine t_aloadN 5 X1.here hx (hb hby d91) rfl rfl rfl ?_
    refine st2 _ ?_
    refine st3 _ ?_
    refine t_pop 11 X3.here hx (hb hby d98) rfl rfl ?_
    refine t_aloadN 12 X3.here hx (hb hby d99) rfl rfl rfl ?_
    refine st4 _ ?_
    refine st5 _ ?_
    refine t_pop 18 X5.here hx (hb hby d102) rfl rfl ?_
    refine t_aloadN 19 X5.here hx (hb hby d103) rfl rfl rfl ?_
    refine st8 _ ?_
    refine t_ifNo 25 X8.here hx (hb hby d111) (by decide) rfl ?_
    refine t_aloadN 26 X8.here hx (hb hby d112) rfl rfl rfl ?_
    refine t_bipush 28 (r := 58) X8.here hx (hb hby d113) (by decide) rfl ?_
    refine st13 _ ?_
    refine t_ifYes (pc := 31) 66 X13.here hx (hb hby d211) (by decide) (by decide) (by decide) ?_
    refine t_aloadN 67 X13.here hx (hb hby d212) rfl rfl rfl ?_
    refine st19 _ ?_
    refine t_ifYes (pc := 70) 83 X19.here hx (hb hby d214) (by decide) (by decide) (by decide) ?_
    refine t_aloadN 84 X19.here hx (hb hby d215) rfl rfl rfl ?_
    refine t_aloadN 85 X19.here hx (hb hby d216) rfl rfl rfl ?_
    refine st25 _ ?_
    refine t_aloadN 89 X25.here hx (hb hby d218) rfl rfl rfl ?_
    refine t_aloadN 90 X25.here hx (hb hby d219) rfl rfl rfl ?_
    refine st28 _ ?_
    exact X28.returnOut hx hret (hb hby d221) hr
def Q_r67_length (Z : State) (o0 o_1 : Addr) (i_3 i_4 : Int32) (k_o_1 : ClassId) (i_5 : Int32) (h0 : Heap) (n0 : Nat) (v : Option Value) (h : Heap) (L : List Loc) : Prop := v = some (.int 2) ∧ Fr n0 L ∧ h = h0
theorem ef_r67_length (o0 : Addr) (m : MethodId) : entryFrame m #[(.ref o0)] 1 = mkF m 0 #[.val (.ref o0)] [] := by first | (simp [entryFrame, mkF, argsToLocals, Value.category]; done) | rfl
set_option maxRecDepth 65536 in
set_option maxHeartbeats 40000000 in
theorem r67_length (l : Launch) (Z : State) (a0 : Array Value) (hw : HW Z a0) (ws : List Jvm.Cond) (o0 o_1 : Addr) (i_3 i_4 : Int32) (k_o_1 : ClassId) (i_5 : Int32) (h0 : Heap) (n0 : Nat) (Z0 : n0 ≤ h0.size) (F_o0_value : Fd1 Z h0 o0 (.ref o_1)) (V_o_1 : Arv Z h0 o_1 k_o_1 .byte 2 [(.int i_3), (.int i_4)] z0) (E_o0 : Ex0 Z h0 o0) (sCS : SCS Z i_5) (F_o0_coder : Fd0 Z h0 o0 z0) (O0 : Old Z n0 h0) (hp0 : ¬ (i_5 = (0 : Int32))) :
    MF l Z y11_length b13_ 1 (some .int) ws ⟨1, 0, 0, 13⟩ #[(.ref o0)] h0 (Q_r67_length Z o0 o_1 i_3 i_4 k_o_1 i_5 h0 n0) := by
  refine own_body (plainFor_of_name pn_String564) (ef_r67_length o0) (by decide) (by decide) ?_
  intro p e s m below meth c s₁ hx hby hml hown hnm hret hZ hh e0 X0
  have N0 := Fr.nil n0
  obtain ⟨T2, X2, e2, st2⟩ := getF X0 hx hZ hown (host := "") (Or.inl (w32 hw)) Via.refl e0 F_o0_value (g := (mkF m 1 #[vr o0] [(.ref o0)])) rfl rfl (hb hby d137)
  obtain ⟨_, T6, L6, X6, hQ6, st6⟩ := own_virtual X2 hx hZ hown (w79 hw) (w80 hw) (nfS hZ (w82 hw)) (w82 hw) (w81 hw) (w6 hw) (w83 hw) (by decide) (r14_coder l Z a0 hw [] o0 i_5 h0 n0 Z0 sCS O0 hp0 F_o0_coder) e2 E_o0 (W := 1) (by decide) (g := (mkF m 6 #[vr o0] [(.ref o0), (.int 2)])) rfl hml.symm (argsL := []) (rest := [(.int 2)]) (lenOf pd_9 rfl) rfl rfl (own_wr rfl rfl) (hb hby d140)
  obtain ⟨rfl, N6q, e6⟩ := hQ6
  have N6 := Fr.app N0 N6q
  refine ⟨T6, _, some (.int 2), X6, (fun h => by cases h <;> rfl), ?_, fun fs hr => ?_⟩
  · show Q_r67_length Z o0 o_1 i_3 i_4 k_o_1 i_5 h0 n0 _ T6.heap _
    rw [e6]
    exact ⟨rfl, N6, rfl⟩
  · refine t_aloadN 1 X0.here hx (hb hby d136) rfl rfl rfl ?_
    refine st2 _ ?_
    refine own_arlen (pc' := 5) X2 hx hZ e2 V_o_1 (hb hby d138) rfl ?_
    refine t_aloadN 6 X2.here hx (hb hby d139) rfl rfl rfl ?_
    refine st6 _ ?_
    refine t_ishr 10 (r := 2) X6.here hx (hb hby d147) (by decide : ((2 : Int32) >>> ((0 : Int32) &&& 31)) = (2 : Int32)) rfl ?_
    exact retI X6 hx hret (hb hby d148) hr
def Q_r68_ensureCapacityInternal (Z : State) (o0 o_1 : Addr) (i_3 i_4 : Int32) (k_o_1 : ClassId) (h0 : Heap) (n0 : Nat) (v : Option Value) (h : Heap) (L : List Loc) : Prop := v = none ∧ Fr n0 L ∧ h = h0
theorem ef_r68_ensureCapacityInternal (o0 : Addr) (m : MethodId) : entryFrame m #[(.ref o0), (.int 4)] 3 = mkF m 0 #[.val (.ref o0), .val (.int 4), .unset] [] := by first | (simp [entryFrame, mkF, argsToLocals, Value.category]; done) | rfl
set_option maxRecDepth 65536 in
set_option maxHeartbeats 40000000 in
theorem r68_ensureCapacityInternal (l : Launch) (Z : State) (a0 : Array Value) (hw : HW Z a0) (ws : List Jvm.Cond) (o0 o_1 : Addr) (i_3 i_4 : Int32) (k_o_1 : ClassId) (h0 : Heap) (n0 : Nat) (Z0 : n0 ≤ h0.size) (F_o0_value : Fd4 Z h0 o0 (.ref o_1)) (V_o_1 : Arv Z h0 o_1 k_o_1 .byte 16 [(.int i_3), (.int i_4), z0, z0, z0, z0, z0, z0, z0, z0, z0, z0, z0, z0, z0, z0] z0) (F_o0_coder : Fd5 Z h0 o0 z0) :
    MF l Z y22_ensureCapacityInternal b25_ 3 none ws ⟨0, 0, 0, 0⟩ #[(.ref o0), (.int 4)] h0 (Q_r68_ensureCapacityInternal Z o0 o_1 i_3 i_4 k_o_1 h0 n0) := by
  refine own_body (plainFor_of_name pn_AbstractStringBuilder101) (ef_r68_ensureCapacityInternal o0) (by decide) (by decide) ?_
  intro p e s m below meth c s₁ hx hby hml hown hnm hret hZ hh e0 X0
  have N0 := Fr.nil n0
  obtain ⟨T2, X2, e2, st2⟩ := getF X0 hx hZ hown (host := "") (Or.inl (w124 hw)) Via.refl e0 F_o0_value (g := (mkF m 1 #[vr o0, vi 4, .unset] [(.ref o0)])) rfl rfl (hb hby d260)
  obtain ⟨T5, X5, e5, st5⟩ := getF X2 hx hZ hown (host := "") (Or.inl (w126 hw)) Via.refl e2 F_o0_coder (g := (mkF m 6 #[vr o0, vi 4, .unset] [(.ref o0), (.int 16)])) rfl rfl (hb hby d263)
  refine ⟨T5, _, none, X5, (fun h => by cases h <;> rfl), ?_, fun fs hr => ?_⟩
  · show Q_r68_ensureCapacityInternal Z o0 o_1 i_3 i_4 k_o_1 h0 n0 _ T5.heap _
    rw [e5]
    exact ⟨rfl, N0, rfl⟩
  · refine t_aloadN 1 X0.here hx (hb hby d259) rfl rfl rfl ?_
    refine st2 _ ?_
    refine own_arlen (pc' := 5) X2 hx hZ e2 V_o_1 (hb hby d261) rfl ?_
    refine t_aloadN 6 X2.here hx (hb hby d262) rfl rfl rfl ?_
    refine st5 _ ?_
    refine t_ishr 10 (r := 16) X5.here hx (hb hby d264) (by decide : ((16 : Int32) >>> ((0 : Int32) &&& 31)) = (16 : Int32)) rfl ?_
    refine t_istoreN (pc' := 11) (L' := #[vr o0, vi 4, vi 16]) X5.here hx (hb hby d265) rfl rfl ?_
    refine t_iloadN 12 X5.here hx (hb hby d266) rfl rfl ?_
    refine t_iloadN 13 X5.here hx (hb hby d267) rfl rfl ?_
    refine t_isub 14 (r := (-12 : Int32)) X5.here hx (hb hby d268) (by decide : ((4 : Int32) - (16 : Int32)) = (-12 : Int32)) rfl ?_
    refine t_ifYes (pc := 14) 38 X5.here hx (hb hby d269) (by decide) (by decide) (by decide) ?_
    exact X5.returnOut hx hret (hb hby d270) hr
def WS_r70_getBytes (Z : State) (o1 : Addr) : List (Addr × Nat) := [(o1, 0), (o1, 1), (o1, 2), (o1, 3), (o1, 4), (o1, 5), (o1, 6), (o1, 7), (o1, 8), (o1, 9), (o1, 10), (o1, 11), (o1, 12), (o1, 13), (o1, 14), (o1, 15)]
def Q_r70_getBytes (Z : State) (o0 o1 : Addr) (i_1 : Int32) (o_3 : Addr) (i_6 i_7 : Int32) (k_o_3 : ClassId) (i_8 i_9 : Int32) (k_o1 : ClassId) (h0 : Heap) (n0 : Nat) (v : Option Value) (h : Heap) (L : List Loc) : Prop := v = none ∧ Fr n0 L ∧ KL h0 h (WS_r70_getBytes Z o1) ∧ Arv Z h o1 k_o1 .byte 16 [(.int i_8), (.int i_9), (.int i_6), (.int i_7), z0, z0, z0, z0, z0, z0, z0, z0, z0, z0, z0, z0] z0
theorem ef_r70_getBytes (o0 o1 : Addr) (m : MethodId) : entryFrame m #[(.ref o0), (.ref o1), (.int 2), (.int 0)] 4 = mkF m 0 #[.val (.ref o0), .val (.ref o1), .val (.int 2), .val (.int 0)] [] := by first | (simp [entryFrame, mkF, argsToLocals, Value.category]; done) | rfl
set_option maxRecDepth 65536 in
set_option maxHeartbeats 40000000 in
theorem r70_getBytes (l : Launch) (Z : State) (a0 : Array Value) (hw : HW Z a0) (ws : List Jvm.Cond) (o0 o1 : Addr) (i_1 : Int32) (o_3 : Addr) (i_6 i_7 : Int32) (k_o_3 : ClassId) (i_8 i_9 : Int32) (k_o1 : ClassId) (h0 : Heap) (n0 : Nat) (Z0 : n0 ≤ h0.size) (E_o0 : Ex0 Z h0 o0) (sCS : SCS Z i_1) (F_o0_coder : Fd0 Z h0 o0 z0) (O0 : Old Z n0 h0) (hp0 : ¬ (i_1 = (0 : Int32))) (F_o0_value : Fd1 Z h0 o0 (.ref o_3)) (V_o_3 : Arv Z h0 o_3 k_o_3 .byte 2 [(.int i_6), (.int i_7)] z0) (V_o1 : Arv Z h0 o1 k_o1 .byte 16 [(.int i_8), (.int i_9), z0, z0, z0, z0, z0, z0, z0, z0, z0, z0, z0, z0, z0, z0] z0) (g_o1 : n0 ≤ o1) :
    MF l Z y24_getBytes b28_ 4 none ws ⟨1, 0, 0, 18⟩ #[(.ref o0), (.ref o1), (.int 2), z0] h0 (Q_r70_getBytes Z o0 o1 i_1 o_3 i_6 i_7 k_o_3 i_8 i_9 k_o1 h0 n0) := by
  refine own_body (plainFor_of_name pn_String564) (ef_r70_getBytes o0 o1) (by decide) (by decide) ?_
  intro p e s m below meth c s₁ hx hby hml hown hnm hret hZ hh e0 X0
  have N0 := Fr.nil n0
  obtain ⟨_, T2, L2, X2, hQ2, st2⟩ := own_virtual X0 hx hZ hown (w79 hw) (w80 hw) (nfS hZ (w82 hw)) (w82 hw) (w81 hw) (w6 hw) (w83 hw) (by decide) (r14_coder l Z a0 hw [] o0 i_1 h0 n0 Z0 sCS O0 hp0 F_o0_coder) e0 E_o0 (W := 0) (by decide) (g := (mkF m 1 #[vr o0, vr o1, vi 2, vi 0] [(.ref o0)])) rfl hml.symm (argsL := []) (rest := []) (lenOf pd_9 rfl) rfl rfl (own_wr rfl rfl) (hb hby d295)
  obtain ⟨rfl, N2q, e2⟩ := hQ2
  have N2 := Fr.app N0 N2q
  obtain ⟨T4, X4, e4, st4⟩ := getF X2 hx hZ hown (host := "") (Or.inl (w32 hw)) Via.refl e2 F_o0_value (g := (mkF m 9 #[vr o0, vr o1, vi 2, vi 0] [(.ref o0)])) rfl rfl (hb hby d299)
  obtain ⟨T5, X5, e5, st5⟩ := getF X4 hx hZ hown (host := "") (Or.inl (w32 hw)) Via.refl e4 F_o0_value (g := (mkF m 18 #[vr o0, vr o1, vi 2, vi 0] [(.ref o0), (.int 2), (.ref o1), z0, (.ref o_3)])) rfl rfl (hb hby d306)
  obtain ⟨T10, h10, L10, X10, e10, N10, Kp10, V10, st10⟩ := cpA X5 hx hZ hown (w162 hw) (w165 hw) (w163 hw) (w164 hw) e5 (us := [(.int i_6), (.int i_7)]) V_o_3 V_o1 (Or.inl ⟨rfl, rfl⟩) (by decide) (by decide) (by decide) (by decide) (by decide) rfl (by first | decide | exact Nat.le_of_ble_eq_true rfl) N2 g_o1 (g := (mkF m 22 #[vr o0, vr o1, vi 2, vi 0] [(.int 2), (.int 2), (.ref o1), z0, (.ref o_3)])) rfl hml.symm rfl (hb hby d308) (by decide) (W := 0) (own_wr rfl rfl) (by decide)
  have K10 : KL h0 h10 [(o1, 0), (o1, 1), (o1, 2), (o1, 3), (o1, 4), (o1, 5), (o1, 6), (o1, 7), (o1, 8), (o1, 9), (o1, 10), (o1, 11), (o1, 12), (o1, 13), (o1, 14), (o1, 15)] := own_kcp Kp10 V_o1 (n := 16) rfl ⟨_, rfl⟩
  replace V10 : Arv Z h10 o1 k_o1 .byte 16 [(.int i_8), (.int i_9), (.int i_6), (.int i_7), z0, z0, z0, z0, z0, z0, z0, z0, z0, z0, z0, z0] z0 := V10
  have C0 := (KL.refl h0 (WS_r70_getBytes Z o1)).trans K10 (naO (own_mi 0 rfl) (naO (own_mi 1 rfl) (naO (own_mi 2 rfl) (naO (own_mi 3 rfl) (naO (own_mi 4 rfl) (naO (own_mi 5 rfl) (naO (own_mi 6 rfl) (naO (own_mi 7 rfl) (naO (own_mi 8 rfl) (naO (own_mi 9 rfl) (naO (own_mi 10 rfl) (naO (own_mi 11 rfl) (naO (own_mi 12 rfl) (naO (own_mi 13 rfl) (naO (own_mi 14 rfl) (naO (own_mi 15 rfl) na0))))))))))))))))
  refine ⟨T10, _, none, X10, (fun h => by cases h <;> rfl), ?_, fun fs hr => ?_⟩
  · show Q_r70_getBytes Z o0 o1 i_1 o_3 i_6 i_7 k_o_3 i_8 i_9 k_o1 h0 n0 _ T10.heap _
    rw [e10]
    exact ⟨rfl, N10, C0, V10⟩
  · refine t_aloadN 1 X0.here hx (hb hby d294) rfl rfl rfl ?_
    refine st2 _ ?_
    refine t_iloadN 5 X2.here hx (hb hby d296) rfl rfl ?_
    refine t_icmpNo 8 X2.here hx (hb hby d297) (by decide) rfl ?_
    refine t_aloadN 9 X2.here hx (hb hby d298) rfl rfl rfl ?_
    refine st4 _ ?_
    refine t_iconst 13 (r := 0) X4.here hx (hb hby d300) (by decide) rfl ?_
    refine t_aloadN 14 X4.here hx (hb hby d301) rfl rfl rfl ?_
    refine t_iloadN 15 X4.here hx (hb hby d302) rfl rfl ?_
    refine t_iloadN 16 X4.here hx (hb hby d303) rfl rfl ?_
    refine t_ishl 17 (r := 2) X4.here hx (hb hby d304) (by decide : ((2 : Int32) <<< ((0 : Int32) &&& 31)) = (2 : Int32)) rfl ?_
    refine t_aloadN 18 X4.here hx (hb hby d305) rfl rfl rfl ?_
    refine st5 _ ?_
    refine own_arlen (pc' := 22) X5 hx hZ e5 V_o_3 (hb hby d307) rfl ?_
    refine st10 _ ?_
    refine t_goto (pc := 25) 43 X10.here hx (hb hby d309) (by decide) (by decide) ?_
    exact X10.returnOut hx hret (hb hby d310) hr
def WS_r69_putStringAt (Z : State) (o_3 : Addr) : List (Addr × Nat) := [(o_3, 0), (o_3, 1), (o_3, 2), (o_3, 3), (o_3, 4), (o_3, 5), (o_3, 6), (o_3, 7), (o_3, 8), (o_3, 9), (o_3, 10), (o_3, 11), (o_3, 12), (o_3, 13), (o_3, 14), (o_3, 15)]
def Q_r69_putStringAt (Z : State) (o0 o2 : Addr) (i_1 : Int32) (o_3 o_6 : Addr) (i_7 i_8 : Int32) (k_o_6 : ClassId) (i_9 i_10 : Int32) (k_o_3 : ClassId) (h0 : Heap) (n0 : Nat) (v : Option Value) (h : Heap) (L : List Loc) : Prop := v = none ∧ Fr n0 L ∧ KL h0 h (WS_r69_putStringAt Z o_3) ∧ Arv Z h o_3 k_o_3 .byte 16 [(.int i_9), (.int i_10), (.int i_7), (.int i_8), z0, z0, z0, z0, z0, z0, z0, z0, z0, z0, z0, z0] z0
theorem ef_r69_putStringAt (o0 o2 : Addr) (m : MethodId) : entryFrame m #[(.ref o0), (.int 2), (.ref o2)] 3 = mkF m 0 #[.val (.ref o0), .val (.int 2), .val (.ref o2)] [] := by first | (simp [entryFrame, mkF, argsToLocals, Value.category]; done) | rfl
set_option maxRecDepth 65536 in
set_option maxHeartbeats 40000000 in
theorem r69_putStringAt (l : Launch) (Z : State) (a0 : Array Value) (hw : HW Z a0) (ws : List Jvm.Cond) (o0 o2 : Addr) (i_1 : Int32) (o_3 o_6 : Addr) (i_7 i_8 : Int32) (k_o_6 : ClassId) (i_9 i_10 : Int32) (k_o_3 : ClassId) (h0 : Heap) (n0 : Nat) (Z0 : n0 ≤ h0.size) (E_o0 : Ex2 Z h0 o0) (sCS : SCS Z i_1) (F_o0_coder : Fd5 Z h0 o0 z0) (E_o2 : Ex0 Z h0 o2) (F_o2_coder : Fd0 Z h0 o2 z0) (O0 : Old Z n0 h0) (hp0 : ¬ (i_1 = (0 : Int32))) (F_o0_value : Fd4 Z h0 o0 (.ref o_3)) (F_o2_value : Fd1 Z h0 o2 (.ref o_6)) (V_o_6 : Arv Z h0 o_6 k_o_6 .byte 2 [(.int i_7), (.int i_8)] z0) (V_o_3 : Arv Z h0 o_3 k_o_3 .byte 16 [(.int i_9), (.int i_10), z0, z0, z0, z0, z0, z0, z0, z0, z0, z0, z0, z0, z0, z0] z0) (g_o_3 : n0 ≤ o_3) :
    MF l Z y25_putStringAt b26_ 3 none ws ⟨2, 0, 0, 33⟩ #[(.ref o0), (.int 2), (.ref o2)] h0 (Q_r69_putStringAt Z o0 o2 i_1 o_3 o_6 i_7 i_8 k_o_6 i_9 i_10 k_o_3 h0 n0) := by
  refine own_body (plainFor_of_name pn_AbstractStringBuilder101) (ef_r69_putStringAt o0 o2) (by decide) (by decide) ?_
  intro p e s m below meth c s₁ hx hby hml hown hnm hret hZ hh e0 X0
  have N0 := Fr.nil n0
  obtain ⟨_, T2, L2, X2, hQ2, st2⟩ := own_private X0 hx hZ hown (w151 hw) (w152 hw) (w144 hw) rfl (w153 hw) (w120 hw) (w155 hw) (by decide) (r27_inflateIfNeededFor l Z a0 hw [] o0 o2 i_1 h0 n0 Z0 sCS O0 hp0 F_o0_coder E_o2 F_o2_coder) e0 E_o0 (W := 0) (by decide) (g := (mkF m 2 #[vr o0, vi 2, vr o2] [(.ref o2), (.ref o0)])) rfl hml.symm (argsL := [(.ref o2)]) (rest := []) (lenOf pd_17 rfl) rfl rfl (own_wr rfl rfl) (hb hby d278)
  obtain ⟨rfl, N2q, e2⟩ := hQ2
  have N2 := Fr.app N0 N2q
  obtain ⟨T4, X4, e4, st4⟩ := getF X2 hx hZ hown (host := "") (Or.inl (w124 hw)) Via.refl e2 F_o0_value (g := (mkF m 7 #[vr o0, vi 2, vr o2] [(.ref o0), (.ref o2)])) rfl rfl (hb hby d289)
  obtain ⟨T5, X5, e5, st5⟩ := getF X4 hx hZ hown (host := "") (Or.inl (w126 hw)) Via.refl e4 F_o0_coder (g := (mkF m 12 #[vr o0, vi 2, vr o2] [(.ref o0), (.int 2), (.ref o_3), (.ref o2)])) rfl rfl (hb hby d292)
  obtain ⟨_, T11, L11, X11, hQ11, st11⟩ := own_virtual X5 hx hZ hown (w157 hw) (w158 hw) (nfS hZ (w160 hw)) (w160 hw) (w159 hw) (w6 hw) (w161 hw) (by decide) (r70_getBytes l Z a0 hw [] o2 o_3 i_1 o_6 i_7 i_8 k_o_6 i_9 i_10 k_o_3 h0 n0 Z0 E_o2 sCS F_o2_coder O0 hp0 F_o2_value V_o_6 V_o_3 g_o_3) e5 E_o2 (W := 0) (by decide) (g := (mkF m 15 #[vr o0, vi 2, vr o2] [z0, (.int 2), (.ref o_3), (.ref o2)])) rfl hml.symm (argsL := [(.ref o_3), (.int 2), z0]) (rest := []) (lenOf pd_18 rfl) rfl rfl (own_wr rfl rfl) (hb hby d293)
  obtain ⟨rfl, N11q, K11, Q11_0⟩ := hQ11
  have N11 := Fr.app N2 N11q
  have C0 := (KL.refl h0 (WS_r69_putStringAt Z o_3)).trans K11 (naO (own_mi 0 rfl) (naO (own_mi 1 rfl) (naO (own_mi 2 rfl) (naO (own_mi 3 rfl) (naO (own_mi 4 rfl) (naO (own_mi 5 rfl) (naO (own_mi 6 rfl) (naO (own_mi 7 rfl) (naO (own_mi 8 rfl) (naO (own_mi 9 rfl) (naO (own_mi 10 rfl) (naO (own_mi 11 rfl) (naO (own_mi 12 rfl) (naO (own_mi 13 rfl) (naO (own_mi 14 rfl) (naO (own_mi 15 rfl) na0))))))))))))))))
  refine ⟨T11, _, none, X11, (fun h => by cases h <;> rfl), ?_, fun fs hr => ?_⟩
  · show Q_r69_putStringAt Z o0 o2 i_1 o_3 o_6 i_7 i_8 k_o_6 i_9 i_10 k_o_3 h0 n0 _ T11.heap _
    exact ⟨rfl, N11, C0, Q11_0⟩
  · refine t_aloadN 1 X0.here hx (hb hby d276) rfl rfl rfl ?_
    refine t_aloadN 2 X0.here hx (hb hby d277) rfl rfl rfl ?_
    refine st2 _ ?_
    refine t_aloadN 6 X2.here hx (hb hby d287) rfl rfl rfl ?_
    refine t_aloadN 7 X2.here hx (hb hby d288) rfl rfl rfl ?_
    refine st4 _ ?_
    refine t_iloadN 11 X4.here hx (hb hby d290) rfl rfl ?_
    refine t_aloadN 12 X4.here hx (hb hby d291) rfl rfl rfl ?_
    refine st5 _ ?_
    refine st11 _ ?_
    exact X11.returnOut hx hret (hb hby d311) hr
def WS_r66_append (Z : State) (o0 o_7 : Addr) : List (Addr × Nat) := [(o_7, 0), (o_7, 1), (o_7, 2), (o_7, 3), (o_7, 4), (o_7, 5), (o_7, 6), (o_7, 7), (o_7, 8), (o_7, 9), (o_7, 10), (o_7, 11), (o_7, 12), (o_7, 13), (o_7, 14), (o_7, 15), (o0, (sl6 Z))]
def Q_r66_append (Z : State) (o0 o1 o_1 : Addr) (i_2 i_3 : Int32) (k_o_1 : ClassId) (i_4 : Int32) (o_7 : Addr) (i_8 i_9 : Int32) (k_o_7 : ClassId) (h0 : Heap) (n0 : Nat) (v : Option Value) (h : Heap) (L : List Loc) : Prop := v = some (.ref o0) ∧ Fr n0 L ∧ KL h0 h (WS_r66_append Z o0 o_7) ∧ Arv Z h o_7 k_o_7 .byte 16 [(.int i_8), (.int i_9), (.int i_2), (.int i_3), z0, z0, z0, z0, z0, z0, z0, z0, z0, z0, z0, z0] z0 ∧ Fd6 Z h o0 (.int 4)
theorem ef_r66_append (o0 o1 : Addr) (m : MethodId) : entryFrame m #[(.ref o0), (.ref o1)] 3 = mkF m 0 #[.val (.ref o0), .val (.ref o1), .unset] [] := by first | (simp [entryFrame, mkF, argsToLocals, Value.category]; done) | rfl
set_option maxRecDepth 65536 in
set_option maxHeartbeats 40000000 in
theorem r66_append (l : Launch) (Z : State) (a0 : Array Value) (hw : HW Z a0) (ws : List Jvm.Cond) (o0 o1 o_1 : Addr) (i_2 i_3 : Int32) (k_o_1 : ClassId) (i_4 : Int32) (o_7 : Addr) (i_8 i_9 : Int32) (k_o_7 : ClassId) (h0 : Heap) (n0 : Nat) (Z0 : n0 ≤ h0.size) (E_o1 : Ex0 Z h0 o1) (F_o1_value : Fd1 Z h0 o1 (.ref o_1)) (V_o_1 : Arv Z h0 o_1 k_o_1 .byte 2 [(.int i_2), (.int i_3)] z0) (sCS : SCS Z i_4) (F_o1_coder : Fd0 Z h0 o1 z0) (O0 : Old Z n0 h0) (hp0 : ¬ (i_4 = (0 : Int32))) (F_o0_count : Fd6 Z h0 o0 (.int 2)) (E_o0 : Ex2 Z h0 o0) (F_o0_value : Fd4 Z h0 o0 (.ref o_7)) (V_o_7 : Arv Z h0 o_7 k_o_7 .byte 16 [(.int i_8), (.int i_9), z0, z0, z0, z0, z0, z0, z0, z0, z0, z0, z0, z0, z0, z0] z0) (F_o0_coder : Fd5 Z h0 o0 z0) (g_o_7 : n0 ≤ o_7) (ne_o0_o_7 : o0 ≠ o_7) (g_o0 : n0 ≤ o0) :
    MF l Z y26_append b24_ 3 (some (.object "java/lang/AbstractStringBuilder")) ws ⟨3, 0, 0, 47⟩ #[(.ref o0), (.ref o1)] h0 (Q_r66_append Z o0 o1 o_1 i_2 i_3 k_o_1 i_4 o_7 i_8 i_9 k_o_7 h0 n0) := by
  refine own_body (plainFor_of_name pn_AbstractStringBuilder101) (ef_r66_append o0 o1) (by decide) (by decide) ?_
  intro p e s m below meth c s₁ hx hby hml hown hnm hret hZ hh e0 X0
  have N0 := Fr.nil n0
  obtain ⟨_, T5, L5, X5, hQ5, st5⟩ := own_virtual X0 hx hZ hown (w138 hw) (w75 hw) (nfS hZ (w77 hw)) (w77 hw) (w76 hw) (w6 hw) (w78 hw) (by decide) (r67_length l Z a0 hw [] o1 o_1 i_2 i_3 k_o_1 i_4 h0 n0 Z0 F_o1_value V_o_1 E_o1 sCS F_o1_coder O0 hp0) e0 E_o1 (W := 0) (by decide) (g := (mkF m 10 #[vr o0, vr o1, .unset] [(.ref o1)])) rfl hml.symm (argsL := []) (rest := []) (lenOf pd_10 rfl) rfl rfl (own_wr rfl rfl) (hb hby d251)
  obtain ⟨rfl, N5q, e5⟩ := hQ5
  have N5 := Fr.app N0 N5q
  obtain ⟨T6, X6, e6, st6⟩ := getF X5 hx hZ hown (host := "") (Or.inl (w139 hw)) Via.refl e5 F_o0_count (g := (mkF m 16 #[vr o0, vr o1, vi 2] [(.ref o0), (.ref o0)])) rfl rfl (hb hby d255)
  obtain ⟨_, T10, L10, X10, hQ10, st10⟩ := own_private X6 hx hZ hown (w141 hw) (w142 hw) (w144 hw) rfl (w143 hw) (w120 hw) (w145 hw) (by decide) (r68_ensureCapacityInternal l Z a0 hw [] o0 o_7 i_8 i_9 k_o_7 h0 n0 Z0 F_o0_value V_o_7 F_o0_coder) e6 E_o0 (W := 0) (by decide) (g := (mkF m 21 #[vr o0, vr o1, vi 2] [(.int 4), (.ref o0)])) rfl hml.symm (argsL := [(.int 4)]) (rest := []) (lenOf pd_16 rfl) rfl rfl (own_wr rfl rfl) (hb hby d258)
  obtain ⟨rfl, N10q, e10⟩ := hQ10
  have N10 := Fr.app N5 N10q
  obtain ⟨T11, X11, e11, st11⟩ := getF X10 hx hZ hown (host := "") (Or.inl (w139 hw)) Via.refl e10 F_o0_count (g := (mkF m 26 #[vr o0, vr o1, vi 2] [(.ref o0), (.ref o0)])) rfl rfl (hb hby d273)
  obtain ⟨_, T12, L12, X12, hQ12, st12⟩ := own_private X11 hx hZ hown (w146 hw) (w147 hw) (w144 hw) rfl (w148 hw) (w120 hw) (w150 hw) (by decide) (r69_putStringAt l Z a0 hw [] o0 o1 i_4 o_7 o_1 i_2 i_3 k_o_1 i_8 i_9 k_o_7 h0 n0 Z0 E_o0 sCS F_o0_coder E_o1 F_o1_coder O0 hp0 F_o0_value F_o1_value V_o_1 V_o_7 g_o_7) e11 E_o0 (W := 0) (by decide) (g := (mkF m 30 #[vr o0, vr o1, vi 2] [(.ref o1), (.int 2), (.ref o0)])) rfl hml.symm (argsL := [(.int 2), (.ref o1)]) (rest := []) (lenOf pd_19 rfl) rfl rfl (own_wr rfl rfl) (hb hby d275)
  obtain ⟨rfl, N12q, K12, Q12_0⟩ := hQ12
  have N12 := Fr.app N10 N12q
  have f13 := (kFld K12 F_o0_count (nwB 16 rfl ne_o0_o_7))
  obtain ⟨T14, X14, e14, st14⟩ := getF X12 hx hZ hown (host := "") (Or.inl (w139 hw)) Via.refl rfl f13 (g := (mkF m 35 #[vr o0, vr o1, vi 2] [(.ref o0), (.ref o0)])) rfl rfl (hb hby d314)
  have f15 := (kExa K12 E_o0)
  obtain ⟨T16, h16, X16, e16, W16, st16⟩ := putF X14 hx hZ hown (host := "") (Or.inl (w139 hw)) Via.refl e14 f13 f15 (Or.inl (w140 hw)) (w111 hw) (ty := .int) (by decide) rfl rfl (g := (mkF m 40 #[vr o0, vr o1, vi 2] [(.int 4), (.ref o0)])) rfl rfl (hb hby d317)
  have K16 := KL.ofW W16
  have Fw16 : Fd6 Z h16 o0 (.int 4) := Fld.same W16 f13
  have N16 := Fr.snoc X16 N12 g_o0
  have C0 := (KL.refl h0 (WS_r66_append Z o0 o_7)).trans K12 (naO (own_mi 0 rfl) (naO (own_mi 1 rfl) (naO (own_mi 2 rfl) (naO (own_mi 3 rfl) (naO (own_mi 4 rfl) (naO (own_mi 5 rfl) (naO (own_mi 6 rfl) (naO (own_mi 7 rfl) (naO (own_mi 8 rfl) (naO (own_mi 9 rfl) (naO (own_mi 10 rfl) (naO (own_mi 11 rfl) (naO (own_mi 12 rfl) (naO (own_mi 13 rfl) (naO (own_mi 14 rfl) (naO (own_mi 15 rfl) na0))))))))))))))))
  have C1 := C0.trans K16 (naO (own_mi 16 rfl) na0)
  have f17 := (kArv K16 Q12_0 (naN ne_o0_o_7 na0))
  refine ⟨T16, _, some (.ref o0), X16, (fun h => by cases h <;> rfl), ?_, fun fs hr => ?_⟩
  · show Q_r66_append Z o0 o1 o_1 i_2 i_3 k_o_1 i_4 o_7 i_8 i_9 k_o_7 h0 n0 _ T16.heap _
    rw [e16]
    exact ⟨rfl, N16, C1, f17, Fw16⟩
  · refine t_aloadN 1 X0.here hx (hb hby d248) rfl rfl rfl ?_
    refine t_ifnonnullYes (pc := 1) 9 X0.here hx (hb hby d249) (by decide) (by decide) ?_
    refine t_aloadN 10 X0.here hx (hb hby d250) rfl rfl rfl ?_
    refine st5 _ ?_
    refine t_istoreN (pc' := 14) (L' := #[vr o0, vr o1, vi 2]) X5.here hx (hb hby d252) rfl rfl ?_
    refine t_aloadN 15 X5.here hx (hb hby d253) rfl rfl rfl ?_
    refine t_aloadN 16 X5.here hx (hb hby d254) rfl rfl rfl ?_
    refine st6 _ ?_
    refine t_iloadN 20 X6.here hx (hb hby d256) rfl rfl ?_
    refine t_iadd 21 (r := 4) X6.here hx (hb hby d257) (by decide : ((2 : Int32) + (2 : Int32)) = (4 : Int32)) rfl ?_
    refine st10 _ ?_
    refine t_aloadN 25 X10.here hx (hb hby d271) rfl rfl rfl ?_
    refine t_aloadN 26 X10.here hx (hb hby d272) rfl rfl rfl ?_
    refine st11 _ ?_
    refine t_aloadN 30 X11.here hx (hb hby d274) rfl rfl rfl ?_
    refine st12 _ ?_
    refine t_aloadN 34 X12.here hx (hb hby d312) rfl rfl rfl ?_
    refine t_dup 35 X12.here hx (hb hby d313) rfl rfl ?_
    refine st14 _ ?_
    refine t_iloadN 39 X14.here hx (hb hby d315) rfl rfl ?_
    refine t_iadd 40 (r := 4) X14.here hx (hb hby d316) (by decide : ((2 : Int32) + (2 : Int32)) = (4 : Int32)) rfl ?_
    refine st16 _ ?_
    refine t_aloadN 44 X16.here hx (hb hby d318) rfl rfl rfl ?_
    jvm_step X16.here [X16.here.top, hx, (hb hby d319), X16.method', hret, Value.isRef, FieldType.isReference]
    first | (intro acts; rw [hr _ acts rfl rfl rfl]) | rw [hr _ _ rfl rfl rfl]
    exact Steps.refl _
def WS_r65_append (Z : State) (o0 o_5 : Addr) : List (Addr × Nat) := [(o_5, 0), (o_5, 1), (o_5, 2), (o_5, 3), (o_5, 4), (o_5, 5), (o_5, 6), (o_5, 7), (o_5, 8), (o_5, 9), (o_5, 10), (o_5, 11), (o_5, 12), (o_5, 13), (o_5, 14), (o_5, 15), (o0, (sl6 Z))]
def Q_r65_append (Z : State) (o0 o1 o_1 : Addr) (i_2 i_3 : Int32) (k_o_1 : ClassId) (i_4 : Int32) (o_5 : Addr) (i_6 i_7 : Int32) (k_o_5 : ClassId) (h0 : Heap) (n0 : Nat) (v : Option Value) (h : Heap) (L : List Loc) : Prop := v = some (.ref o0) ∧ Fr n0 L ∧ KL h0 h (WS_r65_append Z o0 o_5) ∧ Arv Z h o_5 k_o_5 .byte 16 [(.int i_6), (.int i_7), (.int i_2), (.int i_3), z0, z0, z0, z0, z0, z0, z0, z0, z0, z0, z0, z0] z0 ∧ Fd6 Z h o0 (.int 4)
theorem ef_r65_append (o0 o1 : Addr) (m : MethodId) : entryFrame m #[(.ref o0), (.ref o1)] 2 = mkF m 0 #[.val (.ref o0), .val (.ref o1)] [] := by first | (simp [entryFrame, mkF, argsToLocals, Value.category]; done) | rfl
set_option maxRecDepth 65536 in
set_option maxHeartbeats 40000000 in
theorem r65_append (l : Launch) (Z : State) (a0 : Array Value) (hw : HW Z a0) (ws : List Jvm.Cond) (o0 o1 o_1 : Addr) (i_2 i_3 : Int32) (k_o_1 : ClassId) (i_4 : Int32) (o_5 : Addr) (i_6 i_7 : Int32) (k_o_5 : ClassId) (h0 : Heap) (n0 : Nat) (Z0 : n0 ≤ h0.size) (E_o0 : Ex2 Z h0 o0) (E_o1 : Ex0 Z h0 o1) (F_o1_value : Fd1 Z h0 o1 (.ref o_1)) (V_o_1 : Arv Z h0 o_1 k_o_1 .byte 2 [(.int i_2), (.int i_3)] z0) (sCS : SCS Z i_4) (F_o1_coder : Fd0 Z h0 o1 z0) (F_o0_count : Fd6 Z h0 o0 (.int 2)) (F_o0_value : Fd4 Z h0 o0 (.ref o_5)) (V_o_5 : Arv Z h0 o_5 k_o_5 .byte 16 [(.int i_6), (.int i_7), z0, z0, z0, z0, z0, z0, z0, z0, z0, z0, z0, z0, z0, z0] z0) (F_o0_coder : Fd5 Z h0 o0 z0) (O0 : Old Z n0 h0) (hp0 : ¬ (i_4 = (0 : Int32))) (g_o_5 : n0 ≤ o_5) (ne_o0_o_5 : o0 ≠ o_5) (g_o0 : n0 ≤ o0) :
    MF l Z y27_append b23_ 2 (some (.object "java/lang/StringBuilder")) ws ⟨4, 0, 0, 61⟩ #[(.ref o0), (.ref o1)] h0 (Q_r65_append Z o0 o1 o_1 i_2 i_3 k_o_1 i_4 o_5 i_6 i_7 k_o_5 h0 n0) := by
  refine own_body (plainFor_of_name pn_StringBuilder278) (ef_r65_append o0 o1) (by decide) (by decide) ?_
  intro p e s m below meth c s₁ hx hby hml hown hnm hret hZ hh e0 X0
  have N0 := Fr.nil n0
  obtain ⟨_, T8, L8, X8, hQ8, st8⟩ := own_super X0 hx hZ hown (w133 hw) (w134 hw) (w144 hw) rfl (w135 hw) (by decide) (w120 hw) (w137 hw) (by decide) (r66_append l Z a0 hw [] o0 o1 o_1 i_2 i_3 k_o_1 i_4 o_5 i_6 i_7 k_o_5 h0 n0 Z0 E_o1 F_o1_value V_o_1 sCS F_o1_coder O0 hp0 F_o0_count E_o0 F_o0_value V_o_5 F_o0_coder g_o_5 ne_o0_o_5 g_o0) e0 E_o0 (W := 0) (by decide) (g := (mkF m 2 #[vr o0, vr o1] [(.ref o1), (.ref o0)])) rfl hml.symm (argsL := [(.ref o1)]) (rest := []) (lenOf pd_20 rfl) rfl rfl (own_wr rfl rfl) (hb hby d247)
  obtain ⟨rfl, N8q, K8, Q8_0, Q8_1⟩ := hQ8
  have N8 := Fr.app N0 N8q
  have C0 := (KL.refl h0 (WS_r65_append Z o0 o_5)).trans K8 (naO (own_mi 0 rfl) (naO (own_mi 1 rfl) (naO (own_mi 2 rfl) (naO (own_mi 3 rfl) (naO (own_mi 4 rfl) (naO (own_mi 5 rfl) (naO (own_mi 6 rfl) (naO (own_mi 7 rfl) (naO (own_mi 8 rfl) (naO (own_mi 9 rfl) (naO (own_mi 10 rfl) (naO (own_mi 11 rfl) (naO (own_mi 12 rfl) (naO (own_mi 13 rfl) (naO (own_mi 14 rfl) (naO (own_mi 15 rfl) (naO (own_mi 16 rfl) na0)))))))))))))))))
  refine ⟨T8, _, some (.ref o0), X8, (fun h => by cases h <;> rfl), ?_, fun fs hr => ?_⟩
  · show Q_r65_append Z o0 o1 o_1 i_2 i_3 k_o_1 i_4 o_5 i_6 i_7 k_o_5 h0 n0 _ T8.heap _
    exact ⟨rfl, N8, C0, Q8_0, Q8_1⟩
  · refine t_aloadN 1 X0.here hx (hb hby d245) rfl rfl rfl ?_
    refine t_aloadN 2 X0.here hx (hb hby d246) rfl rfl rfl ?_
    refine st8 _ ?_
    refine t_pop 6 X8.here hx (hb hby d320) rfl rfl ?_
    refine t_aloadN 7 X8.here hx (hb hby d321) rfl rfl rfl ?_
    jvm_step X8.here [X8.here.top, hx, (hb hby d322), X8.method', hret, Value.isRef, FieldType.isReference]
    first | (intro acts; rw [hr _ acts rfl rfl rfl]) | rw [hr _ _ rfl rfl rfl]
    exact Steps.refl _
def Q_r75_length (Z : State) (o0 : Addr) (h0 : Heap) (n0 : Nat) (v : Option Value) (h : Heap) (L : List Loc) : Prop := v = some (.int 4) ∧ Fr n0 L ∧ h = h0
theorem ef_r75_length (o0 : Addr) (m : MethodId) : entryFrame m #[(.ref o0)] 1 = mkF m 0 #[.val (.ref o0)] [] := by first | (simp [entryFrame, mkF, argsToLocals, Value.category]; done) | rfl
set_option maxRecDepth 65536 in
set_option maxHeartbeats 40000000 in
theorem r75_length (l : Launch) (Z : State) (a0 : Array Value) (hw : HW Z a0) (ws : List Jvm.Cond) (o0 : Addr) (h0 : Heap) (n0 : Nat) (Z0 : n0 ≤ h0.size) (F_o0_count : Fd6 Z h0 o0 (.int 4)) :
    MF l Z y29_length b34_ 1 (some .int) ws ⟨0, 0, 0, 0⟩ #[(.ref o0)] h0 (Q_r75_length Z o0 h0 n0) := by
  refine own_body (plainFor_of_name pn_AbstractStringBuilder101) (ef_r75_length o0) (by decide) (by decide) ?_
  intro p e s m below meth c s₁ hx hby hml hown hnm hret hZ hh e0 X0
  have N0 := Fr.nil n0
  obtain ⟨T1, X1, e1, st1⟩ := getF X0 hx hZ hown (host := "") (Or.inl (w139 hw)) Via.refl e0 F_o0_count (g := (mkF m 1 #[vr o0] [(.ref o0)])) rfl rfl (hb hby d350)
  refine ⟨T1, _, some (.int 4), X1, (fun h => by cases h <;> rfl), ?_, fun fs hr => ?_⟩
  · show Q_r75_length Z o0 h0 n0 _ T1.heap _
    rw [e1]
    exact ⟨rfl, N0, rfl⟩
  · refine t_aloadN 1 X0.here hx (hb hby d349) rfl rfl rfl ?_
    refine st1 _ ?_
    exact retI X1 hx hret (hb hby d351) hr
def Q_r74_length (Z : State) (o0 : Addr) (h0 : Heap) (n0 : Nat) (v : Option Value) (h : Heap) (L : List Loc) : Prop := v = some (.int 4) ∧ Fr n0 L ∧ h = h0
theorem ef_r74_length (o0 : Addr) (m : MethodId) : entryFrame m #[(.ref o0)] 1 = mkF m 0 #[.val (.ref o0)] [] := by first | (simp [entryFrame, mkF, argsToLocals, Value.category]; done) | rfl
set_option maxRecDepth 65536 in
set_option maxHeartbeats 40000000 in
theorem r74_length (l : Launch) (Z : State) (a0 : Array Value) (hw : HW Z a0) (ws : List Jvm.Cond) (o0 : Addr) (h0 : Heap) (n0 : Nat) (Z0 : n0 ≤ h0.size) (E_o0 : Ex2 Z h0 o0) (F_o0_count : Fd6 Z h0 o0 (.int 4)) :
    MF l Z y30_length b33_ 1 (some .int) ws ⟨1, 0, 0, 12⟩ #[(.ref o0)] h0 (Q_r74_length Z o0 h0 n0) := by
  refine own_body (plainFor_of_name pn_StringBuilder278) (ef_r74_length o0) (by decide) (by decide) ?_
  intro p e s m below meth c s₁ hx hby hml hown hnm hret hZ hh e0 X0
  have N0 := Fr.nil n0
  obtain ⟨_, T1, L1, X1, hQ1, st1⟩ := own_super X0 hx hZ hown (w190 hw) (w186 hw) (w144 hw) rfl (w135 hw) (by decide) (w120 hw) (w191 hw) (by decide) (r75_length l Z a0 hw [] o0 h0 n0 Z0 F_o0_count) e0 E_o0 (W := 0) (by decide) (g := (mkF m 1 #[vr o0] [(.ref o0)])) rfl hml.symm (argsL := []) (rest := []) (lenOf pd_10 rfl) rfl rfl (own_wr rfl rfl) (hb hby d348)
  obtain ⟨rfl, N1q, e1⟩ := hQ1
  have N1 := Fr.app N0 N1q
  refine ⟨T1, _, some (.int 4), X1, (fun h => by cases h <;> rfl), ?_, fun fs hr => ?_⟩
  · show Q_r74_length Z o0 h0 n0 _ T1.heap _
    rw [e1]
    exact ⟨rfl, N1, rfl⟩
  · refine t_aloadN 1 X0.here hx (hb hby d347) rfl rfl rfl ?_
    refine st1 _ ?_
    exact retI X1 hx hret (hb hby d352) hr
def Q_r78_checkLength (Z : State)  (h0 : Heap) (n0 : Nat) (v : Option Value) (h : Heap) (L : List Loc) : Prop := v = none ∧ Fr n0 L ∧ h = h0
theorem ef_r78_checkLength (m : MethodId) : entryFrame m #[(.int 0), (.int 4)] 2 = mkF m 0 #[.val (.int 0), .val (.int 4)] [] := by first | (simp [entryFrame, mkF, argsToLocals, Value.category]; done) | rfl
set_option maxRecDepth 65536 in
set_option maxHeartbeats 40000000 in
theorem r78_checkLength (l : Launch) (Z : State) (a0 : Array Value) (hw : HW Z a0) (ws : List Jvm.Cond)  (h0 : Heap) (n0 : Nat) (Z0 : n0 ≤ h0.size) :
    MF l Z y32_checkLength b38_ 2 none ws ⟨0, 0, 0, 0⟩ #[z0, (.int 4)] h0 (Q_r78_checkLength Z  h0 n0) := by
  refine own_body (plainFor_of_name pn_Arrays587) (ef_r78_checkLength) (by decide) (by decide) ?_
  intro p e s m below meth c s₁ hx hby hml hown hnm hret hZ hh e0 X0
  have N0 := Fr.nil n0
  refine ⟨s₁, _, none, X0, (fun h => by cases h <;> rfl), ?_, fun fs hr => ?_⟩
  · show Q_r78_checkLength Z  h0 n0 _ s₁.heap _
    rw [e0]
    exact ⟨rfl, N0, rfl⟩
  · refine t_iloadN 1 X0.here hx (hb hby d386) rfl rfl ?_
    refine t_iloadN 2 X0.here hx (hb hby d387) rfl rfl ?_
    refine t_icmpYes (pc := 2) 37 X0.here hx (hb hby d388) (by decide) (by decide) (by decide) ?_
    exact X0.returnOut hx hret (hb hby d389) hr
def Q_r79_min (Z : State)  (h0 : Heap) (n0 : Nat) (v : Option Value) (h : Heap) (L : List Loc) : Prop := v = some (.int 4) ∧ Fr n0 L ∧ h = h0
theorem ef_r79_min (m : MethodId) : entryFrame m #[(.int 16), (.int 4)] 2 = mkF m 0 #[.val (.int 16), .val (.int 4)] [] := by first | (simp [entryFrame, mkF, argsToLocals, Value.category]; done) | rfl
set_option maxRecDepth 65536 in
set_option maxHeartbeats 40000000 in
theorem r79_min (l : Launch) (Z : State) (a0 : Array Value) (hw : HW Z a0) (ws : List Jvm.Cond)  (h0 : Heap) (n0 : Nat) (Z0 : n0 ≤ h0.size) :
    MF l Z y14_min b18_ 2 (some .int) ws ⟨0, 0, 0, 0⟩ #[(.int 16), (.int 4)] h0 (Q_r79_min Z  h0 n0) := by
  refine own_body (Jvm.Free.JP.mathPlain rfl (by decide +kernel)) (ef_r79_min) (by decide) (by decide) ?_
  intro p e s m below meth c s₁ hx hby hml hown hnm hret hZ hh e0 X0
  have N0 := Fr.nil n0
  refine ⟨s₁, _, some (.int 4), X0, (fun h => by cases h <;> rfl), ?_, fun fs hr => ?_⟩
  · show Q_r79_min Z  h0 n0 _ s₁.heap _
    rw [e0]
    exact ⟨rfl, N0, rfl⟩
  · refine t_iloadN 1 X0.here hx (hb hby d175) rfl rfl ?_
    refine t_iloadN 2 X0.here hx (hb hby d176) rfl rfl ?_
    refine t_icmpYes (pc := 2) 9 X0.here hx (hb hby d177) (by decide) (by decide) (by decide) ?_
    refine t_iloadN 10 X0.here hx (hb hby d407) rfl rfl ?_
    exact retI X0 hx hret (hb hby d180) hr
def Q_r77_copyOfRangeByte (Z : State) (o0 : Addr) (i_3 i_4 i_5 i_6 : Int32) (k_o0 : ClassId) (h0 : Heap) (n0 : Nat) (v : Option Value) (h : Heap) (L : List Loc) : Prop := ∃ b2 : Addr, ∃ k2 : ClassId, v = some (.ref b2) ∧ Fr n0 L ∧ KL h0 h [] ∧ h0.size ≤ b2 ∧ Arv Z h b2 k2 .byte 4 [(.int i_3), (.int i_4), (.int i_5), (.int i_6)] z0
theorem ef_r77_copyOfRangeByte (o0 : Addr) (m : MethodId) : entryFrame m #[(.ref o0), (.int 0), (.int 4)] 5 = mkF m 0 #[.val (.ref o0), .val (.int 0), .val (.int 4), .unset, .unset] [] := by first | (simp [entryFrame, mkF, argsToLocals, Value.category]; done) | rfl
set_option maxRecDepth 65536 in
set_option maxHeartbeats 40000000 in
theorem r77_copyOfRangeByte (l : Launch) (Z : State) (a0 : Array Value) (hw : HW Z a0) (ws : List Jvm.Cond) (o0 : Addr) (i_3 i_4 i_5 i_6 : Int32) (k_o0 : ClassId) (h0 : Heap) (n0 : Nat) (Z0 : n0 ≤ h0.size) (V_o0 : Arv Z h0 o0 k_o0 .byte 16 [(.int i_3), (.int i_4), (.int i_5), (.int i_6), z0, z0, z0, z0, z0, z0, z0, z0, z0, z0, z0, z0] z0) :
    MF l Z y33_copyOfRangeByte b37_ 5 (some (.array .byte)) ws ⟨1, 1, 4, 18⟩ #[(.ref o0), z0, (.int 4)] h0 (Q_r77_copyOfRangeByte Z o0 i_3 i_4 i_5 i_6 k_o0 h0 n0) := by
  refine own_body (plainFor_of_name pn_Arrays587) (ef_r77_copyOfRangeByte o0) (by decide) (by decide) ?_
  intro p e s m below meth c s₁ hx hby hml hown hnm hret hZ hh e0 X0
  have N0 := Fr.nil n0
  obtain ⟨_, T1, L1, X1, hQ1, st1⟩ := own_static X0 hx hZ hown (w204 hw) (w205 hw) (w199 hw) (w206 hw) (by decide) (r78_checkLength l Z a0 hw []  h0 n0 Z0) e0 (W := 0) (by decide) (g := (mkF m 2 #[vr o0, vi 0, vi 4, .unset, .unset] [(.int 4), z0])) rfl hml.symm (argsL := [z0, (.int 4)]) (rest := []) (lenOf pd_23 rfl) rfl rfl (own_wr rfl rfl) (hb hby d385)
  obtain ⟨rfl, N1q, e1⟩ := hQ1
  have N1 := Fr.app N0 N1q
  obtain ⟨T2, h2, k2, X2, e2, E2, A2, st2⟩ := newP (aty := .byte) X1 hx hZ (w23 hw) e1 (g := (mkF m 10 #[vr o0, vi 0, vi 4, vi 4, .unset] [(.int 4)])) rfl (hb hby d395) rfl (by decide) (cap := 4) (by decide) (by decide) (by decide) (by decide)
  obtain ⟨b2, g2⟩ : ∃ z, z = h0.size := ⟨_, rfl⟩
  rw [← g2] at A2 st2
  have ge_b2 : h0.size ≤ b2 := Nat.le_of_eq g2.symm
  have K2 := KL.ofE E2
  have V2 : Arv Z h2 b2 k2 .byte 4 [z0, z0, z0, z0] z0 := (Arv.new A2 (by decide)).pad (pad_rep [] z0 4)
  have f7 := (kArv K2 V_o0 na0)
  obtain ⟨_, T8, L8, X8, hQ8, st8⟩ := own_static X2 hx hZ hown (w207 hw) (w96 hw) (w93 hw) (w97 hw) (by decide) (r79_min l Z a0 hw []  h2 n0 (Nat.le_trans Z0 K2.1)) e2 (W := 4) (by decide) (g := (mkF m 24 #[vr o0, vi 0, vi 4, vi 4, vr b2] [(.int 4), (.int 16), z0, (.ref b2), z0, (.ref o0)])) rfl hml.symm (argsL := [(.int 16), (.int 4)]) (rest := [z0, (.ref b2), z0, (.ref o0)]) (lenOf pd_12 rfl) rfl rfl (own_wr rfl rfl) (hb hby d406)
  obtain ⟨rfl, N8q, e8⟩ := hQ8
  have N8 := Fr.app N1 N8q
  obtain ⟨T9, h9, L9, X9, e9, N9, Kp9, V9, st9⟩ := cpA X8 hx hZ hown (w208 hw) (w165 hw) (w163 hw) (w164 hw) e8 (us := [(.int i_3), (.int i_4), (.int i_5), (.int i_6)]) f7 V2 (Or.inl ⟨rfl, rfl⟩) (by decide) (by decide) (by decide) (by decide) (by decide) rfl (by first | decide | exact Nat.le_of_ble_eq_true rfl) N8 (Nat.le_trans Z0 ge_b2) (g := (mkF m 27 #[vr o0, vi 0, vi 4, vi 4, vr b2] [(.int 4), z0, (.ref b2), z0, (.ref o0)])) rfl hml.symm rfl (hb hby d408) (by decide) (W := 0) (own_wr rfl rfl) (by decide)
  have K9 : KL h2 h9 [(b2, 0), (b2, 1), (b2, 2), (b2, 3)] := own_kcp Kp9 V2 (n := 4) rfl ⟨_, rfl⟩
  replace V9 : Arv Z h9 b2 k2 .byte 4 [(.int i_3), (.int i_4), (.int i_5), (.int i_6)] z0 := V9
  have C0 := (KL.refl h0 []).trans K2 na0
  have C1 := C0.trans K9 (naOM 4 rfl ge_b2 na0)
  refine ⟨T9, _, some (.ref b2), X9, (fun h => by cases h <;> rfl), ?_, fun fs hr => ?_⟩
  · show Q_r77_copyOfRangeByte Z o0 i_3 i_4 i_5 i_6 k_o0 h0 n0 _ T9.heap _
    rw [e9]
    exact ⟨b2, k2, rfl, N9, C1, ge_b2, V9⟩
  · refine t_iloadN 1 X0.here hx (hb hby d383) rfl rfl ?_
    refine t_iloadN 2 X0.here hx (hb hby d384) rfl rfl ?_
    refine st1 _ ?_
    refine t_iloadN 6 X1.here hx (hb hby d390) rfl rfl ?_
    refine t_iloadN 7 X1.here hx (hb hby d391) rfl rfl ?_
    refine t_isub 8 (r := 4) X1.here hx (hb hby d392) (by decide : ((4 : Int32) - (0 : Int32)) = (4 : Int32)) rfl ?_
    refine t_istoreN (pc' := 9) (L' := #[vr o0, vi 0, vi 4, vi 4, .unset]) X1.here hx (hb hby d393) rfl rfl ?_
    refine t_iloadN 10 X1.here hx (hb hby d394) rfl rfl ?_
    refine st2 _ ?_
    refine t_astore (pc' := 14) (L' := #[vr o0, vi 0, vi 4, vi 4, vr b2]) X2.here hx (hb hby d396) rfl rfl rfl ?_
    refine t_aloadN 15 X2.here hx (hb hby d397) rfl rfl rfl ?_
    refine t_iloadN 16 X2.here hx (hb hby d398) rfl rfl ?_
    refine t_aload 18 X2.here hx (hb hby d399) rfl rfl rfl ?_
    refine t_iconst 19 (r := 0) X2.here hx (hb hby d400) (by decide) rfl ?_
    refine t_aloadN 20 X2.here hx (hb hby d401) rfl rfl rfl ?_
    refine own_arlen (pc' := 21) X2 hx hZ e2 f7 (hb hby d402) rfl ?_
    refine t_iloadN 22 X2.here hx (hb hby d403) rfl rfl ?_
    refine t_isub 23 (r := 16) X2.here hx (hb hby d404) (by decide : ((16 : Int32) - (0 : Int32)) = (16 : Int32)) rfl ?_
    refine t_iloadN 24 X2.here hx (hb hby d405) rfl rfl ?_
    refine st8 _ ?_
    refine st9 _ ?_
    refine t_aload 32 X9.here hx (hb hby d409) rfl rfl rfl ?_
    jvm_step X9.here [X9.here.top, hx, (hb hby d410), X9.method', hret, Value.isRef, FieldType.isReference]
    first | (intro acts; rw [hr _ acts rfl rfl rfl]) | rw [hr _ _ rfl rfl rfl]
    exact Steps.refl _
def Q_r76_copyOfRange (Z : State) (o0 : Addr) (i_1 i_2 i_3 i_4 : Int32) (k_o0 : ClassId) (h0 : Heap) (n0 : Nat) (v : Option Value) (h : Heap) (L : List Loc) : Prop := ∃ b2_5 : Addr, ∃ k2_5 : ClassId, v = some (.ref b2_5) ∧ Fr n0 L ∧ KL h0 h [] ∧ h0.size ≤ b2_5 ∧ Arv Z h b2_5 k2_5 .byte 4 [(.int i_1), (.int i_2), (.int i_3), (.int i_4)] z0
theorem ef_r76_copyOfRange (o0 : Addr) (m : MethodId) : entryFrame m #[(.ref o0), (.int 0), (.int 4)] 3 = mkF m 0 #[.val (.ref o0), .val (.int 0), .val (.int 4)] [] := by first | (simp [entryFrame, mkF, argsToLocals, Value.category]; done) | rfl
set_option maxRecDepth 65536 in
set_option maxHeartbeats 40000000 in
theorem r76_copyOfRange (l : Launch) (Z : State) (a0 : Array Value) (hw : HW Z a0) (ws : List Jvm.Cond) (o0 : Addr) (i_1 i_2 i_3 i_4 : Int32) (k_o0 : ClassId) (h0 : Heap) (n0 : Nat) (Z0 : n0 ≤ h0.size) (V_o0 : Arv Z h0 o0 k_o0 .byte 16 [(.int i_1), (.int i_2), (.int i_3), (.int i_4), z0, z0, z0, z0, z0, z0, z0, z0, z0, z0, z0, z0] z0) :
    MF l Z y34_copyOfRange b36_ 3 (some (.array .byte)) ws ⟨2, 1, 4, 34⟩ #[(.ref o0), z0, (.int 4)] h0 (Q_r76_copyOfRange Z o0 i_1 i_2 i_3 i_4 k_o0 h0 n0) := by
  refine own_body (plainFor_of_name pn_Arrays587) (ef_r76_copyOfRange o0) (by decide) (by decide) ?_
  intro p e s m below meth c s₁ hx hby hml hown hnm hret hZ hh e0 X0
  have N0 := Fr.nil n0
  obtain ⟨_, T5, L5, X5, hQ5, st5⟩ := own_static X0 hx hZ hown (w201 hw) (w202 hw) (w199 hw) (w203 hw) (by decide) (r77_copyOfRangeByte l Z a0 hw [] o0 i_1 i_2 i_3 i_4 k_o0 h0 n0 Z0 V_o0) e0 (W := 0) (by decide) (g := (mkF m 13 #[vr o0, vi 0, vi 4] [(.int 4), z0, (.ref o0)])) rfl hml.symm (argsL := [(.ref o0), z0, (.int 4)]) (rest := []) (lenOf pd_24 rfl) rfl rfl (own_wr rfl rfl) (hb hby d382)
  obtain ⟨b2_5, k2_5, rfl, N5q, K5, Q5_0, Q5_1⟩ := hQ5
  have N5 := Fr.app N0 N5q
  have C0 := (KL.refl h0 []).trans K5 na0
  refine ⟨T5, _, some (.ref b2_5), X5, (fun h => by cases h <;> rfl), ?_, fun fs hr => ?_⟩
  · show Q_r76_copyOfRange Z o0 i_1 i_2 i_3 i_4 k_o0 h0 n0 _ T5.heap _
    exact ⟨b2_5, k2_5, rfl, N5, C0, Q5_0, Q5_1⟩
  · refine t_iloadN 1 X0.here hx (hb hby d373) rfl rfl ?_
    refine t_ifNo 4 X0.here hx (hb hby d374) (by decide) rfl ?_
    refine t_iloadN 5 X0.here hx (hb hby d375) rfl rfl ?_
    refine t_aloadN 6 X0.here hx (hb hby d376) rfl rfl rfl ?_
    refine own_arlen (pc' := 7) X0 hx hZ e0 V_o0 (hb hby d377) rfl ?_
    refine t_icmpNo 10 X0.here hx (hb hby d378) (by decide) rfl ?_
    refine t_aloadN 11 X0.here hx (hb hby d379) rfl rfl rfl ?_
    refine t_iloadN 12 X0.here hx (hb hby d380) rfl rfl ?_
    refine t_iloadN 13 X0.here hx (hb hby d381) rfl rfl ?_
    refine st5 _ ?_
    jvm_step X5.here [X5.here.top, hx, (hb hby d411), X5.method', hret, Value.isRef, FieldType.isReference]
    first | (intro acts; rw [hr _ acts rfl rfl rfl]) | rw [hr _ _ rfl rfl rfl]
    exact Steps.refl _
def WS_r73__init_ (Z : State) (o0 : Addr) : List (Addr × Nat) := [(o0, (sl0 Z)), (o0, (sl1 Z))]
def Q_r73__init_ (Z : State) (o0 o1 o_2 : Addr) (i_5 i_8 i_9 i_10 i_11 : Int32) (k_o_2 : ClassId) (h0 : Heap) (n0 : Nat) (v : Option Value) (h : Heap) (L : List Loc) : Prop := ∃ b2_5_12 : Addr, ∃ k2_5_12 : ClassId, v = none ∧ Fr n0 L ∧ KL h0 h (WS_r73__init_ Z o0) ∧ h0.size ≤ b2_5_12 ∧ Fd0 Z h o0 z0 ∧ Fd1 Z h o0 (.ref b2_5_12) ∧ Arv Z h b2_5_12 k2_5_12 .byte 4 [(.int i_8), (.int i_9), (.int i_10), (.int i_11)] z0
theorem ef_r73__init_ (o0 o1 : Addr) (m : MethodId) : entryFrame m #[(.ref o0), (.ref o1), .null] 5 = mkF m 0 #[.val (.ref o0), .val (.ref o1), .val .null, .unset, .unset] [] := by first | (simp [entryFrame, mkF, argsToLocals, Value.category]; done) | rfl
set_option maxRecDepth 65536 in
set_option maxHeartbeats 40000000 in
theorem r73__init_ (l : Launch) (Z : State) (a0 : Array Value) (hw : HW Z a0) (ws : List Jvm.Cond) (o0 o1 o_2 : Addr) (i_5 i_8 i_9 i_10 i_11 : Int32) (k_o_2 : ClassId) (h0 : Heap) (n0 : Nat) (Z0 : n0 ≤ h0.size) (E_o1 : Ex2 Z h0 o1) (F_o1_value : Fd4 Z h0 o1 (.ref o_2)) (F_o1_count : Fd6 Z h0 o1 (.int 4)) (sCS : SCS Z i_5) (F_o1_coder : Fd5 Z h0 o1 z0) (O0 : Old Z n0 h0) (hp0 : ¬ (i_5 = (0 : Int32))) (F_o0_coder : Fd0 Z h0 o0 z0) (E_o0 : Ex0 Z h0 o0) (g_o0 : n0 ≤ o0) (V_o_2 : Arv Z h0 o_2 k_o_2 .byte 16 [(.int i_8), (.int i_9), (.int i_10), (.int i_11), z0, z0, z0, z0, z0, z0, z0, z0, z0, z0, z0, z0] z0) (ne_o0_o_2 : o0 ≠ o_2) (F_o0_value : Fd1 Z h0 o0 .null) :
    MF l Z y35__init_ b31_ 5 none ws ⟨3, 1, 4, 49⟩ #[(.ref o0), (.ref o1), .null] h0 (Q_r73__init_ Z o0 o1 o_2 i_5 i_8 i_9 i_10 i_11 k_o_2 h0 n0) := by
  refine own_body (plainFor_of_name pn_String564) (ef_r73__init_ o0 o1) (by decide) (by decide) ?_
  intro p e s m below meth c s₁ hx hby hml hown hnm hret hZ hh e0 X0
  have N0 := Fr.nil n0
  obtain ⟨T1, X1, e1, st1⟩ := initO X0 hx hZ hown (w15 hw) (w16 hw) (w17 hw) e0 (g := (mkF m 1 #[vr o0, vr o1, .val .null, .unset, .unset] [(.ref o0)])) rfl hml.symm rfl (hb hby d338) (by decide) (W := 0) (own_wr rfl rfl) (by decide)
  obtain ⟨_, T3, L3, X3, hQ3, st3⟩ := own_virtual X1 hx hZ hown (w179 hw) (w180 hw) (nfS hZ (w182 hw)) (w182 hw) (w181 hw) (w120 hw) (w183 hw) (by decide) (r42_getValue l Z a0 hw [] o1 o_2 h0 n0 Z0 F_o1_value) e1 E_o1 (W := 0) (by decide) (g := (mkF m 5 #[vr o0, vr o1, .val .null, .unset, .unset] [(.ref o1)])) rfl hml.symm (argsL := []) (rest := []) (lenOf pd_22 rfl) rfl rfl (own_wr rfl rfl) (hb hby d340)
  obtain ⟨rfl, N3q, e3⟩ := hQ3
  have N3 := Fr.app N0 N3q
  obtain ⟨_, T4, L4, X4, hQ4, st4⟩ := own_virtual X3 hx hZ hown (w184 hw) (w185 hw) (own_nf (args := #[]) (mvT hZ (w144 hw)) rfl) (w187 hw) (w188 hw) (w112 hw) (w189 hw) (by decide) (r74_length l Z a0 hw [] o1 h0 n0 Z0 E_o1 F_o1_count) e3 E_o1 (W := 0) (by decide) (g := (mkF m 10 #[vr o0, vr o1, .val .null, vr o_2, .unset] [(.ref o1)])) rfl hml.symm (argsL := []) (rest := []) (lenOf pd_10 rfl) rfl rfl (own_wr rfl rfl) (hb hby d346)
  obtain ⟨rfl, N4q, e4⟩ := hQ4
  have N4 := Fr.app N3 N4q
  obtain ⟨_, T6, L6, X6, hQ6, st6⟩ := own_virtual X4 hx hZ hown (w192 hw) (w193 hw) (nfS hZ (w195 hw)) (w195 hw) (w194 hw) (w120 hw) (w196 hw) (by decide) (r45_isLatin1 l Z a0 hw [] o1 i_5 h0 n0 Z0 sCS O0 hp0 F_o1_coder) e4 E_o1 (W := 0) (by decide) (g := (mkF m 16 #[vr o0, vr o1, .val .null, vr o_2, vi 4] [(.ref o1)])) rfl hml.symm (argsL := []) (rest := []) (lenOf pd_8 rfl) rfl rfl (own_wr rfl rfl) (hb hby d355)
  obtain ⟨rfl, N6q, e6⟩ := hQ6
  have N6 := Fr.app N4 N6q
  obtain ⟨T7, h7, X7, e7, W7, st7⟩ := putF X6 hx hZ hown (host := "") (Or.inl (w30 hw)) Via.refl e6 F_o0_coder E_o0 (Or.inr ⟨(w31 hw), rfl, hnm⟩) (w5 hw) (ty := .byte) (by decide) (by decide) (by decide) (g := (mkF m 24 #[vr o0, vr o1, .val .null, vr o_2, vi 4] [z0, (.ref o0)])) rfl rfl (hb hby d367)
  have K7 := KL.ofW W7
  have Fw7 : Fd0 Z h7 o0 z0 := Fld.same W7 F_o0_coder
  have N7 := Fr.snoc X7 N6 g_o0
  have f13 := (kArv K7 V_o_2 (naN ne_o0_o_2 na0))
  obtain ⟨_, T12, L12, X12, hQ12, st12⟩ := own_static X7 hx hZ hown (w197 hw) (w198 hw) (w199 hw) (w200 hw) (by decide) (r76_copyOfRange l Z a0 hw [] o_2 i_8 i_9 i_10 i_11 k_o_2 h7 n0 (Nat.le_trans Z0 K7.1) f13) e7 (W := 1) (by decide) (g := (mkF m 32 #[vr o0, vr o1, .val .null, vr o_2, vi 4] [(.int 4), z0, (.ref o_2), (.ref o0)])) rfl hml.symm (argsL := [(.ref o_2), z0, (.int 4)]) (rest := [(.ref o0)]) (lenOf pd_24 rfl) rfl rfl (own_wr rfl rfl) (hb hby d372)
  obtain ⟨b2_5_12, k2_5_12, rfl, N12q, K12, Q12_0, Q12_1⟩ := hQ12
  have N12 := Fr.app N7 N12q
  have f15 := (kFld K12 (kFld K7 F_o0_value (nwS (Or.inr (sn_0 hw)) nw0)) nw0)
  have f16 := (kExa K12 (kExa K7 E_o0))
  obtain ⟨T17, h17, X17, e17, W17, st17⟩ := putF X12 hx hZ hown (host := "") (Or.inl (w32 hw)) Via.refl rfl f15 f16 (Or.inr ⟨(w33 hw), rfl, hnm⟩) (w5 hw) (ty := (.array .byte)) (by decide) rfl rfl (g := (mkF m 35 #[vr o0, vr o1, .val .null, vr o_2, vi 4] [(.ref b2_5_12), (.ref o0)])) rfl rfl (hb hby d412)
  have K17 := KL.ofW W17
  have Fw17 : Fd1 Z h17 o0 (.ref b2_5_12) := Fld.same W17 f15
  have N17 := Fr.snoc X17 N12 g_o0
  have C0 := (KL.refl h0 (WS_r73__init_ Z o0)).trans K7 (naO (own_mi 0 rfl) na0)
  have C1 := C0.trans K12 na0
  have C2 := C1.trans K17 (naO (own_mi 1 rfl) na0)
  have f18 := (kFld K17 (kFld K12 Fw7 nw0) (nwS (Or.inr (sn_1 hw)) nw0))
  have lt_o0 : o0 < h0.size := Fld.lt F_o0_coder
  have f19 := (kArv K17 Q12_1 (naN (lt_ne (Nat.lt_of_lt_of_le lt_o0 K7.1) Q12_0) na0))
  refine ⟨T17, _, none, X17, (fun h => by cases h <;> rfl), ?_, fun fs hr => ?_⟩
  · show Q_r73__init_ Z o0 o1 o_2 i_5 i_8 i_9 i_10 i_11 k_o_2 h0 n0 _ T17.heap _
    rw [e17]
    exact ⟨b2_5_12, k2_5_12, rfl, N17, C2, (Nat.le_trans K7.1 Q12_0), f18, Fw17, f19⟩
  · refine t_aloadN 1 X0.here hx (hb hby d337) rfl rfl rfl ?_
    refine st1 _ ?_
    refine t_aloadN 5 X1.here hx (hb hby d339) rfl rfl rfl ?_
    refine st3 _ ?_
    refine t_astoreN (pc' := 9) (L' := #[vr o0, vr o1, .val .null, vr o_2, .unset]) X3.here hx (hb hby d344) rfl rfl rfl ?_
    refine t_aloadN 10 X3.here hx (hb hby d345) rfl rfl rfl ?_
    refine st4 _ ?_
    refine t_istore (pc' := 15) (L' := #[vr o0, vr o1, .val .null, vr o_2, vi 4]) X4.here hx (hb hby d353) rfl rfl ?_
    refine t_aloadN 16 X4.here hx (hb hby d354) rfl rfl rfl ?_
    refine st6 _ ?_
    refine t_ifNo 22 X6.here hx (hb hby d364) (by decide) rfl ?_
    refine t_aloadN 23 X6.here hx (hb hby d365) rfl rfl rfl ?_
    refine t_iconst 24 (r := 0) X6.here hx (hb hby d366) (by decide) rfl ?_
    refine st7 _ ?_
    refine t_aloadN 28 X7.here hx (hb hby d368) rfl rfl rfl ?_
    refine t_aloadN 29 X7.here hx (hb hby d369) rfl rfl rfl ?_
    refine t_iconst 30 (r := 0) X7.here hx (hb hby d370) (by decide) rfl ?_
    refine t_iload 32 X7.here hx (hb hby d371) rfl rfl ?_
    refine st12 _ ?_
    refine st17 _ ?_
    refine t_goto (pc := 38) 97 X17.here hx (hb hby d413) (by decide) (by decide) ?_
    exact X17.returnOut hx hret (hb hby d414) hr
def WS_r72__init_ (Z : State) (o0 : Addr) : List (Addr × Nat) := [(o0, (sl0 Z)), (o0, (sl1 Z))]
def Q_r72__init_ (Z : State) (o0 o1 o_1 : Addr) (i_2 i_3 i_4 i_5 i_6 : Int32) (k_o_1 : ClassId) (h0 : Heap) (n0 : Nat) (v : Option Value) (h : Heap) (L : List Loc) : Prop := ∃ b2_5_12_7 : Addr, ∃ k2_5_12_7 : ClassId, v = none ∧ Fr n0 L ∧ KL h0 h (WS_r72__init_ Z o0) ∧ h0.size ≤ b2_5_12_7 ∧ Fd0 Z h o0 z0 ∧ Fd1 Z h o0 (.ref b2_5_12_7) ∧ Arv Z h b2_5_12_7 k2_5_12_7 .byte 4 [(.int i_3), (.int i_4), (.int i_5), (.int i_6)] z0
theorem ef_r72__init_ (o0 o1 : Addr) (m : MethodId) : entryFrame m #[(.ref o0), (.ref o1)] 2 = mkF m 0 #[.val (.ref o0), .val (.ref o1)] [] := by first | (simp [entryFrame, mkF, argsToLocals, Value.category]; done) | rfl
set_option maxRecDepth 65536 in
set_option maxHeartbeats 40000000 in
theorem r72__init_ (l : Launch) (Z : State) (a0 : Array Value) (hw : HW Z a0) (ws : List Jvm.Cond) (o0 o1 o_1 : Addr) (i_2 i_3 i_4 i_5 i_6 : Int32) (k_o_1 : ClassId) (h0 : Heap) (n0 : Nat) (Z0 : n0 ≤ h0.size) (E_o1 : Ex2 Z h0 o1) (F_o1_value : Fd4 Z h0 o1 (.ref o_1)) (F_o1_count : Fd6 Z h0 o1 (.int 4)) (sCS : SCS Z i_2) (F_o1_coder : Fd5 Z h0 o1 z0) (F_o0_coder : Fd0 Z h0 o0 z0) (E_o0 : Ex0 Z h0 o0) (V_o_1 : Arv Z h0 o_1 k_o_1 .byte 16 [(.int i_3), (.int i_4), (.int i_5), (.int i_6), z0, z0, z0, z0, z0, z0, z0, z0, z0, z0, z0, z0] z0) (F_o0_value : Fd1 Z h0 o0 .null) (O0 : Old Z n0 h0) (hp0 : ¬ (i_2 = (0 : Int32))) (g_o0 : n0 ≤ o0) (ne_o0_o_1 : o0 ≠ o_1) :
    MF l Z y36__init_ b30_ 2 none ws ⟨4, 1, 4, 65⟩ #[(.ref o0), (.ref o1)] h0 (Q_r72__init_ Z o0 o1 o_1 i_2 i_3 i_4 i_5 i_6 k_o_1 h0 n0) := by
  refine own_body (plainFor_of_name pn_String564) (ef_r72__init_ o0 o1) (by decide) (by decide) ?_
  intro p e s m below meth c s₁ hx hby hml hown hnm hret hZ hh e0 X0
  have N0 := Fr.nil n0
  obtain ⟨_, T7, L7, X7, hQ7, st7⟩ := own_init X0 hx hZ rfl hown (w176 hw) (w177 hw) (w6 hw) (w178 hw) (by decide) (r73__init_ l Z a0 hw [] o0 o1 o_1 i_2 i_3 i_4 i_5 i_6 k_o_1 h0 n0 Z0 E_o1 F_o1_value F_o1_count sCS F_o1_coder O0 hp0 F_o0_coder E_o0 g_o0 V_o_1 ne_o0_o_1 F_o0_value) e0 (W := 0) (by decide) (g := (mkF m 3 #[vr o0, vr o1] [.null, (.ref o1), (.ref o0)])) rfl hml.symm (argsL := [(.ref o1), .null]) (rest := []) (lenOf pd_25 rfl) rfl rfl (own_wr rfl rfl) (hb hby d336)
  obtain ⟨b2_5_12_7, k2_5_12_7, rfl, N7q, K7, Q7_0, Q7_1, Q7_2, Q7_3⟩ := hQ7
  have N7 := Fr.app N0 N7q
  have C0 := (KL.refl h0 (WS_r72__init_ Z o0)).trans K7 (naO (own_mi 0 rfl) (naO (own_mi 1 rfl) na0))
  refine ⟨T7, _, none, X7, (fun h => by cases h <;> rfl), ?_, fun fs hr => ?_⟩
  · show Q_r72__init_ Z o0 o1 o_1 i_2 i_3 i_4 i_5 i_6 k_o_1 h0 n0 _ T7.heap _
    exact ⟨b2_5_12_7, k2_5_12_7, rfl, N7, C0, Q7_0, Q7_1, Q7_2, Q7_3⟩
  · refine t_aloadN 1 X0.here hx (hb hby d333) rfl rfl rfl ?_
    refine t_aloadN 2 X0.here hx (hb hby d334) rfl rfl rfl ?_
    refine t_aconst_null 3 X0.here hx (hb hby d335) rfl ?_
    refine st7 _ ?_
    exact X7.returnOut hx hret (hb hby d415) hr
def Q_r71_toString (Z : State) (o0 o_2 : Addr) (i_3 i_4 i_5 i_6 i_7 : Int32) (k_o_2 : ClassId) (h0 : Heap) (n0 : Nat) (v : Option Value) (h : Heap) (L : List Loc) : Prop := ∃ b1 : Addr, ∃ b2_5_12_7_8 : Addr, ∃ k2_5_12_7_8 : ClassId, v = some (.ref b1) ∧ Fr n0 L ∧ KL h0 h [] ∧ h0.size ≤ b1 ∧ h0.size ≤ b2_5_12_7_8 ∧ b1 ≠ b2_5_12_7_8 ∧ Ex0 Z h b1 ∧ Fd0 Z h b1 z0 ∧ Fd1 Z h b1 (.ref b2_5_12_7_8) ∧ Arv Z h b2_5_12_7_8 k2_5_12_7_8 .byte 4 [(.int i_4), (.int i_5), (.int i_6), (.int i_7)] z0
theorem ef_r71_toString (o0 : Addr) (m : MethodId) : entryFrame m #[(.ref o0)] 1 = mkF m 0 #[.val (.ref o0)] [] := by first | (simp [entryFrame, mkF, argsToLocals, Value.category]; done) | rfl
set_option maxRecDepth 65536 in
set_option maxHeartbeats 40000000 in
theorem r71_toString (l : Launch) (Z : State) (a0 : Array Value) (hw : HW Z a0) (ws : List Jvm.Cond) (o0 o_2 : Addr) (i_3 i_4 i_5 i_6 i_7 : Int32) (k_o_2 : ClassId) (h0 : Heap) (n0 : Nat) (Z0 : n0 ≤ h0.size) (E_o0 : Ex2 Z h0 o0) (F_o0_value : Fd4 Z h0 o0 (.ref o_2)) (F_o0_count : Fd6 Z h0 o0 (.int 4)) (sCS : SCS Z i_3) (F_o0_coder : Fd5 Z h0 o0 z0) (V_o_2 : Arv Z h0 o_2 k_o_2 .byte 16 [(.int i_4), (.int i_5), (.int i_6), (.int i_7), z0, z0, z0, z0, z0, z0, z0, z0, z0, z0, z0, z0] z0) (O0 : Old Z n0 h0) (hp0 : ¬ (i_3 = (0 : Int32))) :
    MF l Z y37_toString b29_ 1 (some (.object "java/lang/String")) ws ⟨5, 2, 8, 79⟩ #[(.ref o0)] h0 (Q_r71_toString Z o0 o_2 i_3 i_4 i_5 i_6 i_7 k_o_2 h0 n0) := by
  refine own_body (plainFor_of_name pn_StringBuilder278) (ef_r71_toString o0) (by decide) (by decide) ?_
  intro p e s m below meth c s₁ hx hby hml hown hnm hret hZ hh e0 X0
  have N0 := Fr.nil n0
  obtain ⟨T1, h1, X1, e1, E1, A1, D1, -, st1⟩ := newO X0 hx hZ hown (w172 hw) (w5 hw) (w6 hw) e0 (g := (mkF m 0 #[vr o0] [])) rfl (hb hby d329) (by decide) (by decide)
  obtain ⟨b1, g1⟩ : ∃ z, z = h0.size := ⟨_, rfl⟩
  rw [← g1] at A1 D1 st1
  have ge_b1 : h0.size ≤ b1 := Nat.le_of_eq g1.symm
  have K1 := KL.ofE E1
  have F_b1_coder : Fd0 Z h1 b1 z0 := D1 (Or.inr (w31 hw)) (ty := .byte) (by decide)
  have F_b1_value : Fd1 Z h1 b1 .null := D1 (Or.inr (w33 hw)) (ty := (.array .byte)) (by decide)
  have f9 := (kExa K1 E_o0)
  have f10 := (kFld K1 F_o0_value nw0)
  have f11 := (kFld K1 F_o0_count nw0)
  have f12 := (kFld K1 F_o0_coder nw0)
  have f13 := (kArv K1 V_o_2 na0)
  have f14 := (kOld K1 O0 na0)
  have lt_o_2 : o_2 < h0.size := Arv.lt V_o_2
  obtain ⟨_, T8, L8, X8, hQ8, st8⟩ := own_init X1 hx hZ rfl hown (w173 hw) (w174 hw) (w6 hw) (w175 hw) (by decide) (r72__init_ l Z a0 hw [] b1 o0 o_2 i_3 i_4 i_5 i_6 i_7 k_o_2 h1 n0 (Nat.le_trans Z0 K1.1) f9 f10 f11 sCS f12 F_b1_coder A1 f13 F_b1_value f14 hp0 (Nat.le_trans Z0 ge_b1) (Ne.symm (lt_ne lt_o_2 ge_b1))) e1 (W := 1) (by decide) (g := (mkF m 5 #[vr o0] [(.ref o0), (.ref b1), (.ref b1)])) rfl hml.symm (argsL := [(.ref o0)]) (rest := [(.ref b1)]) (lenOf pd_26 rfl) rfl rfl (own_wr rfl rfl) (hb hby d332)
  obtain ⟨b2_5_12_7_8, k2_5_12_7_8, rfl, N8q, K8, Q8_0, Q8_1, Q8_2, Q8_3⟩ := hQ8
  have N8 := Fr.app N0 N8q
  have C0 := (KL.refl h0 []).trans K1 na0
  have C1 := C0.trans K8 (naO (Or.inr ge_b1) (naO (Or.inr ge_b1) na0))
  have lt_b1 : b1 < h1.size := Exa.lt A1
  have f16 := (kExa K8 A1)
  refine ⟨T8, _, some (.ref b1), X8, (fun h => by cases h <;> rfl), ?_, fun fs hr => ?_⟩
  · show Q_r71_toString Z o0 o_2 i_3 i_4 i_5 i_6 i_7 k_o_2 h0 n0 _ T8.heap _
    exact ⟨b1, b2_5_12_7_8, k2_5_12_7_8, rfl, N8, C1, ge_b1, (Nat.le_trans K1.1 Q8_0), (lt_ne lt_b1 Q8_0), f16, Q8_1, Q8_2, Q8_3⟩
  · refine st1 _ ?_
    refine t_dup 4 X1.here hx (hb hby d330) rfl rfl ?_
    refine t_aloadN 5 X1.here hx (hb hby d331) rfl rfl rfl ?_
    refine st8 _ ?_
    jvm_step X8.here [X8.here.top, hx, (hb hby d416), X8.method', hret, Value.isRef, FieldType.isReference]
    first | (intro acts; rw [hr _ acts rfl rfl rfl]) | rw [hr _ _ rfl rfl rfl]
    exact Steps.refl _
def Q_r64_toString (Z : State) (o0 : Addr) (i_2 : Int32) (o_6 o_9 : Addr) (i_10 : Int32) (k_o_9 : ClassId) (o_27 o_30 : Addr) (i_31 i_32 : Int32) (k_o_30 : ClassId) (h0 : Heap) (n0 : Nat) (v : Option Value) (h : Heap) (L : List Loc) : Prop := ∃ b1_42 : Addr, ∃ b2_5_12_7_8_42 : Addr, ∃ k2_5_12_7_8_42 : ClassId, v = some (.ref b1_42) ∧ Fr n0 L ∧ KL h0 h [] ∧ h0.size ≤ b1_42 ∧ h0.size ≤ b2_5_12_7_8_42 ∧ b1_42 ≠ b2_5_12_7_8_42 ∧ Ex0 Z h b1_42 ∧ Fd0 Z h b1_42 z0 ∧ Fd1 Z h b1_42 (.ref b2_5_12_7_8_42) ∧ Arv Z h b2_5_12_7_8_42 k2_5_12_7_8_42 .byte 4 [(.int i_10), (.int 58), (.int i_31), (.int i_32)] z0
theorem ef_r64_toString (o0 : Addr) (m : MethodId) : entryFrame m #[(.ref o0)] 1 = mkF m 0 #[.val (.ref o0)] [] := by first | (simp [entryFrame, mkF, argsToLocals, Value.category]; done) | rfl
set_option maxRecDepth 65536 in
set_option maxHeartbeats 40000000 in
theorem r64_toString (l : Launch) (Z : State) (a0 : Array Value) (hw : HW Z a0) (ws : List Jvm.Cond) (o0 : Addr) (i_2 : Int32) (o_6 o_9 : Addr) (i_10 : Int32) (k_o_9 : ClassId) (o_27 o_30 : Addr) (i_31 i_32 : Int32) (k_o_30 : ClassId) (h0 : Heap) (n0 : Nat) (Z0 : n0 ≤ h0.size) (sCS : SCS Z i_2) (O0 : Old Z n0 h0) (hp0 : ¬ (i_2 = (0 : Int32))) (F_o0_system : Fd2 Z h0 o0 (.ref o_6)) (E_o_6 : Ex0 Z h0 o_6) (F_o_6_value : Fd1 Z h0 o_6 (.ref o_9)) (V_o_9 : Arv Z h0 o_9 k_o_9 .byte 1 [(.int i_10)] z0) (F_o_6_coder : Fd0 Z h0 o_6 z0) (F_o0_id : Fd3 Z h0 o0 (.ref o_27)) (E_o_27 : Ex0 Z h0 o_27) (F_o_27_value : Fd1 Z h0 o_27 (.ref o_30)) (V_o_30 : Arv Z h0 o_30 k_o_30 .byte 2 [(.int i_31), (.int i_32)] z0) (F_o_27_coder : Fd0 Z h0 o_27 z0) :
    OMH l Z consts_1 [] y38_toString b20_ 1 (some (.object "java/lang/String")) ws ⟨6, 6, 36, 91⟩ #[(.ref o0)] h0 (Q_r64_toString Z o0 i_2 o_6 o_9 i_10 k_o_9 o_27 o_30 i_31 i_32 k_o_30 h0 n0) := by
  refine own_bodyH (k := 6) (n := 36) (own_EW hw) (plainFor_of_name pn_Identifier44) (ef_r64_toString o0) (by decide) (by decide) ?_
  intro p e s m below meth c s₁ hx hby hml hown hnm hret hZ e0 hS0 hk0 X0 hC0 hSF0
  have N0 := Fr.nil n0
  obtain ⟨T1, h1, X1, e1, E1, A1, D1, -, st1⟩ := newO X0 hx hZ hown (w110 hw) (w111 hw) (w112 hw) e0 (g := (mkF m 0 #[vr o0] [])) rfl (hb hby d222) (by decide) (by decide)
  obtain ⟨b1, g1⟩ : ∃ z, z = h0.size := ⟨_, rfl⟩
  rw [← g1] at A1 D1 st1
  have ge_b1 : h0.size ≤ b1 := Nat.le_of_eq g1.symm
  have K1 := KL.ofE E1
  have Ck0 := own_chK K1 na0 (CHr.refl hC0).1
  have Ah1 := (CHr.refl hC0).trans Ck0.1
  have F_b1_value : Fd4 Z h1 b1 .null := D1 (Or.inl (w125 hw)) (ty := (.array .byte)) (by decide)
  have F_b1_coder : Fd5 Z h1 b1 z0 := D1 (Or.inl (w127 hw)) (ty := .byte) (by decide)
  have F_b1_count : Fd6 Z h1 b1 z0 := D1 (Or.inl (w140 hw)) (ty := .int) (by decide)
  have f4 := (kOld K1 O0 na0)
  obtain ⟨_, T3, L3, X3, hQ3, st3⟩ := own_init X1 hx hZ rfl hown (w113 hw) (w114 hw) (w112 hw) (w115 hw) (by decide) (r21__init_ l Z a0 hw [] b1 i_2 h1 n0 (Nat.le_trans Z0 K1.1) sCS F_b1_value A1 F_b1_coder f4 hp0 (Nat.le_trans Z0 ge_b1)) e1 (W := 1) (by decide) (g := (mkF m 4 #[vr o0] [(.ref b1), (.ref b1)])) rfl hml.symm (argsL := []) (rest := [(.ref b1)]) (lenOf pd_6 rfl) rfl rfl (own_wr rfl rfl) (hb hby d224)
  obtain ⟨b4_2_3, k4_2_3, rfl, N3q, K3, Q3_0, Q3_1, Q3_2, Q3_3⟩ := hQ3
  have N3 := Fr.app N0 N3q
  have Ck1 := own_chK K3 (naF (Safe.exa hZ.alike A1 (by decide) (by decide)) (naF (Safe.exa hZ.alike A1 (by decide) (by decide)) na0)) Ah1.1
  have Ah2 := Ah1.trans Ck1.1
  have lt_o0 : o0 < h0.size := Fld.lt F_o0_system
  have f7 := (kFld K3 (kFld K1 F_o0_system nw0) (nwS (Or.inl (lt_ne lt_o0 ge_b1)) (nwS (Or.inl (lt_ne lt_o0 ge_b1)) nw0)))
  obtain ⟨T8, X8, e8, st8⟩ := getF X3 hx hZ hown (host := "") (Or.inl (w101 hw)) Via.refl rfl f7 (g := (mkF m 8 #[vr o0] [(.ref o0), (.ref b1)])) rfl rfl (hb hby d243)
  have f12 := (kExa K3 A1)
  have f13 := (kExa K3 (kExa K1 E_o_6))
  have lt_o_6 : o_6 < h0.size := Exa.lt E_o_6
  have f14 := (kFld K3 (kFld K1 F_o_6_value nw0) (nwS (Or.inl (lt_ne lt_o_6 ge_b1)) (nwS (Or.inl (lt_ne lt_o_6 ge_b1)) nw0)))
  have lt_o_9 : o_9 < h0.size := Arv.lt V_o_9
  have f15 := (kArv K3 (kArv K1 V_o_9 na0) (naN (Ne.symm (lt_ne lt_o_9 ge_b1)) (naN (Ne.symm (lt_ne lt_o_9 ge_b1)) na0)))
  have f16 := (kFld K3 (kFld K1 F_o_6_coder nw0) (nwS (Or.inl (lt_ne lt_o_6 ge_b1)) (nwS (Or.inl (lt_ne lt_o_6 ge_b1)) nw0)))
  have f17 := (kFld K3 F_b1_count (nwS (Or.inr (sn_7 hw)) (nwS (Or.inr (sn_6 hw)) nw0)))
  have f18 := (kOld K3 f4 (naS (P := fun w => n0 ≤ w.1) (Nat.le_trans Z0 ge_b1) (naS (P := fun w => n0 ≤ w.1) (Nat.le_trans Z0 ge_b1) na0)))
  have lt_b1 : b1 < h1.size := Exa.lt A1
  have sz_0_2 := (Nat.le_trans K1.1 K3.1)
  obtain ⟨_, T11, L11, X11, hQ11, st11⟩ := own_virtual X8 hx hZ hown (w128 hw) (w129 hw) (nfS hZ (w131 hw)) (w131 hw) (w130 hw) (w112 hw) (w132 hw) (by decide) (r23_append l Z a0 hw [] b1 o_6 o_9 i_10 k_o_9 i_2 b4_2_3 k4_2_3 T3.heap n0 (Nat.le_trans Z0 sz_0_2) f12 f13 f14 f15 sCS f16 f17 Q3_1 Q3_3 Q3_2 f18 hp0 (Nat.le_trans Z0 (Nat.le_trans K1.1 Q3_0)) (lt_ne lt_b1 Q3_0) (Nat.le_trans Z0 ge_b1)) e8 f12 (W := 0) (by decide) (g := (mkF m 11 #[vr o0] [(.ref o_6), (.ref b1)])) rfl hml.symm (argsL := [(.ref o_6)]) (rest := []) (lenOf pd_21 rfl) rfl rfl (own_wr rfl rfl) (hb hby d244)
  obtain ⟨rfl, N11q, K11, Q11_0, Q11_1⟩ := hQ11
  have N11 := Fr.app N3 N11q
  have Ck2 := own_chK K11 (naFM 16 rfl (Ck1.2 _ (Safe.new Q3_0)) (naF (Safe.exa hZ.alike f12 (by decide) (by decide)) na0)) Ah2.1
  have Ah3 := Ah2.trans Ck2.1
  have sz_0_3 := (Nat.le_trans sz_0_2 K11.1)
  obtain ⟨c19, T19, h19, k19, b19, kb19, X19, e19, E19, hS19, hk19, hZ19, hown19, Ex19, Fc19, Fv19, Ar19, lta19, ltb19, hC19, Lt19, hne19, st19⟩ := ldcCH X11 hx hZ hown (w166 hw) (own_wS hw) rfl hS0 (Nat.le_trans hk0 sz_0_3) (own_EW hw) (by decide) Ah3.1 (vs := [(.int 58)]) (z := 1) ⟨by decide, rfl⟩ (by decide) rfl (g := (mkF m 14 #[vr o0] [(.ref b1)])) rfl (hb hby d323) (n := 4) (by decide) (by decide) (by decide) (by decide)
  have K19 := KL.ofE E19
  have Ah4 := Ah3.trans hC19
  have f21 := (kExa K19 (kExa K11 f12))
  have f22 := (kFld K19 Q11_1 nw0)
  have f23 := (kFld K19 (kFld K11 Q3_1 (nwM 16 rfl (lt_ne lt_b1 Q3_0) (nwS (Or.inr (sn_8 hw)) nw0))) nw0)
  have f24 := (kArv K19 Q11_0 na0)
  have f25 := (kFld K19 (kFld K11 Q3_2 (nwM 16 rfl (lt_ne lt_b1 Q3_0) (nwS (Or.inr (sn_9 hw)) nw0))) nw0)
  have f26 := (kOld K19 (kOld K11 f18 (naGM 16 rfl (Nat.le_trans Z0 (Nat.le_trans K1.1 Q3_0)) (naS (P := fun w => n0 ≤ w.1) (Nat.le_trans Z0 ge_b1) na0))) na0)
  have sz_0_4 := (Nat.le_trans sz_0_3 K19.1)
  obtain ⟨_, T20, L20, X20, hQ20, st20⟩ := own_virtual X19 hx hZ19 hown19 (w128 hw) (w129 hw) (nfS hZ19 (w131 hw)) (w131 hw) (w130 hw) (w112 hw) (w132 hw) (by decide) (r29_append l Z a0 hw [] b1 c19 b19 (58 : Int32) kb19 i_2 b4_2_3 i_10 k4_2_3 h19 n0 (Nat.le_trans Z0 sz_0_4) f21 Ex19 Fv19 Ar19 sCS Fc19 f22 f23 f24 f25 f26 hp0 (Nat.le_trans Z0 (Nat.le_trans K1.1 Q3_0)) (lt_ne lt_b1 Q3_0) (Nat.le_trans Z0 ge_b1)) e19 f21 (W := 0) (by decide) (g := (mkF m 16 #[vr o0] [(.ref c19), (.ref b1)])) rfl hml.symm (argsL := [(.ref c19)]) (rest := []) (lenOf pd_21 rfl) rfl rfl (own_wr rfl rfl) (hb hby d324)
  obtain ⟨rfl, N20q, K20, Q20_0, Q20_1⟩ := hQ20
  have N20 := Fr.app N11 N20q
  have lt_b4_2_3 : b4_2_3 < T3.heap.size := Arv.lt Q3_3
  have Ck4 := own_chK K20 (naFM 16 rfl (CHr.safe hC19 (Nat.lt_of_lt_of_le lt_b4_2_3 K11.1) (Ck2.2 _ (Ck1.2 _ (Safe.new Q3_0)))) (naF (Safe.exa hZ19.alike f21 (by decide) (by decide)) na0)) Ah4.1
  have Ah5 := Ah4.trans Ck4.1
  have f28 := (kFld K20 (kFld K19 (kFld K11 (kFld K3 (kFld K1 F_o0_id nw0) (nwS (Or.inl (lt_ne lt_o0 ge_b1)) (nwS (Or.inl (lt_ne lt_o0 ge_b1)) nw0))) (nwM 16 rfl (lt_ne (Nat.lt_of_lt_of_le lt_o0 K1.1) Q3_0) (nwS (Or.inl (lt_ne lt_o0 ge_b1)) nw0))) nw0) (nwM 16 rfl (lt_ne (Nat.lt_of_lt_of_le lt_o0 K1.1) Q3_0) (nwS (Or.inl (lt_ne lt_o0 ge_b1)) nw0)))
  obtain ⟨T29, X29, e29, st29⟩ := getF X20 hx hZ19 hown19 (host := "") (Or.inl (w103 hw)) Via.refl rfl f28 (g := (mkF m 20 #[vr o0] [(.ref o0), (.ref b1)])) rfl rfl (hb hby d326)
  have f34 := (kExa K20 f21)
  have f35 := (kExa K20 (kExa K19 (kExa K11 (kExa K3 (kExa K1 E_o_27)))))
  have lt_o_27 : o_27 < h0.size := Exa.lt E_o_27
  have f36 := (kFld K20 (kFld K19 (kFld K11 (kFld K3 (kFld K1 F_o_27_value nw0) (nwS (Or.inl (lt_ne lt_o_27 ge_b1)) (nwS (Or.inl (lt_ne lt_o_27 ge_b1)) nw0))) (nwM 16 rfl (lt_ne (Nat.lt_of_lt_of_le lt_o_27 K1.1) Q3_0) (nwS (Or.inl (lt_ne lt_o_27 ge_b1)) nw0))) nw0) (nwM 16 rfl (lt_ne (Nat.lt_of_lt_of_le lt_o_27 K1.1) Q3_0) (nwS (Or.inl (lt_ne lt_o_27 ge_b1)) nw0)))
  have lt_o_30 : o_30 < h0.size := Arv.lt V_o_30
  have f37 := (kArv K20 (kArv K19 (kArv K11 (kArv K3 (kArv K1 V_o_30 na0) (naN (Ne.symm (lt_ne lt_o_30 ge_b1)) (naN (Ne.symm (lt_ne lt_o_30 ge_b1)) na0))) (naNM 16 rfl (Ne.symm (lt_ne (Nat.lt_of_lt_of_le lt_o_30 K1.1) Q3_0)) (naN (Ne.symm (lt_ne lt_o_30 ge_b1)) na0))) na0) (naNM 16 rfl (Ne.symm (lt_ne (Nat.lt_of_lt_of_le lt_o_30 K1.1) Q3_0)) (naN (Ne.symm (lt_ne lt_o_30 ge_b1)) na0)))
  have f38 := (kFld K20 (kFld K19 (kFld K11 (kFld K3 (kFld K1 F_o_27_coder nw0) (nwS (Or.inl (lt_ne lt_o_27 ge_b1)) (nwS (Or.inl (lt_ne lt_o_27 ge_b1)) nw0))) (nwM 16 rfl (lt_ne (Nat.lt_of_lt_of_le lt_o_27 K1.1) Q3_0) (nwS (Or.inl (lt_ne lt_o_27 ge_b1)) nw0))) nw0) (nwM 16 rfl (lt_ne (Nat.lt_of_lt_of_le lt_o_27 K1.1) Q3_0) (nwS (Or.inl (lt_ne lt_o_27 ge_b1)) nw0)))
  have f39 := (kFld K20 f23 (nwM 16 rfl (lt_ne lt_b1 Q3_0) (nwS (Or.inr (sn_8 hw)) nw0)))
  have f40 := (kFld K20 f25 (nwM 16 rfl (lt_ne lt_b1 Q3_0) (nwS (Or.inr (sn_9 hw)) nw0)))
  have f41 := (kOld K20 f26 (naGM 16 rfl (Nat.le_trans Z0 (Nat.le_trans K1.1 Q3_0)) (naS (P := fun w => n0 ≤ w.1) (Nat.le_trans Z0 ge_b1) na0)))
  have sz_0_5 := (Nat.le_trans sz_0_4 K20.1)
  obtain ⟨_, T33, L33, X33, hQ33, st33⟩ := own_virtual X29 hx hZ19 hown19 (w128 hw) (w129 hw) (nfS hZ19 (w131 hw)) (w131 hw) (w130 hw) (w112 hw) (w132 hw) (by decide) (r65_append l Z a0 hw [] b1 o_27 o_30 i_31 i_32 k_o_30 i_2 b4_2_3 i_10 (58 : Int32) k4_2_3 T20.heap n0 (Nat.le_trans Z0 sz_0_5) f34 f35 f36 f37 sCS f38 Q20_1 f39 Q20_0 f40 f41 hp0 (Nat.le_trans Z0 (Nat.le_trans K1.1 Q3_0)) (lt_ne lt_b1 Q3_0) (Nat.le_trans Z0 ge_b1)) e29 f34 (W := 0) (by decide) (g := (mkF m 23 #[vr o0] [(.ref o_27), (.ref b1)])) rfl hml.symm (argsL := [(.ref o_27)]) (rest := []) (lenOf pd_21 rfl) rfl rfl (own_wr rfl rfl) (hb hby d327)
  obtain ⟨rfl, N33q, K33, Q33_0, Q33_1⟩ := hQ33
  have N33 := Fr.app N20 N33q
  have Ck5 := own_chK K33 (naFM 16 rfl (Ck4.2 _ (CHr.safe hC19 (Nat.lt_of_lt_of_le lt_b4_2_3 K11.1) (Ck2.2 _ (Ck1.2 _ (Safe.new Q3_0))))) (naF (Safe.exa hZ19.alike f34 (by decide) (by decide)) na0)) Ah5.1
  have Ah6 := Ah5.trans Ck5.1
  have f43 := (kExa K33 f34)
  have f44 := (kFld K33 f39 (nwM 16 rfl (lt_ne lt_b1 Q3_0) (nwS (Or.inr (sn_8 hw)) nw0)))
  have f45 := (kFld K33 f40 (nwM 16 rfl (lt_ne lt_b1 Q3_0) (nwS (Or.inr (sn_9 hw)) nw0)))
  have f46 := (kOld K33 f41 (naGM 16 rfl (Nat.le_trans Z0 (Nat.le_trans K1.1 Q3_0)) (naS (P := fun w => n0 ≤ w.1) (Nat.le_trans Z0 ge_b1) na0)))
  have sz_0_6 := (Nat.le_trans sz_0_5 K33.1)
  obtain ⟨_, T42, L42, X42, hQ42, st42⟩ := own_virtual X33 hx hZ19 hown19 (w167 hw) (w168 hw) (nfS hZ19 (w170 hw)) (w170 hw) (w169 hw) (w112 hw) (w171 hw) (by decide) (r71_toString l Z a0 hw [] b1 b4_2_3 i_2 i_10 (58 : Int32) i_31 i_32 k4_2_3 T33.heap n0 (Nat.le_trans Z0 sz_0_6) f43 f44 Q33_1 sCS f45 Q33_0 f46 hp0) rfl f43 (W := 0) (by decide) (g := (mkF m 26 #[vr o0] [(.ref b1)])) rfl hml.symm (argsL := []) (rest := []) (lenOf pd_27 rfl) rfl rfl (own_wr rfl rfl) (hb hby d328)
  obtain ⟨b1_42, b2_5_12_7_8_42, k2_5_12_7_8_42, rfl, N42q, K42, Q42_0, Q42_1, Q42_2, Q42_3, Q42_4, Q42_5, Q42_6⟩ := hQ42
  have N42 := Fr.app N33 N42q
  have Ck6 := own_chK K42 na0 Ah6.1
  have Ah7 := Ah6.trans Ck6.1
  have C0 := (KL.refl h0 []).trans K1 na0
  have C1 := C0.trans K3 (naO (Or.inr ge_b1) (naO (Or.inr ge_b1) na0))
  have C2 := C1.trans K11 (naOM 16 rfl (Nat.le_trans K1.1 Q3_0) (naO (Or.inr ge_b1) na0))
  have C3 := C2.trans K19 na0
  have C4 := C3.trans K20 (naOM 16 rfl (Nat.le_trans K1.1 Q3_0) (naO (Or.inr ge_b1) na0))
  have C5 := C4.trans K33 (naOM 16 rfl (Nat.le_trans K1.1 Q3_0) (naO (Or.inr ge_b1) na0))
  have C6 := C5.trans K42 na0
  have sz_4_6 := (Nat.le_trans K20.1 K33.1)
  have sz_4_7 := (Nat.le_trans sz_4_6 K42.1)
  refine ⟨T42, _, some (.ref b1_42), _, _, X42, hS19, (by rw [show T42.heap = T42.heap from rfl]; exact (Nat.le_trans hk19 sz_4_7)), (fun h => by cases h <;> rfl), ?_, Ah7, hZ19, fun fs hr => ?_⟩
  · show Q_r64_toString Z o0 i_2 o_6 o_9 i_10 k_o_9 o_27 o_30 i_31 i_32 k_o_30 h0 n0 _ T42.heap _
    exact ⟨b1_42, b2_5_12_7_8_42, k2_5_12_7_8_42, rfl, N42, C6, (Nat.le_trans sz_0_6 Q42_0), (Nat.le_trans sz_0_6 Q42_1), Q42_2, Q42_3, Q42_4, Q42_5, Q42_6⟩
  · refine st1 _ ?_
    refine t_dup 4 X1.here hx (hb hby d223) rfl rfl ?_
    refine st3 _ ?_
    refine t_aloadN 8 X3.here hx (hb hby d242) rfl rfl rfl ?_
    refine st8 _ ?_
    refine st11 _ ?_
    refine st19 _ ?_
    refine st20 _ ?_
    refine t_aloadN 20 X20.here hx (hb hby d325) rfl rfl rfl ?_
    refine st29 _ ?_
    refine st33 _ ?_
    refine st42 _ ?_
    jvm_step X42.here [X42.here.top, hx, (hb hby d417), X42.method', hret, Value.isRef, FieldType.isReference]
    first | (intro acts; rw [hr _ acts rfl rfl rfl]) | rw [hr _ _ rfl rfl rfl]
    exact Steps.refl _
def WS_r83_compress (Z : State) (o2 : Addr) : List (Addr × Nat) := [(o2, (0 : Int32).toNatClampNeg), (o2, (1 : Int32).toNatClampNeg), (o2, (2 : Int32).toNatClampNeg), (o2, (3 : Int32).toNatClampNeg)]
def Q_r83_compress (Z : State) (o0 o2 : Addr) (i_1 i_2 i_3 i_4 : Int32) (k_o0 k_o2 : ClassId) (h0 : Heap) (n0 : Nat) (v : Option Value) (h : Heap) (L : List Loc) : Prop := v = some (.int 4) ∧ Fr n0 L ∧ KL h0 h (WS_r83_compress Z o2) ∧ Arv Z h o2 k_o2 .byte 4 [(.int (i_1.toInt8.toInt32)), (.int (i_2.toInt8.toInt32)), (.int (i_3.toInt8.toInt32)), (.int (i_4.toInt8.toInt32))] z0
theorem ef_r83_compress (o0 o2 : Addr) (m : MethodId) : entryFrame m #[(.ref o0), (.int 0), (.ref o2), (.int 0), (.int 4)] 7 = mkF m 0 #[.val (.ref o0), .val (.int 0), .val (.ref o2), .val (.int 0), .val (.int 4), .unset, .unset] [] := by first | (simp [entryFrame, mkF, argsToLocals, Value.category]; done) | rfl
set_option maxRecDepth 65536 in
set_option maxHeartbeats 40000000 in
theorem r83_compress (l : Launch) (Z : State) (a0 : Array Value) (hw : HW Z a0) (ws : List Jvm.Cond) (o0 o2 : Addr) (i_1 i_2 i_3 i_4 : Int32) (k_o0 k_o2 : ClassId) (h0 : Heap) (n0 : Nat) (Z0 : n0 ≤ h0.size) (V_o0 : Arv Z h0 o0 k_o0 .char 4 [(.int i_1), (.int i_2), (.int i_3), (.int i_4)] z0) (hp0 : ¬ ((255 : Int32) < i_1)) (V_o2 : Arv Z h0 o2 k_o2 .byte 4 [z0, z0, z0, z0] z0) (g_o2 : n0 ≤ o2) (ne_o0_o2 : o0 ≠ o2) (hp1 : ¬ ((255 : Int32) < i_2)) (hp2 : ¬ ((255 : Int32) < i_3)) (hp3 : ¬ ((255 : Int32) < i_4)) :
    MF l Z y1_compress b4_ 7 (some .int) ws ⟨0, 0, 0, 0⟩ #[(.ref o0), z0, (.ref o2), z0, (.int 4)] h0 (Q_r83_compress Z o0 o2 i_1 i_2 i_3 i_4 k_o0 k_o2 h0 n0) := by
  refine own_body (plainFor_of_name pn_StringUTF16906) (ef_r83_compress o0 o2) (by decide) (by decide) ?_
  intro p e s m below meth c s₁ hx hby hml hown hnm hret hZ hh e0 X0
  have N0 := Fr.nil n0
  obtain ⟨T5, h5, X5, e5, W5, V5, st5⟩ := own_astB X0 hx hZ e0 V_o2 (j := 0) (by decide) 0 rfl (Nat.le_of_ble_eq_true rfl) (g := (mkF m 31 #[vr o0, vi 0, vr o2, vi 0, vi 4, vi 0, vi i_1] [(.int (i_1.toInt8.toInt32)), z0, (.ref o2)])) rfl rfl (hb hby d54)
  rw [show (nar .byte (i_1.toInt8.toInt32)) = (i_1.toInt8.toInt32) from (own_narb _)] at V5
  have K5 := KL.ofW W5
  replace V5 : Arv Z h5 o2 k_o2 .byte 4 [(.int (i_1.toInt8.toInt32)), z0, z0, z0] z0 := V5
  have N5 := Fr.snoc X5 N0 g_o2
  have f6 := (kArv K5 V_o0 (naN (Ne.symm ne_o0_o2) na0))
  obtain ⟨T7, h7, X7, e7, W7, V7, st7⟩ := own_astB X5 hx hZ e5 V5 (j := 1) (by decide) 1 rfl (Nat.le_of_ble_eq_true rfl) (g := (mkF m 31 #[vr o0, vi 1, vr o2, vi 1, vi 4, vi 1, vi i_2] [(.int (i_2.toInt8.toInt32)), (.int 1), (.ref o2)])) rfl rfl (hb hby d54)
  rw [show (nar .byte (i_2.toInt8.toInt32)) = (i_2.toInt8.toInt32) from (own_narb _)] at V7
  have K7 := KL.ofW W7
  replace V7 : Arv Z h7 o2 k_o2 .byte 4 [(.int (i_1.toInt8.toInt32)), (.int (i_2.toInt8.toInt32)), z0, z0] z0 := V7
  have N7 := Fr.snoc X7 N5 g_o2
  have f8 := (kArv K7 f6 (naN (Ne.symm ne_o0_o2) na0))
  obtain ⟨T9, h9, X9, e9, W9, V9, st9⟩ := own_astB X7 hx hZ e7 V7 (j := 2) (by decide) 2 rfl (Nat.le_of_ble_eq_true rfl) (g := (mkF m 31 #[vr o0, vi 2, vr o2, vi 2, vi 4, vi 2, vi i_3] [(.int (i_3.toInt8.toInt32)), (.int 2), (.ref o2)])) rfl rfl (hb hby d54)
  rw [show (nar .byte (i_3.toInt8.toInt32)) = (i_3.toInt8.toInt32) from (own_narb _)] at V9
  have K9 := KL.ofW W9
  replace V9 : Arv Z h9 o2 k_o2 .byte 4 [(.int (i_1.toInt8.toInt32)), (.int (i_2.toInt8.toInt32)), (.int (i_3.toInt8.toInt32)), z0] z0 := V9
  have N9 := Fr.snoc X9 N7 g_o2
  have f10 := (kArv K9 f8 (naN (Ne.symm ne_o0_o2) na0))
  obtain ⟨T11, h11, X11, e11, W11, V11, st11⟩ := own_astB X9 hx hZ e9 V9 (j := 3) (by decide) 3 rfl (Nat.le_of_ble_eq_true rfl) (g := (mkF m 31 #[vr o0, vi 3, vr o2, vi 3, vi 4, vi 3, vi i_4] [(.int (i_4.toInt8.toInt32)), (.int 3), (.ref o2)])) rfl rfl (hb hby d54)
  rw [show (nar .byte (i_4.toInt8.toInt32)) = (i_4.toInt8.toInt32) from (own_narb _)] at V11
  have K11 := KL.ofW W11
  replace V11 : Arv Z h11 o2 k_o2 .byte 4 [(.int (i_1.toInt8.toInt32)), (.int (i_2.toInt8.toInt32)), (.int (i_3.toInt8.toInt32)), (.int (i_4.toInt8.toInt32))] z0 := V11
  have N11 := Fr.snoc X11 N9 g_o2
  have C0 := (KL.refl h0 (WS_r83_compress Z o2)).trans K5 (naO (own_mi 0 rfl) na0)
  have C1 := C0.trans K7 (naO (own_mi 1 rfl) na0)
  have C2 := C1.trans K9 (naO (own_mi 2 rfl) na0)
  have C3 := C2.trans K11 (naO (own_mi 3 rfl) na0)
  refine ⟨T11, _, some (.int 4), X11, (fun h => by cases h <;> rfl), ?_, fun fs hr => ?_⟩
  · show Q_r83_compress Z o0 o2 i_1 i_2 i_3 i_4 k_o0 k_o2 h0 n0 _ T11.heap _
    rw [e11]
    exact ⟨rfl, N11, C3, V11⟩
  · refine t_iconst 1 (r := 0) X0.here hx (hb hby d38) (by decide) rfl ?_
    refine t_istore (pc' := 3) (L' := #[vr o0, vi 0, vr o2, vi 0, vi 4, vi 0, .unset]) X0.here hx (hb hby d39) rfl rfl ?_
    refine t_iload 5 X0.here hx (hb hby d40) rfl rfl ?_
    refine t_iload 7 X0.here hx (hb hby d41) rfl rfl ?_
    refine t_icmpNo 10 X0.here hx (hb hby d42) (by decide) rfl ?_
    refine t_aloadN 11 X0.here hx (hb hby d43) rfl rfl rfl ?_
    refine t_iloadN 12 X0.here hx (hb hby d44) rfl rfl ?_
    refine own_aldC (pc' := 13) X0 hx hZ e0 V_o0 (j := 0) (v := (.int i_1)) (by decide) rfl (hb hby d45) rfl ?_
    refine t_istore (pc' := 15) (L' := #[vr o0, vi 0, vr o2, vi 0, vi 4, vi 0, vi i_1]) X0.here hx (hb hby d46) rfl rfl ?_
    refine t_iload 17 X0.here hx (hb hby d47) rfl rfl ?_
    refine t_sipush 20 (r := 255) X0.here hx (hb hby d48) (by decide) rfl ?_
    refine t_icmpYes (pc := 20) 26 X0.here hx (hb hby d49) (flt hp0).2.2.2 (by decide) (by decide) ?_
    refine t_aloadN 27 X0.here hx (hb hby d50) rfl rfl rfl ?_
    refine t_iloadN 28 X0.here hx (hb hby d51) rfl rfl ?_
    refine t_iload 30 X0.here hx (hb hby d52) rfl rfl ?_
    refine t_i2b 31 X0.here hx (hb hby d53) rfl rfl ?_
    refine st5 _ ?_
    refine t_iinc (pc' := 35) (L' := #[vr o0, vi 1, vr o2, vi 0, vi 4, vi 0, vi i_1]) X5.here hx (hb hby d55) rfl (by first | rfl | decide) rfl ?_
    refine t_iinc (pc' := 38) (L' := #[vr o0, vi 1, vr o2, vi 1, vi 4, vi 0, vi i_1]) X5.here hx (hb hby d56) rfl (by first | rfl | decide) rfl ?_
    refine t_iinc (pc' := 41) (L' := #[vr o0, vi 1, vr o2, vi 1, vi 4, vi 1, vi i_1]) X5.here hx (hb hby d57) rfl (by first | rfl | decide) rfl ?_
    refine t_goto (pc := 41) 3 X5.here hx (hb hby d58) (by decide) (by decide) ?_
    refine t_iload 5 X5.here hx (hb hby d40) rfl rfl ?_
    refine t_iload 7 X5.here hx (hb hby d41) rfl rfl ?_
    refine t_icmpNo 10 X5.here hx (hb hby d42) (by decide) rfl ?_
    refine t_aloadN 11 X5.here hx (hb hby d43) rfl rfl rfl ?_
    refine t_iloadN 12 X5.here hx (hb hby d44) rfl rfl ?_
    refine own_aldC (pc' := 13) X5 hx hZ e5 f6 (j := 1) (v := (.int i_2)) (by decide) rfl (hb hby d45) rfl ?_
    refine t_istore (pc' := 15) (L' := #[vr o0, vi 1, vr o2, vi 1, vi 4, vi 1, vi i_2]) X5.here hx (hb hby d46) rfl rfl ?_
    refine t_iload 17 X5.here hx (hb hby d47) rfl rfl ?_
    refine t_sipush 20 (r := 255) X5.here hx (hb hby d48) (by decide) rfl ?_
    refine t_icmpYes (pc := 20) 26 X5.here hx (hb hby d49) (flt hp1).2.2.2 (by decide) (by decide) ?_
    refine t_aloadN 27 X5.here hx (hb hby d50) rfl rfl rfl ?_
    refine t_iloadN 28 X5.here hx (hb hby d51) rfl rfl ?_
    refine t_iload 30 X5.here hx (hb hby d52) rfl rfl ?_
    refine t_i2b 31 X5.here hx (hb hby d53) rfl rfl ?_
    refine st7 _ ?_
    refine t_iinc (pc' := 35) (L' := #[vr o0, vi 2, vr o2, vi 1, vi 4, vi 1, vi i_2]) X7.here hx (hb hby d55) rfl (by first | rfl | decide) rfl ?_
    refine t_iinc (pc' := 38) (L' := #[vr o0, vi 2, vr o2, vi 2, vi 4, vi 1, vi i_2]) X7.here hx (hb hby d56) rfl (by first | rfl | decide) rfl ?_
    refine t_iinc (pc' := 41) (L' := #[vr o0, vi 2, vr o2, vi 2, vi 4, vi 2, vi i_2]) X7.here hx (hb hby d57) rfl (by first | rfl | decide) rfl ?_
    refine t_goto (pc := 41) 3 X7.here hx (hb hby d58) (by decide) (by decide) ?_
    refine t_iload 5 X7.here hx (hb hby d40) rfl rfl ?_
    refine t_iload 7 X7.here hx (hb hby d41) rfl rfl ?_
    refine t_icmpNo 10 X7.here hx (hb hby d42) (by decide) rfl ?_
    refine t_aloadN 11 X7.here hx (hb hby d43) rfl rfl rfl ?_
    refine t_iloadN 12 X7.here hx (hb hby d44) rfl rfl ?_
    refine own_aldC (pc' := 13) X7 hx hZ e7 f8 (j := 2) (v := (.int i_3)) (by decide) rfl (hb hby d45) rfl ?_
    refine t_istore (pc' := 15) (L' := #[vr o0, vi 2, vr o2, vi 2, vi 4, vi 2, vi i_3]) X7.here hx (hb hby d46) rfl rfl ?_
    refine t_iload 17 X7.here hx (hb hby d47) rfl rfl ?_
    refine t_sipush 20 (r := 255) X7.here hx (hb hby d48) (by decide) rfl ?_
    refine t_icmpYes (pc := 20) 26 X7.here hx (hb hby d49) (flt hp2).2.2.2 (by decide) (by decide) ?_
    refine t_aloadN 27 X7.here hx (hb hby d50) rfl rfl rfl ?_
    refine t_iloadN 28 X7.here hx (hb hby d51) rfl rfl ?_
    refine t_iload 30 X7.here hx (hb hby d52) rfl rfl ?_
    refine t_i2b 31 X7.here hx (hb hby d53) rfl rfl ?_
    refine st9 _ ?_
    refine t_iinc (pc' := 35) (L' := #[vr o0, vi 3, vr o2, vi 2, vi 4, vi 2, vi i_3]) X9.here hx (hb hby d55) rfl (by first | rfl | decide) rfl ?_
    refine t_iinc (pc' := 38) (L' := #[vr o0, vi 3, vr o2, vi 3, vi 4, vi 2, vi i_3]) X9.here hx (hb hby d56) rfl (by first | rfl | decide) rfl ?_
    refine t_iinc (pc' := 41) (L' := #[vr o0, vi 3, vr o2, vi 3, vi 4, vi 3, vi i_3]) X9.here hx (hb hby d57) rfl (by first | rfl | decide) rfl ?_
    refine t_goto (pc := 41) 3 X9.here hx (hb hby d58) (by decide) (by decide) ?_
    refine t_iload 5 X9.here hx (hb hby d40) rfl rfl ?_
    refine t_iload 7 X9.here hx (hb hby d41) rfl rfl ?_
    refine t_icmpNo 10 X9.here hx (hb hby d42) (by decide) rfl ?_
    refine t_aloadN 11 X9.here hx (hb hby d43) rfl rfl rfl ?_
    refine t_iloadN 12 X9.here hx (hb hby d44) rfl rfl ?_
    refine own_aldC (pc' := 13) X9 hx hZ e9 f10 (j := 3) (v := (.int i_4)) (by decide) rfl (hb hby d45) rfl ?_
    refine t_istore (pc' := 15) (L' := #[vr o0, vi 3, vr o2, vi 3, vi 4, vi 3, vi i_4]) X9.here hx (hb hby d46) rfl rfl ?_
    refine t_iload 17 X9.here hx (hb hby d47) rfl rfl ?_
    refine t_sipush 20 (r := 255) X9.here hx (hb hby d48) (by decide) rfl ?_
    refine t_icmpYes (pc := 20) 26 X9.here hx (hb hby d49) (flt hp3).2.2.2 (by decide) (by decide) ?_
    refine t_aloadN 27 X9.here hx (hb hby d50) rfl rfl rfl ?_
    refine t_iloadN 28 X9.here hx (hb hby d51) rfl rfl ?_
    refine t_iload 30 X9.here hx (hb hby d52) rfl rfl ?_
    refine t_i2b 31 X9.here hx (hb hby d53) rfl rfl ?_
    refine st11 _ ?_
    refine t_iinc (pc' := 35) (L' := #[vr o0, vi 4, vr o2, vi 3, vi 4, vi 3, vi i_4]) X11.here hx (hb hby d55) rfl (by first | rfl | decide) rfl ?_
    refine t_iinc (pc' := 38) (L' := #[vr o0, vi 4, vr o2, vi 4, vi 4, vi 3, vi i_4]) X11.here hx (hb hby d56) rfl (by first | rfl | decide) rfl ?_
    refine t_iinc (pc' := 41) (L' := #[vr o0, vi 4, vr o2, vi 4, vi 4, vi 4, vi i_4]) X11.here hx (hb hby d57) rfl (by first | rfl | decide) rfl ?_
    refine t_goto (pc := 41) 3 X11.here hx (hb hby d58) (by decide) (by decide) ?_
    refine t_iload 5 X11.here hx (hb hby d40) rfl rfl ?_
    refine t_iload 7 X11.here hx (hb hby d41) rfl rfl ?_
    refine t_icmpYes (pc := 7) 44 X11.here hx (hb hby d42) (by decide) (by decide) (by decide) ?_
    refine t_iload 46 X11.here hx (hb hby d59) rfl rfl ?_
    exact retI X11 hx hret (hb hby d60) hr
def Q_r82_compress (Z : State) (o0 : Addr) (i_2 i_3 i_4 i_5 : Int32) (k_o0 : ClassId) (h0 : Heap) (n0 : Nat) (v : Option Value) (h : Heap) (L : List Loc) : Prop := ∃ b1 : Addr, ∃ k1 : ClassId, v = some (.ref b1) ∧ Fr n0 L ∧ KL h0 h [] ∧ h0.size ≤ b1 ∧ Arv Z h b1 k1 .byte 4 [(.int (i_2.toInt8.toInt32)), (.int (i_3.toInt8.toInt32)), (.int (i_4.toInt8.toInt32)), (.int (i_5.toInt8.toInt32))] z0
theorem ef_r82_compress (o0 : Addr) (m : MethodId) : entryFrame m #[(.ref o0), (.int 0), (.int 4)] 6 = mkF m 0 #[.val (.ref o0), .val (.int 0), .val (.int 4), .unset, .unset, .unset] [] := by first | (simp [entryFrame, mkF, argsToLocals, Value.category]; done) | rfl
set_option maxRecDepth 65536 in
set_option maxHeartbeats 40000000 in
theorem r82_compress (l : Launch) (Z : State) (a0 : Array Value) (hw : HW Z a0) (ws : List Jvm.Cond) (o0 : Addr) (i_2 i_3 i_4 i_5 : Int32) (k_o0 : ClassId) (h0 : Heap) (n0 : Nat) (Z0 : n0 ≤ h0.size) (V_o0 : Arv Z h0 o0 k_o0 .char 4 [(.int i_2), (.int i_3), (.int i_4), (.int i_5)] z0) (hp0 : ¬ ((255 : Int32) < i_2)) (hp1 : ¬ ((255 : Int32) < i_3)) (hp2 : ¬ ((255 : Int32) < i_4)) (hp3 : ¬ ((255 : Int32) < i_5)) :
    MF l Z y2_compress b3_ 6 (some (.array .byte)) ws ⟨1, 1, 4, 18⟩ #[(.ref o0), z0, (.int 4)] h0 (Q_r82_compress Z o0 i_2 i_3 i_4 i_5 k_o0 h0 n0) := by
  refine own_body (plainFor_of_name pn_StringUTF16906) (ef_r82_compress o0) (by decide) (by decide) ?_
  intro p e s m below meth c s₁ hx hby hml hown hnm hret hZ hh e0 X0
  have N0 := Fr.nil n0
  obtain ⟨T1, h1, k1, X1, e1, E1, A1, st1⟩ := newP (aty := .byte) X0 hx hZ (w23 hw) e0 (g := (mkF m 1 #[vr o0, vi 0, vi 4, .unset, .unset, .unset] [(.int 4)])) rfl (hb hby d30) rfl (by decide) (cap := 4) (by decide) (by decide) (by decide) (by decide)
  obtain ⟨b1, g1⟩ : ∃ z, z = h0.size := ⟨_, rfl⟩
  rw [← g1] at A1 st1
  have ge_b1 : h0.size ≤ b1 := Nat.le_of_eq g1.symm
  have K1 := KL.ofE E1
  have V1 : Arv Z h1 b1 k1 .byte 4 [z0, z0, z0, z0] z0 := (Arv.new A1 (by decide)).pad (pad_rep [] z0 4)
  have f7 := (kArv K1 V_o0 na0)
  have lt_o0 : o0 < h0.size := Arv.lt V_o0
  obtain ⟨_, T6, L6, X6, hQ6, st6⟩ := own_static X1 hx hZ hown (w24 hw) (w25 hw) (w21 hw) (w26 hw) (by decide) (r83_compress l Z a0 hw [] o0 b1 i_2 i_3 i_4 i_5 k_o0 k1 h1 n0 (Nat.le_trans Z0 K1.1) f7 hp0 V1 (Nat.le_trans Z0 ge_b1) (lt_ne lt_o0 ge_b1) hp1 hp2 hp3) e1 (W := 0) (by decide) (g := (mkF m 9 #[vr o0, vi 0, vi 4, vr b1, .unset, .unset] [(.int 4), z0, (.ref b1), z0, (.ref o0)])) rfl hml.symm (argsL := [(.ref o0), z0, (.ref b1), z0, (.int 4)]) (rest := []) (lenOf pd_1 rfl) rfl rfl (own_wr rfl rfl) (hb hby d37)
  obtain ⟨rfl, N6q, K6, Q6_0⟩ := hQ6
  have N6 := Fr.app N0 N6q
  have C0 := (KL.refl h0 []).trans K1 na0
  have C1 := C0.trans K6 (naOM 4 rfl ge_b1 na0)
  refine ⟨T6, _, some (.ref b1), X6, (fun h => by cases h <;> rfl), ?_, fun fs hr => ?_⟩
  · show Q_r82_compress Z o0 i_2 i_3 i_4 i_5 k_o0 h0 n0 _ T6.heap _
    exact ⟨b1, k1, rfl, N6, C1, ge_b1, Q6_0⟩
  · refine t_iloadN 1 X0.here hx (hb hby d29) rfl rfl ?_
    refine st1 _ ?_
    refine t_astoreN (pc' := 4) (L' := #[vr o0, vi 0, vi 4, vr b1, .unset, .unset]) X1.here hx (hb hby d31) rfl rfl rfl ?_
    refine t_aloadN 5 X1.here hx (hb hby d32) rfl rfl rfl ?_
    refine t_iloadN 6 X1.here hx (hb hby d33) rfl rfl ?_
    refine t_aloadN 7 X1.here hx (hb hby d34) rfl rfl rfl ?_
    refine t_iconst 8 (r := 0) X1.here hx (hb hby d35) (by decide) rfl ?_
    refine t_iloadN 9 X1.here hx (hb hby d36) rfl rfl ?_
    refine st6 _ ?_
    refine t_istore (pc' := 14) (L' := #[vr o0, vi 0, vi 4, vr b1, vi 4, .unset]) X6.here hx (hb hby d61) rfl rfl ?_
    refine t_iload 16 X6.here hx (hb hby d62) rfl rfl ?_
    refine t_iloadN 17 X6.here hx (hb hby d63) rfl rfl ?_
    refine t_icmpYes (pc := 17) 57 X6.here hx (hb hby d64) (by decide) (by decide) (by decide) ?_
    refine t_aloadN 58 X6.here hx (hb hby d65) rfl rfl rfl ?_
    jvm_step X6.here [X6.here.top, hx, (hb hby d66), X6.method', hret, Value.isRef, FieldType.isReference]
    first | (intro acts; rw [hr _ acts rfl rfl rfl]) | rw [hr _ _ rfl rfl rfl]
    exact Steps.refl _
def Q_r84_coderFromArrayLen (Z : State) (o0 : Addr) (i_1 i_2 i_3 i_4 : Int32) (k_o0 : ClassId) (h0 : Heap) (n0 : Nat) (v : Option Value) (h : Heap) (L : List Loc) : Prop := v = some z0 ∧ Fr n0 L ∧ h = h0
theorem ef_r84_coderFromArrayLen (o0 : Addr) (m : MethodId) : entryFrame m #[(.ref o0), (.int 4)] 2 = mkF m 0 #[.val (.ref o0), .val (.int 4)] [] := by first | (simp [entryFrame, mkF, argsToLocals, Value.category]; done) | rfl
set_option maxRecDepth 65536 in
set_option maxHeartbeats 40000000 in
theorem r84_coderFromArrayLen (l : Launch) (Z : State) (a0 : Array Value) (hw : HW Z a0) (ws : List Jvm.Cond) (o0 : Addr) (i_1 i_2 i_3 i_4 : Int32) (k_o0 : ClassId) (h0 : Heap) (n0 : Nat) (Z0 : n0 ≤ h0.size) (V_o0 : Arv Z h0 o0 k_o0 .byte 4 [(.int i_1), (.int i_2), (.int i_3), (.int i_4)] z0) :
    MF l Z y3_coderFromArrayLen b5_ 2 (some .byte) ws ⟨0, 0, 0, 0⟩ #[(.ref o0), (.int 4)] h0 (Q_r84_coderFromArrayLen Z o0 i_1 i_2 i_3 i_4 k_o0 h0 n0) := by
  refine own_body (plainFor_of_name pn_StringUTF16906) (ef_r84_coderFromArrayLen o0) (by decide) (by decide) ?_
  intro p e s m below meth c s₁ hx hby hml hown hnm hret hZ hh e0 X0
  have N0 := Fr.nil n0
  refine ⟨s₁, _, some z0, X0, (fun h => by cases h <;> rfl), ?_, fun fs hr => ?_⟩
  · show Q_r84_coderFromArrayLen Z o0 i_1 i_2 i_3 i_4 k_o0 h0 n0 _ s₁.heap _
    rw [e0]
    exact ⟨rfl, N0, rfl⟩
  · refine t_iloadN 1 X0.here hx (hb hby d72) rfl rfl ?_
    refine t_aloadN 2 X0.here hx (hb hby d73) rfl rfl rfl ?_
    refine own_arlen (pc' := 3) X0 hx hZ e0 V_o0 (hb hby d74) rfl ?_
    refine t_isub 4 (r := 0) X0.here hx (hb hby d75) (by decide : ((4 : Int32) - (4 : Int32)) = (0 : Int32)) rfl ?_
    refine t_bipush 6 (r := 31) X0.here hx (hb hby d76) (by decide) rfl ?_
    refine t_iushr 7 (r := 0) X0.here hx (hb hby d77) (by decide : (((0 : Int32).toUInt32 >>> ((31 : Int32) &&& 31).toUInt32).toInt32) = (0 : Int32)) rfl ?_
    refine t_i2b 8 (r := 0) X0.here hx (hb hby d78) (by decide : ((0 : Int32).toInt8.toInt32) = (0 : Int32)) rfl ?_
    exact retN X0 hx (t := .byte) hret (by simp) (hb hby d79) hr
def WS_r81__init_ (Z : State) (o0 : Addr) : List (Addr × Nat) := [(o0, (sl0 Z)), (o0, (sl1 Z))]
def Q_r81__init_ (Z : State) (o0 o1 : Addr) (i_2 i_4 i_5 i_6 i_7 : Int32) (k_o1 : ClassId) (h0 : Heap) (n0 : Nat) (v : Option Value) (h : Heap) (L : List Loc) : Prop := ∃ b1_8 : Addr, ∃ k1_8 : ClassId, v = none ∧ Fr n0 L ∧ KL h0 h (WS_r81__init_ Z o0) ∧ h0.size ≤ b1_8 ∧ Fd0 Z h o0 z0 ∧ Fd1 Z h o0 (.ref b1_8) ∧ Arv Z h b1_8 k1_8 .byte 4 [(.int (i_4.toInt8.toInt32)), (.int (i_5.toInt8.toInt32)), (.int (i_6.toInt8.toInt32)), (.int (i_7.toInt8.toInt32))] z0
theorem ef_r81__init_ (o0 o1 : Addr) (m : MethodId) : entryFrame m #[(.ref o0), (.ref o1), (.int 0), (.int 4), .null] 6 = mkF m 0 #[.val (.ref o0), .val (.ref o1), .val (.int 0), .val (.int 4), .val .null, .unset] [] := by first | (simp [entryFrame, mkF, argsToLocals, Value.category]; done) | rfl
set_option maxRecDepth 65536 in
set_option maxHeartbeats 40000000 in
theorem r81__init_ (l : Launch) (Z : State) (a0 : Array Value) (hw : HW Z a0) (ws : List Jvm.Cond) (o0 o1 : Addr) (i_2 i_4 i_5 i_6 i_7 : Int32) (k_o1 : ClassId) (h0 : Heap) (n0 : Nat) (Z0 : n0 ≤ h0.size) (sCS : SCS Z i_2) (O0 : Old Z n0 h0) (hp0 : ¬ (i_2 = (0 : Int32))) (V_o1 : Arv Z h0 o1 k_o1 .char 4 [(.int i_4), (.int i_5), (.int i_6), (.int i_7)] z0) (hp1 : ¬ ((255 : Int32) < i_4)) (hp2 : ¬ ((255 : Int32) < i_5)) (hp3 : ¬ ((255 : Int32) < i_6)) (hp4 : ¬ ((255 : Int32) < i_7)) (F_o0_coder : Fd0 Z h0 o0 z0) (E_o0 : Ex0 Z h0 o0) (g_o0 : n0 ≤ o0) (F_o0_value : Fd1 Z h0 o0 .null) :
    MF l Z y4__init_ b2_ 6 none ws ⟨2, 1, 4, 35⟩ #[(.ref o0), (.ref o1), z0, (.int 4), .null] h0 (Q_r81__init_ Z o0 o1 i_2 i_4 i_5 i_6 i_7 k_o1 h0 n0) := by
  refine own_body (plainFor_of_name pn_String564) (ef_r81__init_ o0 o1) (by decide) (by decide) ?_
  intro p e s m below meth c s₁ hx hby hml hown hnm hret hZ hh e0 X0
  have N0 := Fr.nil n0
  obtain ⟨T1, X1, e1, st1⟩ := initO X0 hx hZ hown (w15 hw) (w16 hw) (w17 hw) e0 (g := (mkF m 1 #[vr o0, vr o1, vi 0, vi 4, .val .null, .unset] [(.ref o0)])) rfl hml.symm rfl (hb hby d20) (by decide) (W := 0) (own_wr rfl rfl) (by decide)
  obtain ⟨T3, X3, e3, st3⟩ := getS2 X1 hx hZ hown (host := "") (Or.inl (w18 hw)) Via.refl e1 (Sta.ext O0.2 sCS) (g := (mkF m 27 #[vr o0, vr o1, vi 0, vi 4, .val .null, .unset] [])) rfl (hb hby d23)
  obtain ⟨_, T8, L8, X8, hQ8, st8⟩ := own_static X3 hx hZ hown (w19 hw) (w20 hw) (w21 hw) (w22 hw) (by decide) (r82_compress l Z a0 hw [] o1 i_4 i_5 i_6 i_7 k_o1 h0 n0 Z0 V_o1 hp1 hp2 hp3 hp4) e3 (W := 0) (by decide) (g := (mkF m 36 #[vr o0, vr o1, vi 0, vi 4, .val .null, .unset] [(.int 4), z0, (.ref o1)])) rfl hml.symm (argsL := [(.ref o1), z0, (.int 4)]) (rest := []) (lenOf pd_2 rfl) rfl rfl (own_wr rfl rfl) (hb hby d28)
  obtain ⟨b1_8, k1_8, rfl, N8q, K8, Q8_0, Q8_1⟩ := hQ8
  have N8 := Fr.app N0 N8q
  obtain ⟨_, T10, L10, X10, hQ10, st10⟩ := own_static X8 hx hZ hown (w27 hw) (w28 hw) (w21 hw) (w29 hw) (by decide) (r84_coderFromArrayLen l Z a0 hw [] b1_8 (i_4.toInt8.toInt32) (i_5.toInt8.toInt32) (i_6.toInt8.toInt32) (i_7.toInt8.toInt32) k1_8 T8.heap n0 (Nat.le_trans Z0 K8.1) Q8_1) rfl (W := 1) (by decide) (g := (mkF m 45 #[vr o0, vr o1, vi 0, vi 4, .val .null, vr b1_8] [(.int 4), (.ref b1_8), (.ref o0)])) rfl hml.symm (argsL := [(.ref b1_8), (.int 4)]) (rest := [(.ref o0)]) (lenOf pd_3 rfl) rfl rfl (own_wr rfl rfl) (hb hby d71)
  obtain ⟨rfl, N10q, e10⟩ := hQ10
  have N10 := Fr.app N8 N10q
  have f11 := (kFld K8 F_o0_coder nw0)
  have f12 := (kExa K8 E_o0)
  obtain ⟨T13, h13, X13, e13, W13, st13⟩ := putF X10 hx hZ hown (host := "") (Or.inl (w30 hw)) Via.refl e10 f11 f12 (Or.inr ⟨(w31 hw), rfl, hnm⟩) (w5 hw) (ty := .byte) (by decide) (by decide) (by decide) (g := (mkF m 48 #[vr o0, vr o1, vi 0, vi 4, .val .null, vr b1_8] [z0, (.ref o0)])) rfl rfl (hb hby d80)
  have K13 := KL.ofW W13
  have Fw13 : Fd0 Z h13 o0 z0 := Fld.same W13 f11
  have N13 := Fr.snoc X13 N10 g_o0
  have f14 := (kFld K13 (kFld K8 F_o0_value nw0) (nwS (Or.inr (sn_0 hw)) nw0))
  have f15 := (kExa K13 f12)
  obtain ⟨T16, h16, X16, e16, W16, st16⟩ := putF X13 hx hZ hown (host := "") (Or.inl (w32 hw)) Via.refl e13 f14 f15 (Or.inr ⟨(w33 hw), rfl, hnm⟩) (w5 hw) (ty := (.array .byte)) (by decide) rfl rfl (g := (mkF m 54 #[vr o0, vr o1, vi 0, vi 4, .val .null, vr b1_8] [(.ref b1_8), (.ref o0)])) rfl rfl (hb hby d83)
  have K16 := KL.ofW W16
  have Fw16 : Fd1 Z h16 o0 (.ref b1_8) := Fld.same W16 f14
  have N16 := Fr.snoc X16 N13 g_o0
  have C0 := (KL.refl h0 (WS_r81__init_ Z o0)).trans K8 na0
  have C1 := C0.trans K13 (naO (own_mi 0 rfl) na0)
  have C2 := C1.trans K16 (naO (own_mi 1 rfl) na0)
  have f17 := (kFld K16 Fw13 (nwS (Or.inr (sn_1 hw)) nw0))
  have lt_o0 : o0 < h0.size := Fld.lt F_o0_coder
  have f18 := (kArv K16 (kArv K13 Q8_1 (naN (lt_ne lt_o0 Q8_0) na0)) (naN (lt_ne lt_o0 Q8_0) na0))
  refine ⟨T16, _, none, X16, (fun h => by cases h <;> rfl), ?_, fun fs hr => ?_⟩
  · show Q_r81__init_ Z o0 o1 i_2 i_4 i_5 i_6 i_7 k_o1 h0 n0 _ T16.heap _
    rw [e16]
    exact ⟨b1_8, k1_8, rfl, N16, C2, Q8_0, f17, Fw16, f18⟩
  · refine t_aloadN 1 X0.here hx (hb hby d19) rfl rfl rfl ?_
    refine st1 _ ?_
    refine t_iloadN 5 X1.here hx (hb hby d21) rfl rfl ?_
    refine t_ifYes (pc := 5) 27 X1.here hx (hb hby d22) (by decide) (by decide) (by decide) ?_
    refine st3 _ ?_
    refine t_ifNo 33 X3.here hx (hb hby d24) ((if0 _ _).trans (feq hp0).1) rfl ?_
    refine t_aloadN 34 X3.here hx (hb hby d25) rfl rfl rfl ?_
    refine t_iloadN 35 X3.here hx (hb hby d26) rfl rfl ?_
    refine t_iloadN 36 X3.here hx (hb hby d27) rfl rfl ?_
    refine st8 _ ?_
    refine t_astore (pc' := 41) (L' := #[vr o0, vr o1, vi 0, vi 4, .val .null, vr b1_8]) X8.here hx (hb hby d67) rfl rfl rfl ?_
    refine t_aloadN 42 X8.here hx (hb hby d68) rfl rfl rfl ?_
    refine t_aload 44 X8.here hx (hb hby d69) rfl rfl rfl ?_
    refine t_iloadN 45 X8.here hx (hb hby d70) rfl rfl ?_
    refine st10 _ ?_
    refine st13 _ ?_
    refine t_aloadN 52 X13.here hx (hb hby d81) rfl rfl rfl ?_
    refine t_aload 54 X13.here hx (hb hby d82) rfl rfl rfl ?_
    refine st16 _ ?_
    exact X16.returnOut hx hret (hb hby d84) hr
def WS_r80__init_ (Z : State) (o0 : Addr) : List (Addr × Nat) := [(o0, (sl0 Z)), (o0, (sl1 Z))]
def Q_r80__init_ (Z : State) (o0 o1 : Addr) (i_1 i_2 i_3 i_4 : Int32) (k_o1 : ClassId) (i_5 : Int32) (h0 : Heap) (n0 : Nat) (v : Option Value) (h : Heap) (L : List Loc) : Prop := ∃ b1_8_6 : Addr, ∃ k1_8_6 : ClassId, v = none ∧ Fr n0 L ∧ KL h0 h (WS_r80__init_ Z o0) ∧ h0.size ≤ b1_8_6 ∧ Fd0 Z h o0 z0 ∧ Fd1 Z h o0 (.ref b1_8_6) ∧ Arv Z h b1_8_6 k1_8_6 .byte 4 [(.int (i_1.toInt8.toInt32)), (.int (i_2.toInt8.toInt32)), (.int (i_3.toInt8.toInt32)), (.int (i_4.toInt8.toInt32))] z0
theorem ef_r80__init_ (o0 o1 : Addr) (m : MethodId) : entryFrame m #[(.ref o0), (.ref o1)] 2 = mkF m 0 #[.val (.ref o0), .val (.ref o1)] [] := by first | (simp [entryFrame, mkF, argsToLocals, Value.category]; done) | rfl
set_option maxRecDepth 65536 in
set_option maxHeartbeats 40000000 in
theorem r80__init_ (l : Launch) (Z : State) (a0 : Array Value) (hw : HW Z a0) (ws : List Jvm.Cond) (o0 o1 : Addr) (i_1 i_2 i_3 i_4 : Int32) (k_o1 : ClassId) (i_5 : Int32) (h0 : Heap) (n0 : Nat) (Z0 : n0 ≤ h0.size) (V_o1 : Arv Z h0 o1 k_o1 .char 4 [(.int i_1), (.int i_2), (.int i_3), (.int i_4)] z0) (sCS : SCS Z i_5) (F_o0_coder : Fd0 Z h0 o0 z0) (E_o0 : Ex0 Z h0 o0) (F_o0_value : Fd1 Z h0 o0 .null) (O0 : Old Z n0 h0) (hp0 : ¬ (i_5 = (0 : Int32))) (hp1 : ¬ ((255 : Int32) < i_1)) (hp2 : ¬ ((255 : Int32) < i_2)) (hp3 : ¬ ((255 : Int32) < i_3)) (hp4 : ¬ ((255 : Int32) < i_4)) (g_o0 : n0 ≤ o0) :
    MF l Z y5__init_ b1_ 2 none ws ⟨3, 1, 4, 52⟩ #[(.ref o0), (.ref o1)] h0 (Q_r80__init_ Z o0 o1 i_1 i_2 i_3 i_4 k_o1 i_5 h0 n0) := by
  refine own_body (plainFor_of_name pn_String564) (ef_r80__init_ o0 o1) (by decide) (by decide) ?_
  intro p e s m below meth c s₁ hx hby hml hown hnm hret hZ hh e0 X0
  have N0 := Fr.nil n0
  obtain ⟨_, T6, L6, X6, hQ6, st6⟩ := own_init X0 hx hZ rfl hown (w11 hw) (w12 hw) (w6 hw) (w14 hw) (by decide) (r81__init_ l Z a0 hw [] o0 o1 i_5 i_1 i_2 i_3 i_4 k_o1 h0 n0 Z0 sCS O0 hp0 V_o1 hp1 hp2 hp3 hp4 F_o0_coder E_o0 g_o0 F_o0_value) e0 (W := 0) (by decide) (g := (mkF m 6 #[vr o0, vr o1] [.null, (.int 4), z0, (.ref o1), (.ref o0)])) rfl hml.symm (argsL := [(.ref o1), z0, (.int 4), .null]) (rest := []) (lenOf pd_4 rfl) rfl rfl (own_wr rfl rfl) (hb hby d18)
  obtain ⟨b1_8_6, k1_8_6, rfl, N6q, K6, Q6_0, Q6_1, Q6_2, Q6_3⟩ := hQ6
  have N6 := Fr.app N0 N6q
  have C0 := (KL.refl h0 (WS_r80__init_ Z o0)).trans K6 (naO (own_mi 0 rfl) (naO (own_mi 1 rfl) na0))
  refine ⟨T6, _, none, X6, (fun h => by cases h <;> rfl), ?_, fun fs hr => ?_⟩
  · show Q_r80__init_ Z o0 o1 i_1 i_2 i_3 i_4 k_o1 i_5 h0 n0 _ T6.heap _
    exact ⟨b1_8_6, k1_8_6, rfl, N6, C0, Q6_0, Q6_1, Q6_2, Q6_3⟩
  · refine t_aloadN 1 X0.here hx (hb hby d12) rfl rfl rfl ?_
    refine t_aloadN 2 X0.here hx (hb hby d13) rfl rfl rfl ?_
    refine t_iconst 3 (r := 0) X0.here hx (hb hby d14) (by decide) rfl ?_
    refine t_aloadN 4 X0.here hx (hb hby d15) rfl rfl rfl ?_
    refine own_arlen (pc' := 5) X0 hx hZ e0 V_o1 (hb hby d16) rfl ?_
    refine t_aconst_null 6 X0.here hx (hb hby d17) rfl ?_
    refine st6 _ ?_
    exact X6.returnOut hx hret (hb hby d85) hr
def Q_r86_equals (Z : State) (o0 o1 : Addr) (i_1 i_2 i_3 i_4 : Int32) (k_o0 : ClassId) (i_5 : Int32) (k_o1 : ClassId) (h0 : Heap) (n0 : Nat) (v : Option Value) (h : Heap) (L : List Loc) : Prop := v = some (.int 1) ∧ Fr n0 L ∧ h = h0
theorem ef_r86_equals (o0 o1 : Addr) (m : MethodId) : entryFrame m #[(.ref o0), (.ref o1)] 3 = mkF m 0 #[.val (.ref o0), .val (.ref o1), .unset] [] := by first | (simp [entryFrame, mkF, argsToLocals, Value.category]; done) | rfl
set_option maxRecDepth 65536 in
set_option maxHeartbeats 40000000 in
theorem r86_equals (l : Launch) (Z : State) (a0 : Array Value) (hw : HW Z a0) (ws : List Jvm.Cond) (o0 o1 : Addr) (i_1 i_2 i_3 i_4 : Int32) (k_o0 : ClassId) (i_5 : Int32) (k_o1 : ClassId) (h0 : Heap) (n0 : Nat) (Z0 : n0 ≤ h0.size) (V_o0 : Arv Z h0 o0 k_o0 .byte 4 [(.int i_1), (.int i_2), (.int i_3), (.int i_4)] z0) (V_o1 : Arv Z h0 o1 k_o1 .byte 4 [(.int i_1), (.int i_5), (.int i_3), (.int i_4)] z0) (hp0 : i_2 = i_5) :
    MF l Z y39_equals b40_ 3 (some .boolean) ws ⟨0, 0, 0, 0⟩ #[(.ref o0), (.ref o1)] h0 (Q_r86_equals Z o0 o1 i_1 i_2 i_3 i_4 k_o0 i_5 k_o1 h0 n0) := by
  refine own_body (plainFor_of_name pn_StringLatin1120) (ef_r86_equals o0 o1) (by decide) (by decide) ?_
  intro p e s m below meth c s₁ hx hby hml hown hnm hret hZ hh e0 X0
  have N0 := Fr.nil n0
  refine ⟨s₁, _, some (.int 1), X0, (fun h => by cases h <;> rfl), ?_, fun fs hr => ?_⟩
  · show Q_r86_equals Z o0 o1 i_1 i_2 i_3 i_4 k_o0 i_5 k_o1 h0 n0 _ s₁.heap _
    rw [e0]
    exact ⟨rfl, N0, rfl⟩
  · refine t_aloadN 1 X0.here hx (hb hby d439) rfl rfl rfl ?_
    refine own_arlen (pc' := 2) X0 hx hZ e0 V_o0 (hb hby d440) rfl ?_
    refine t_aloadN 3 X0.here hx (hb hby d441) rfl rfl rfl ?_
    refine own_arlen (pc' := 4) X0 hx hZ e0 V_o1 (hb hby d442) rfl ?_
    refine t_icmpNo 7 X0.here hx (hb hby d443) (by decide) rfl ?_
    refine t_iconst 8 (r := 0) X0.here hx (hb hby d444) (by decide) rfl ?_
    refine t_istoreN (pc' := 9) (L' := #[vr o0, vr o1, vi 0]) X0.here hx (hb hby d445) rfl rfl ?_
    refine t_iloadN 10 X0.here hx (hb hby d446) rfl rfl ?_
    refine t_aloadN 11 X0.here hx (hb hby d447) rfl rfl rfl ?_
    refine own_arlen (pc' := 12) X0 hx hZ e0 V_o0 (hb hby d448) rfl ?_
    refine t_icmpNo 15 X0.here hx (hb hby d449) (by decide) rfl ?_
    refine t_aloadN 16 X0.here hx (hb hby d450) rfl rfl rfl ?_
    refine t_iloadN 17 X0.here hx (hb hby d451) rfl rfl ?_
    refine own_aldB (pc' := 18) X0 hx hZ e0 V_o0 (j := 0) (v := (.int i_1)) (by decide) rfl (hb hby d452) rfl ?_
    refine t_aloadN 19 X0.here hx (hb hby d453) rfl rfl rfl ?_
    refine t_iloadN 20 X0.here hx (hb hby d454) rfl rfl ?_
    refine own_aldB (pc' := 21) X0 hx hZ e0 V_o1 (j := 0) (v := (.int i_1)) (by decide) rfl (hb hby d455) rfl ?_
    refine t_icmpYes (pc := 21) 26 X0.here hx (hb hby d456) (teq (rfl : i_1 = i_1)).1 (by decide) (by decide) ?_
    refine t_iinc (pc' := 29) (L' := #[vr o0, vr o1, vi 1]) X0.here hx (hb hby d457) rfl (by first | rfl | decide) rfl ?_
    refine t_goto (pc := 29) 9 X0.here hx (hb hby d458) (by decide) (by decide) ?_
    refine t_iloadN 10 X0.here hx (hb hby d446) rfl rfl ?_
    refine t_aloadN 11 X0.here hx (hb hby d447) rfl rfl rfl ?_
    refine own_arlen (pc' := 12) X0 hx hZ e0 V_o0 (hb hby d448) rfl ?_
    refine t_icmpNo 15 X0.here hx (hb hby d449) (by decide) rfl ?_
    refine t_aloadN 16 X0.here hx (hb hby d450) rfl rfl rfl ?_
    refine t_iloadN 17 X0.here hx (hb hby d451) rfl rfl ?_
    refine own_aldB (pc' := 18) X0 hx hZ e0 V_o0 (j := 1) (v := (.int i_2)) (by decide) rfl (hb hby d452) rfl ?_
    refine t_aloadN 19 X0.here hx (hb hby d453) rfl rfl rfl ?_
    refine t_iloadN 20 X0.here hx (hb hby d454) rfl rfl ?_
    refine own_aldB (pc' := 21) X0 hx hZ e0 V_o1 (j := 1) (v := (.int i_5)) (by decide) rfl (hb hby d455) rfl ?_
    refine t_icmpYes (pc := 21) 26 X0.here hx (hb hby d456) (teq hp0).1 (by decide) (by decide) ?_
    refine t_iinc (pc' := 29) (L' := #[vr o0, vr o1, vi 2]) X0.here hx (hb hby d457) rfl (by first | rfl | decide) rfl ?_
    refine t_goto (pc := 29) 9 X0.here hx (hb hby d458) (by decide) (by decide) ?_
    refine t_iloadN 10 X0.here hx (hb hby d446) rfl rfl ?_
    refine t_aloadN 11 X0.here hx (hb hby d447) rfl rfl rfl ?_
    refine own_arlen (pc' := 12) X0 hx hZ e0 V_o0 (hb hby d448) rfl ?_
    refine t_icmpNo 15 X0.here hx (hb hby d449) (by decide) rfl ?_
    refine t_aloadN 16 X0.here hx (hb hby d450) rfl rfl rfl ?_
    refine t_iloadN 17 X0.here hx (hb hby d451) rfl rfl ?_
    refine own_aldB (pc' := 18) X0 hx hZ e0 V_o0 (j := 2) (v := (.int i_3)) (by decide) rfl (hb hby d452) rfl ?_
    refine t_aloadN 19 X0.here hx (hb hby d453) rfl rfl rfl ?_
    refine t_iloadN 20 X0.here hx (hb hby d454) rfl rfl ?_
    refine own_aldB (pc' := 21) X0 hx hZ e0 V_o1 (j := 2) (v := (.int i_3)) (by decide) rfl (hb hby d455) rfl ?_
    refine t_icmpYes (pc := 21) 26 X0.here hx (hb hby d456) (teq (rfl : i_3 = i_3)).1 (by decide) (by decide) ?_
    refine t_iinc (pc' := 29) (L' := #[vr o0, vr o1, vi 3]) X0.here hx (hb hby d457) rfl (by first | rfl | decide) rfl ?_
    refine t_goto (pc := 29) 9 X0.here hx (hb hby d458) (by decide) (by decide) ?_
    refine t_iloadN 10 X0.here hx (hb hby d446) rfl rfl ?_
    refine t_aloadN 11 X0.here hx (hb hby d447) rfl rfl rfl ?_
    refine own_arlen (pc' := 12) X0 hx hZ e0 V_o0 (hb hby d448) rfl ?_
    refine t_icmpNo 15 X0.here hx (hb hby d449) (by decide) rfl ?_
    refine t_aloadN 16 X0.here hx (hb hby d450) rfl rfl rfl ?_
    refine t_iloadN 17 X0.here hx (hb hby d451) rfl rfl ?_
    refine own_aldB (pc' := 18) X0 hx hZ e0 V_o0 (j := 3) (v := (.int i_4)) (by decide) rfl (hb hby d452) rfl ?_
    refine t_aloadN 19 X0.here hx (hb hby d453) rfl rfl rfl ?_
    refine t_iloadN 20 X0.here hx (hb hby d454) rfl rfl ?_
    refine own_aldB (pc' := 21) X0 hx hZ e0 V_o1 (j := 3) (v := (.int i_4)) (by decide) rfl (hb hby d455) rfl ?_
    refine t_icmpYes (pc := 21) 26 X0.here hx (hb hby d456) (teq (rfl : i_4 = i_4)).1 (by decide) (by decide) ?_
    refine t_iinc (pc' := 29) (L' := #[vr o0, vr o1, vi 4]) X0.here hx (hb hby d457) rfl (by first | rfl | decide) rfl ?_
    refine t_goto (pc := 29) 9 X0.here hx (hb hby d458) (by decide) (by decide) ?_
    refine t_iloadN 10 X0.here hx (hb hby d446) rfl rfl ?_
    refine t_aloadN 11 X0.here hx (hb hby d447) rfl rfl rfl ?_
    refine own_arlen (pc' := 12) X0 hx hZ e0 V_o0 (hb hby d448) rfl ?_
    refine t_icmpYes (pc := 12) 32 X0.here hx (hb hby d449) (by decide) (by decide) (by decide) ?_
    refine t_iconst 33 (r := 1) X0.here hx (hb hby d459) (by decide) rfl ?_
    exact retN X0 hx (t := .boolean) hret (by simp) (hb hby d460) hr
def Q_r85_equals (Z : State) (o0 o1 : Addr) (i_3 : Int32) (o_7 o_9 : Addr) (i_11 i_12 i_13 i_14 : Int32) (k_o_7 : ClassId) (i_15 : Int32) (k_o_9 : ClassId) (h0 : Heap) (n0 : Nat) (v : Option Value) (h : Heap) (L : List Loc) : Prop := v = some (.int 1) ∧ Fr n0 L ∧ h = h0
theorem ef_r85_equals (o0 o1 : Addr) (m : MethodId) : entryFrame m #[(.ref o0), (.ref o1)] 3 = mkF m 0 #[.val (.ref o0), .val (.ref o1), .unset] [] := by first | (simp [entryFrame, mkF, argsToLocals, Value.category]; done) | rfl
set_option maxRecDepth 65536 in
set_option maxHeartbeats 40000000 in
theorem r85_equals (l : Launch) (Z : State) (a0 : Array Value) (hw : HW Z a0) (ws : List Jvm.Cond) (o0 o1 : Addr) (i_3 : Int32) (o_7 o_9 : Addr) (i_11 i_12 i_13 i_14 : Int32) (k_o_7 : ClassId) (i_15 : Int32) (k_o_9 : ClassId) (h0 : Heap) (n0 : Nat) (Z0 : n0 ≤ h0.size) (ne_o0_o1 : o0 ≠ o1) (E_o1 : Ex0 Z h0 o1) (sCS : SCS Z i_3) (O0 : Old Z n0 h0) (hp0 : ¬ (i_3 = (0 : Int32))) (F_o0_coder : Fd0 Z h0 o0 z0) (F_o1_coder : Fd0 Z h0 o1 z0) (F_o0_value : Fd1 Z h0 o0 (.ref o_7)) (F_o1_value : Fd1 Z h0 o1 (.ref o_9)) (V_o_7 : Arv Z h0 o_7 k_o_7 .byte 4 [(.int i_11), (.int i_12), (.int i_13), (.int i_14)] z0) (V_o_9 : Arv Z h0 o_9 k_o_9 .byte 4 [(.int i_11), (.int i_15), (.int i_13), (.int i_14)] z0) (hp1 : i_12 = i_15) :
    MF l Z y40_equals b39_ 3 (some .boolean) ws ⟨1, 0, 0, 14⟩ #[(.ref o0), (.ref o1)] h0 (Q_r85_equals Z o0 o1 i_3 o_7 o_9 i_11 i_12 i_13 i_14 k_o_7 i_15 k_o_9 h0 n0) := by
  refine own_body (plainFor_of_name pn_String564) (ef_r85_equals o0 o1) (by decide) (by decide) ?_
  intro p e s m below meth c s₁ hx hby hml hown hnm hret hZ hh e0 X0
  have N0 := Fr.nil n0
  obtain ⟨T1, X1, e1, st1⟩ := instY X0 hx hZ hown (w214 hw) e0 (Ins.self E_o1) (g := (mkF m 8 #[vr o0, vr o1, .unset] [(.ref o1)])) rfl rfl (hb hby d422)
  obtain ⟨T2, X2, e2, st2⟩ := castY X1 hx hZ hown (w214 hw) e1 (Ins.self E_o1) (g := (mkF m 15 #[vr o0, vr o1, .unset] [(.ref o1)])) rfl rfl (hb hby d425)
  obtain ⟨T4, X4, e4, st4⟩ := getS2 X2 hx hZ hown (host := "") (Or.inl (w18 hw)) Via.refl e2 (Sta.ext O0.2 sCS) (g := (mkF m 19 #[vr o0, vr o1, vr o1] [])) rfl (hb hby d427)
  obtain ⟨T5, X5, e5, st5⟩ := getF X4 hx hZ hown (host := "") (Or.inl (w30 hw)) Via.refl e4 F_o0_coder (g := (mkF m 26 #[vr o0, vr o1, vr o1] [(.ref o0)])) rfl rfl (hb hby d430)
  obtain ⟨T6, X6, e6, st6⟩ := getF X5 hx hZ hown (host := "") (Or.inl (w30 hw)) Via.refl e5 F_o1_coder (g := (mkF m 30 #[vr o0, vr o1, vr o1] [(.ref o1), z0])) rfl rfl (hb hby d432)
  obtain ⟨T8, X8, e8, st8⟩ := getF X6 hx hZ hown (host := "") (Or.inl (w32 hw)) Via.refl e6 F_o0_value (g := (mkF m 37 #[vr o0, vr o1, vr o1] [(.ref o0)])) rfl rfl (hb hby d435)
  obtain ⟨T10, X10, e10, st10⟩ := getF X8 hx hZ hown (host := "") (Or.inl (w32 hw)) Via.refl e8 F_o1_value (g := (mkF m 41 #[vr o0, vr o1, vr o1] [(.ref o1), (.ref o_7)])) rfl rfl (hb hby d437)
  obtain ⟨_, T16, L16, X16, hQ16, st16⟩ := own_static X10 hx hZ hown (w215 hw) (w216 hw) (w86 hw) (w217 hw) (by decide) (r86_equals l Z a0 hw [] o_7 o_9 i_11 i_12 i_13 i_14 k_o_7 i_15 k_o_9 h0 n0 Z0 V_o_7 V_o_9 hp1) e10 (W := 0) (by decide) (g := (mkF m 44 #[vr o0, vr o1, vr o1] [(.ref o_9), (.ref o_7)])) rfl hml.symm (argsL := [(.ref o_7), (.ref o_9)]) (rest := []) (lenOf pd_28 rfl) rfl rfl (own_wr rfl rfl) (hb hby d438)
  obtain ⟨rfl, N16q, e16⟩ := hQ16
  have N16 := Fr.app N0 N16q
  refine ⟨T16, _, some (.int 1), X16, (fun h => by cases h <;> rfl), ?_, fun fs hr => ?_⟩
  · show Q_r85_equals Z o0 o1 i_3 o_7 o_9 i_11 i_12 i_13 i_14 k_o_7 i_15 k_o_9 h0 n0 _ T16.heap _
    rw [e16]
    exact ⟨rfl, N16, rfl⟩
  · refine t_aloadN 1 X0.here hx (hb hby d418) rfl rfl rfl ?_
    refine t_aloadN 2 X0.here hx (hb hby d419) rfl rfl rfl ?_
    refine Jvm.RoadKit.acmp (g := (mkF m 2 #[vr o0, vr o1, .unset] [(.ref o1), (.ref o0)])) X0 hx rfl rfl rfl (pc0 := 2) (pc' := 7) (same := false) rfl (hb hby d420) rfl (decide_eq_false fun q => absurd (Value.ref.inj q) ne_o0_o1) (by decide) (by decide) ?_
    refine t_aloadN 8 X0.here hx (hb hby d421) rfl rfl rfl ?_
    refine st1 _ ?_
    refine t_ifNo 14 X1.here hx (hb hby d423) (by decide) rfl ?_
    refine t_aloadN 15 X1.here hx (hb hby d424) rfl rfl rfl ?_
    refine st2 _ ?_
    refine t_astoreN (pc' := 19) (L' := #[vr o0, vr o1, vr o1]) X2.here hx (hb hby d426) rfl rfl rfl ?_
    refine st4 _ ?_
    refine t_ifNo 25 X4.here hx (hb hby d428) ((if0 _ _).trans (feq hp0).1) rfl ?_
    refine t_aloadN 26 X4.here hx (hb hby d429) rfl rfl rfl ?_
    refine st5 _ ?_
    refine t_aloadN 30 X5.here hx (hb hby d431) rfl rfl rfl ?_
    refine st6 _ ?_
    refine t_icmpNo 36 X6.here hx (hb hby d433) (by decide) rfl ?_
    refine t_aloadN 37 X6.here hx (hb hby d434) rfl rfl rfl ?_
    refine st8 _ ?_
    refine t_aloadN 41 X8.here hx (hb hby d436) rfl rfl rfl ?_
    refine st10 _ ?_
    refine st16 _ ?_
    refine t_ifNo 50 X16.here hx (hb hby d461) (by decide) rfl ?_
    refine t_iconst 51 (r := 1) X16.here hx (hb hby d462) (by decide) rfl ?_
    refine t_goto (pc := 51) 55 X16.here hx (hb hby d463) (by decide) (by decide) ?_
    exact retN X16 hx (t := .boolean) hret (by simp) (hb hby d464) hr
theorem ef_law_tf (p0 p1 : Int32) (m : MethodId) : entryFrame m #[(.int p0), (.int p1)] maxLocals = mkF m 0 #[.val (.int p0), .val (.int p1), .unset, .unset, .unset, .unset, .unset, .unset, .unset, .unset, .unset, .unset, .unset] [] := by first | (simp [entryFrame, mkF, argsToLocals, Value.category, maxLocals]; done) | rfl
set_option maxRecDepth 65536 in
set_option maxHeartbeats 40000000 in
theorem law_tf (l : Launch) (Z : State) (a0 : Array Value) (hw : HW Z a0) (ws : List Jvm.Cond) (p0 p1 cs : Int32) (h0 : Heap) (n0 : Nat) (Z0 : n0 ≤ h0.size) (hcs : ¬ (cs = (0 : Int32))) (hp0 : ((own_u16 p0) &&& (1 : Int32)) = (0 : Int32)) (hp1 : ¬ (((own_u16 p1) &&& (1 : Int32)) = (0 : Int32))) (sCS : SCS Z cs) (O0 : Old Z n0 h0) :
    MetFree l x (head1 (Jvm.Cond.code x code maxLocals ret :: ws) room_1) (fun a U => a = #[(.int p0), (.int p1)] ∧ Z.Warmed39 U.vm ∧ U.heap = h0 ∧ CHv Z consts_1 U.vm h0 ∧ ∀ x ∈ ([] : List Addr), Safe Z consts_1 U.vm h0 x) (fun _ _ _ _ _ => True) (fun _ U o U' => ∃ v L, o = .returned v ∧ Q_law n0 v L ∧ CHr Z consts_1 U.vm U.heap U'.vm U'.heap ∧ ReturnedEndW U o U' L 48 3328) := by
  refine own_bodyH (k := 20) (n := 104) (y := x) (Q := fun v _ L => Q_law n0 v L) (own_EW hw) (plainFor_of_name pn_IdentifierToStringPinLaw460) (ef_law_tf p0 p1) (by decide) (by decide) ?_
  intro p e s m below meth c s₁ hx hby hml hown hnm hret hZ e0 hS0 hk0 X0 hC0 hSF0
  have N0 := Fr.nil n0
  obtain ⟨_, T1, L1, X1, hQ1, st1⟩ := own_static X0 hx hZ hown (w0 hw) (w1 hw) (w2 hw) (w3 hw) (by decide) (r_sys l Z a0 hw [] p0 h0 n0 Z0) e0 (W := 0) (by decide) (g := (mkF m 1 #[vi p0, vi p1, .unset, .unset, .unset, .unset, .unset, .unset, .unset, .unset, .unset, .unset, .unset] [(.int p0)])) rfl hml.symm (argsL := [(.int p0)]) (rest := []) (lenOf pd_0 rfl) rfl rfl (own_wr rfl rfl) (hb hby at_1)
  obtain ⟨rfl, N1q, e1⟩ := hQ1
  have N1 := Fr.app N0 N1q
  obtain ⟨_, T2, L2, X2, hQ2, st2⟩ := own_static X1 hx hZ hown (w0 hw) (w1 hw) (w2 hw) (w3 hw) (by decide) (r_sys l Z a0 hw [] (own_u8 p0) h0 n0 Z0) e1 (W := 0) (by decide) (g := (mkF m 9 #[vi p0, vi p1, vi ((own_sys p0)), .unset, .unset, .unset, .unset, .unset, .unset, .unset, .unset, .unset, .unset] [(.int (own_u8 p0))])) rfl hml.symm (argsL := [(.int (own_u8 p0))]) (rest := []) (lenOf pd_0 rfl) rfl rfl (own_wr rfl rfl) (hb hby at_9)
  obtain ⟨rfl, N2q, e2⟩ := hQ2
  have N2 := Fr.app N1 N2q
  obtain ⟨T3, h3, X3, e3, E3, A3, D3, -, st3⟩ := newO X2 hx hZ hown (w4 hw) (w5 hw) (w6 hw) e2 (g := (mkF m 190 #[vi p0, vi p1, vi ((own_sys p0)), vi ((own_sys (own_u8 p0))), vi 0, vi ((p1 &&& (255 : Int32))), vi (((own_u8 p1) &&& (255 : Int32))), vi 1, .unset, .unset, .unset, .unset, .unset] [])) rfl (hb hby at_190) (by decide) (by decide)
  obtain ⟨b3, g3⟩ : ∃ z, z = h0.size := ⟨_, rfl⟩
  rw [← g3] at A3 D3 st3
  have ge_b3 : h0.size ≤ b3 := Nat.le_of_eq g3.symm
  have K3 := KL.ofE E3
  have Ck0 := own_chK K3 na0 (CHr.refl hC0).1
  have Ah1 := (CHr.refl hC0).trans Ck0.1
  have F_b3_coder : Fd0 Z h3 b3 z0 := D3 (Or.inr (w31 hw)) (ty := .byte) (by decide)
  have F_b3_value : Fd1 Z h3 b3 .null := D3 (Or.inr (w33 hw)) (ty := (.array .byte)) (by decide)
  obtain ⟨T4, h4, k4, X4, e4, E4, A4, st4⟩ := newP (aty := .char) X3 hx hZ (w7 hw) e3 (g := (mkF m 195 #[vi p0, vi p1, vi ((own_sys p0)), vi ((own_sys (own_u8 p0))), vi 0, vi ((p1 &&& (255 : Int32))), vi (((own_u8 p1) &&& (255 : Int32))), vi 1, .unset, .unset, .unset, .unset, .unset] [(.int 1), (.ref b3), (.ref b3)])) rfl (hb hby at_195) rfl (by decide) (cap := 1) (by decide) (by decide) (by decide) (by decide)
  obtain ⟨b4, g4⟩ : ∃ z, z = h3.size := ⟨_, rfl⟩
  rw [← g4] at A4 st4
  have ge_b4 : h3.size ≤ b4 := Nat.le_of_eq g4.symm
  have K4 := KL.ofE E4
  have Ck1 := own_chK K4 na0 Ah1.1
  have Ah2 := Ah1.trans Ck1.1
  have V4 : Arv Z h4 b4 k4 .char 1 [z0] z0 := (Arv.new A4 (by decide)).pad (pad_rep [] z0 1)
  obtain ⟨T5, h5, X5, e5, W5, V5, st5⟩ := own_astC X4 hx hZ e4 V4 (j := 0) (by decide) 0 rfl (Nat.le_of_ble_eq_true rfl) (g := (mkF m 200 #[vi p0, vi p1, vi ((own_sys p0)), vi ((own_sys (own_u8 p0))), vi 0, vi ((p1 &&& (255 : Int32))), vi (((own_u8 p1) &&& (255 : Int32))), vi 1, .unset, .unset, .unset, .unset, .unset] [(.int (own_sys p0)), z0, (.ref b4), (.ref b4), (.ref b3), (.ref b3)])) rfl rfl (hb hby at_200)
  rw [show (nar .char (own_sys p0)) = (own_sys p0) from (own_c2c (own_sysa _) (own_sysb _))] at V5
  have K5 := KL.ofW W5
  have Ck2 := own_chK K5 (naF (Ck1.2 _ (Safe.new ge_b4)) na0) Ah2.1
  have Ah3 := Ah2.trans Ck2.1
  replace V5 : Arv Z h5 b4 k4 .char 1 [(.int (own_sys p0))] z0 := V5
  have N5 := Fr.snoc X5 N2 (Nat.le_trans Z0 (Nat.le_trans K3.1 ge_b4))
  have lt_b3 : b3 < h3.size := Exa.lt A3
  have f7 := (kFld K5 (kFld K4 F_b3_coder nw0) (nwS (Or.inl (lt_ne lt_b3 ge_b4)) nw0))
  have f8 := (kExa K5 (kExa K4 A3))
  have f9 := (kFld K5 (kFld K4 F_b3_value nw0) (nwS (Or.inl (lt_ne lt_b3 ge_b4)) nw0))
  have f10 := (kOld K5 (kOld K4 (kOld K3 O0 na0) na0) (naS (P := fun w => n0 ≤ w.1) (Nat.le_trans Z0 (Nat.le_trans K3.1 ge_b4)) na0))
  have sz_0_2 := (Nat.le_trans K3.1 K4.1)
  have sz_0_3 := (Nat.le_trans sz_0_2 K5.1)
  obtain ⟨_, T6, L6, X6, hQ6, st6⟩ := own_init X5 hx hZ rfl hown (w8 hw) (w9 hw) (w6 hw) (w10 hw) (by decide) (r1__init_ l Z a0 hw [] b3 b4 (own_sys p0) k4 cs h5 n0 (Nat.le_trans Z0 sz_0_3) V5 sCS f7 f8 f9 f10 hcs (own_sysb _) (Nat.le_trans Z0 ge_b3)) e5 (W := 1) (by decide) (g := (mkF m 201 #[vi p0, vi p1, vi ((own_sys p0)), vi ((own_sys (own_u8 p0))), vi 0, vi ((p1 &&& (255 : Int32))), vi (((own_u8 p1) &&& (255 : Int32))), vi 1, .unset, .unset, .unset, .unset, .unset] [(.ref b4), (.ref b3), (.ref b3)])) rfl hml.symm (argsL := [(.ref b4)]) (rest := [(.ref b3)]) (lenOf pd_5 rfl) rfl rfl (own_wr rfl rfl) (hb hby at_201)
  obtain ⟨b1_5_3_6, k1_5_3_6, rfl, N6q, K6, Q6_0, Q6_1, Q6_2, Q6_3⟩ := hQ6
  have N6 := Fr.app N5 N6q
  have Ck3 := own_chK K6 (naF (Ck2.2 _ (Ck1.2 _ (Ck0.2 _ (Safe.new ge_b3)))) (naF (Ck2.2 _ (Ck1.2 _ (Ck0.2 _ (Safe.new ge_b3)))) na0)) Ah3.1
  have Ah4 := Ah3.trans Ck3.1
  obtain ⟨T12, h12, X12, e12, E12, A12, D12, -, st12⟩ := newO X6 hx hZ hown (w4 hw) (w5 hw) (w6 hw) rfl (g := (mkF m 211 #[vi p0, vi p1, vi ((own_sys p0)), vi ((own_sys (own_u8 p0))), vi 0, vi ((p1 &&& (255 : Int32))), vi (((own_u8 p1) &&& (255 : Int32))), vi 1, vr b3, .unset, .unset, .unset, .unset] [])) rfl (hb hby at_211) (by decide) (by decide)
  obtain ⟨b12, g12⟩ : ∃ z, z = T6.heap.size := ⟨_, rfl⟩
  rw [← g12] at A12 D12 st12
  have ge_b12 : T6.heap.size ≤ b12 := Nat.le_of_eq g12.symm
  have K12 := KL.ofE E12
  have Ck4 := own_chK K12 na0 Ah4.1
  have Ah5 := Ah4.trans Ck4.1
  have F_b12_coder : Fd0 Z h12 b12 z0 := D12 (Or.inr (w31 hw)) (ty := .byte) (by decide)
  have F_b12_value : Fd1 Z h12 b12 .null := D12 (Or.inr (w33 hw)) (ty := (.array .byte)) (by decide)
  obtain ⟨T13, h13, k13, X13, e13, E13, A13, st13⟩ := newP (aty := .char) X12 hx hZ (w7 hw) e12 (g := (mkF m 216 #[vi p0, vi p1, vi ((own_sys p0)), vi ((own_sys (own_u8 p0))), vi 0, vi ((p1 &&& (255 : Int32))), vi (((own_u8 p1) &&& (255 : Int32))), vi 1, vr b3, .unset, .unset, .unset, .unset] [(.int 2), (.ref b12), (.ref b12)])) rfl (hb hby at_216) rfl (by decide) (cap := 2) (by decide) (by decide) (by decide) (by decide)
  obtain ⟨b13, g13⟩ : ∃ z, z = h12.size := ⟨_, rfl⟩
  rw [← g13] at A13 st13
  have ge_b13 : h12.size ≤ b13 := Nat.le_of_eq g13.symm
  have K13 := KL.ofE E13
  have Ck5 := own_chK K13 na0 Ah5.1
  have Ah6 := Ah5.trans Ck5.1
  have V13 : Arv Z h13 b13 k13 .char 2 [z0, z0] z0 := (Arv.new A13 (by decide)).pad (pad_rep [] z0 2)
  obtain ⟨T14, h14, X14, e14, W14, V14, st14⟩ := own_astC X13 hx hZ e13 V13 (j := 0) (by decide) 0 rfl (Nat.le_of_ble_eq_true rfl) (g := (mkF m 222 #[vi p0, vi p1, vi ((own_sys p0)), vi ((own_sys (own_u8 p0))), vi 0, vi ((p1 &&& (255 : Int32))), vi (((own_u8 p1) &&& (255 : Int32))), vi 1, vr b3, .unset, .unset, .unset, .unset] [(.int (p1 &&& (255 : Int32))), z0, (.ref b13), (.ref b13), (.ref b12), (.ref b12)])) rfl rfl (hb hby at_222)
  rw [show (nar .char (p1 &&& (255 : Int32))) = (p1 &&& (255 : Int32)) from (i2c_mask _)] at V14
  have sz_0_4 := (Nat.le_trans sz_0_3 K6.1)
  have sz_0_5 := (Nat.le_trans sz_0_4 K12.1)
  have K14 := KL.ofW W14
  have Ck6 := own_chK K14 (naF (Ck5.2 _ (Safe.new ge_b13)) na0) Ah6.1
  have Ah7 := Ah6.trans Ck6.1
  replace V14 : Arv Z h14 b13 k13 .char 2 [(.int (p1 &&& (255 : Int32))), z0] z0 := V14
  have N14 := Fr.snoc X14 N6 (Nat.le_trans Z0 (Nat.le_trans sz_0_5 ge_b13))
  obtain ⟨T15, h15, X15, e15, W15, V15, st15⟩ := own_astC X14 hx hZ e14 V14 (j := 1) (by decide) 1 rfl (Nat.le_of_ble_eq_true rfl) (g := (mkF m 227 #[vi p0, vi p1, vi ((own_sys p0)), vi ((own_sys (own_u8 p0))), vi 0, vi ((p1 &&& (255 : Int32))), vi (((own_u8 p1) &&& (255 : Int32))), vi 1, vr b3, .unset, .unset, .unset, .unset] [(.int ((own_u8 p1) &&& (255 : Int32))), (.int 1), (.ref b13), (.ref b13), (.ref b12), (.ref b12)])) rfl rfl (hb hby at_227)
  rw [show (nar .char ((own_u8 p1) &&& (255 : Int32))) = ((own_u8 p1) &&& (255 : Int32)) from (i2c_mask _)] at V15
  have K15 := KL.ofW W15
  have Ck7 := own_chK K15 (naF (Ck6.2 _ (Ck5.2 _ (Safe.new ge_b13))) na0) Ah7.1
  have Ah8 := Ah7.trans Ck7.1
  replace V15 : Arv Z h15 b13 k13 .char 2 [(.int (p1 &&& (255 : Int32))), (.int ((own_u8 p1) &&& (255 : Int32)))] z0 := V15
  have N15 := Fr.snoc X15 N14 (Nat.le_trans Z0 (Nat.le_trans sz_0_5 ge_b13))
  have lt_b12 : b12 < h12.size := Exa.lt A12
  have f17 := (kFld K15 (kFld K14 (kFld K13 F_b12_coder nw0) (nwS (Or.inl (lt_ne lt_b12 ge_b13)) nw0)) (nwS (Or.inl (lt_ne lt_b12 ge_b13)) nw0))
  have f18 := (kExa K15 (kExa K14 (kExa K13 A12)))
  have f19 := (kFld K15 (kFld K14 (kFld K13 F_b12_value nw0) (nwS (Or.inl (lt_ne lt_b12 ge_b13)) nw0)) (nwS (Or.inl (lt_ne lt_b12 ge_b13)) nw0))
  have f20 := (kOld K15 (kOld K14 (kOld K13 (kOld K12 (kOld K6 f10 (naS (P := fun w => n0 ≤ w.1) (Nat.le_trans Z0 ge_b3) (naS (P := fun w => n0 ≤ w.1) (Nat.le_trans Z0 ge_b3) na0))) na0) na0) (naS (P := fun w => n0 ≤ w.1) (Nat.le_trans Z0 (Nat.le_trans sz_0_5 ge_b13)) na0)) (naS (P := fun w => n0 ≤ w.1) (Nat.le_trans Z0 (Nat.le_trans sz_0_5 ge_b13)) na0))
  have sz_0_6 := (Nat.le_trans sz_0_5 K13.1)
  have sz_0_7 := (Nat.le_trans sz_0_6 K14.1)
  have sz_0_8 := (Nat.le_trans sz_0_7 K15.1)
  obtain ⟨_, T16, L16, X16, hQ16, st16⟩ := own_init X15 hx hZ rfl hown (w8 hw) (w9 hw) (w6 hw) (w10 hw) (by decide) (r57__init_ l Z a0 hw [] b12 b13 (p1 &&& (255 : Int32)) ((own_u8 p1) &&& (255 : Int32)) k13 cs h15 n0 (Nat.le_trans Z0 sz_0_8) V15 sCS f17 f18 f19 f20 hcs (own_m255b _) (own_m255b _) (Nat.le_trans Z0 (Nat.le_trans sz_0_4 ge_b12))) e15 (W := 1) (by decide) (g := (mkF m 228 #[vi p0, vi p1, vi ((own_sys p0)), vi ((own_sys (own_u8 p0))), vi 0, vi ((p1 &&& (255 : Int32))), vi (((own_u8 p1) &&& (255 : Int32))), vi 1, vr b3, .unset, .unset, .unset, .unset] [(.ref b13), (.ref b12), (.ref b12)])) rfl hml.symm (argsL := [(.ref b13)]) (rest := [(.ref b12)]) (lenOf pd_5 rfl) rfl rfl (own_wr rfl rfl) (hb hby at_228)
  obtain ⟨b1_6_4_16, k1_6_4_16, rfl, N16q, K16, Q16_0, Q16_1, Q16_2, Q16_3⟩ := hQ16
  have N16 := Fr.app N15 N16q
  have Ck8 := own_chK K16 (naF (Ck7.2 _ (Ck6.2 _ (Ck5.2 _ (Ck4.2 _ (Safe.new ge_b12))))) (naF (Ck7.2 _ (Ck6.2 _ (Ck5.2 _ (Ck4.2 _ (Safe.new ge_b12))))) na0)) Ah8.1
  have Ah9 := Ah8.trans Ck8.1
  obtain ⟨T22, h22, k22, X22, e22, E22, A22, st22⟩ := newP (aty := .char) X16 hx hZ (w7 hw) rfl (g := (mkF m 234 #[vi p0, vi p1, vi ((own_sys p0)), vi ((own_sys (own_u8 p0))), vi 0, vi ((p1 &&& (255 : Int32))), vi (((own_u8 p1) &&& (255 : Int32))), vi 1, vr b3, vr b12, .unset, .unset, .unset] [(.int 4)])) rfl (hb hby at_234) rfl (by decide) (cap := 4) (by decide) (by decide) (by decide) (by decide)
  obtain ⟨b22, g22⟩ : ∃ z, z = T16.heap.size := ⟨_, rfl⟩
  rw [← g22] at A22 st22
  have ge_b22 : T16.heap.size ≤ b22 := Nat.le_of_eq g22.symm
  have K22 := KL.ofE E22
  have Ck9 := own_chK K22 na0 Ah9.1
  have Ah10 := Ah9.trans Ck9.1
  have V22 : Arv Z h22 b22 k22 .char 4 [z0, z0, z0, z0] z0 := (Arv.new A22 (by decide)).pad (pad_rep [] z0 4)
  obtain ⟨T23, h23, X23, e23, W23, V23, st23⟩ := own_astC X22 hx hZ e22 V22 (j := 0) (by decide) 0 rfl (Nat.le_of_ble_eq_true rfl) (g := (mkF m 239 #[vi p0, vi p1, vi ((own_sys p0)), vi ((own_sys (own_u8 p0))), vi 0, vi ((p1 &&& (255 : Int32))), vi (((own_u8 p1) &&& (255 : Int32))), vi 1, vr b3, vr b12, .unset, .unset, .unset] [(.int (own_sys p0)), z0, (.ref b22), (.ref b22)])) rfl rfl (hb hby at_239)
  rw [show (nar .char (own_sys p0)) = (own_sys p0) from (own_c2c (own_sysa _) (own_sysb _))] at V23
  have sz_0_9 := (Nat.le_trans sz_0_8 K16.1)
  have K23 := KL.ofW W23
  have Ck10 := own_chK K23 (naF (Ck9.2 _ (Safe.new ge_b22)) na0) Ah10.1
  have Ah11 := Ah10.trans Ck10.1
  replace V23 : Arv Z h23 b22 k22 .char 4 [(.int (own_sys p0)), z0, z0, z0] z0 := V23
  have N23 := Fr.snoc X23 N16 (Nat.le_trans Z0 (Nat.le_trans sz_0_9 ge_b22))
  obtain ⟨T24, h24, X24, e24, W24, V24, st24⟩ := own_astC X23 hx hZ e23 V23 (j := 1) (by decide) 1 rfl (Nat.le_of_ble_eq_true rfl) (g := (mkF m 244 #[vi p0, vi p1, vi ((own_sys p0)), vi ((own_sys (own_u8 p0))), vi 0, vi ((p1 &&& (255 : Int32))), vi (((own_u8 p1) &&& (255 : Int32))), vi 1, vr b3, vr b12, .unset, .unset, .unset] [(.int 58), (.int 1), (.ref b22), (.ref b22)])) rfl rfl (hb hby at_244)
  rw [show (nar .char 58) = (58 : Int32) from (by decide : (nar .char 58) = (58 : Int32))] at V24
  have K24 := KL.ofW W24
  have Ck11 := own_chK K24 (naF (Ck10.2 _ (Ck9.2 _ (Safe.new ge_b22))) na0) Ah11.1
  have Ah12 := Ah11.trans Ck11.1
  replace V24 : Arv Z h24 b22 k22 .char 4 [(.int (own_sys p0)), (.int 58), z0, z0] z0 := V24
  have N24 := Fr.snoc X24 N23 (Nat.le_trans Z0 (Nat.le_trans sz_0_9 ge_b22))
  obtain ⟨T25, h25, X25, e25, W25, V25, st25⟩ := own_astC X24 hx hZ e24 V24 (j := 2) (by decide) 2 rfl (Nat.le_of_ble_eq_true rfl) (g := (mkF m 249 #[vi p0, vi p1, vi ((own_sys p0)), vi ((own_sys (own_u8 p0))), vi 0, vi ((p1 &&& (255 : Int32))), vi (((own_u8 p1) &&& (255 : Int32))), vi 1, vr b3, vr b12, .unset, .unset, .unset] [(.int (p1 &&& (255 : Int32))), (.int 2), (.ref b22), (.ref b22)])) rfl rfl (hb hby at_249)
  rw [show (nar .char (p1 &&& (255 : Int32))) = (p1 &&& (255 : Int32)) from (i2c_mask _)] at V25
  have K25 := KL.ofW W25
  have Ck12 := own_chK K25 (naF (Ck11.2 _ (Ck10.2 _ (Ck9.2 _ (Safe.new ge_b22)))) na0) Ah12.1
  have Ah13 := Ah12.trans Ck12.1
  replace V25 : Arv Z h25 b22 k22 .char 4 [(.int (own_sys p0)), (.int 58), (.int (p1 &&& (255 : Int32))), z0] z0 := V25
  have N25 := Fr.snoc X25 N24 (Nat.le_trans Z0 (Nat.le_trans sz_0_9 ge_b22))
  obtain ⟨T26, h26, X26, e26, W26, V26, st26⟩ := own_astC X25 hx hZ e25 V25 (j := 3) (by decide) 3 rfl (Nat.le_of_ble_eq_true rfl) (g := (mkF m 254 #[vi p0, vi p1, vi ((own_sys p0)), vi ((own_sys (own_u8 p0))), vi 0, vi ((p1 &&& (255 : Int32))), vi (((own_u8 p1) &&& (255 : Int32))), vi 1, vr b3, vr b12, .unset, .unset, .unset] [(.int ((own_u8 p1) &&& (255 : Int32))), (.int 3), (.ref b22), (.ref b22)])) rfl rfl (hb hby at_254)
  rw [show (nar .char ((own_u8 p1) &&& (255 : Int32))) = ((own_u8 p1) &&& (255 : Int32)) from (i2c_mask _)] at V26
  have K26 := KL.ofW W26
  have Ck13 := own_chK K26 (naF (Ck12.2 _ (Ck11.2 _ (Ck10.2 _ (Ck9.2 _ (Safe.new ge_b22))))) na0) Ah13.1
  have Ah14 := Ah13.trans Ck13.1
  replace V26 : Arv Z h26 b22 k22 .char 4 [(.int (own_sys p0)), (.int 58), (.int (p1 &&& (255 : Int32))), (.int ((own_u8 p1) &&& (255 : Int32)))] z0 := V26
  have N26 := Fr.snoc X26 N25 (Nat.le_trans Z0 (Nat.le_trans sz_0_9 ge_b22))
  obtain ⟨T27, h27, X27, e27, E27, A27, D27, -, st27⟩ := newO X26 hx hZ hown (w34 hw) (w35 hw) (w36 hw) e26 (g := (mkF m 296 #[vi p0, vi p1, vi ((own_sys p0)), vi ((own_sys (own_u8 p0))), vi 0, vi ((p1 &&& (255 : Int32))), vi (((own_u8 p1) &&& (255 : Int32))), vi 1, vr b3, vr b12, vr b22, .unset, .unset] [])) rfl (hb hby at_296) (by decide) (by decide)
  obtain ⟨b27, g27⟩ : ∃ z, z = h26.size := ⟨_, rfl⟩
  rw [← g27] at A27 D27 st27
  have ge_b27 : h26.size ≤ b27 := Nat.le_of_eq g27.symm
  have K27 := KL.ofE E27
  have Ck14 := own_chK K27 na0 Ah14.1
  have Ah15 := Ah14.trans Ck14.1
  have F_b27_system : Fd2 Z h27 b27 .null := D27 (Or.inr (w102 hw)) (ty := (.object "java/lang/String")) (by decide)
  have F_b27_id : Fd3 Z h27 b27 .null := D27 (Or.inr (w104 hw)) (ty := (.object "java/lang/String")) (by decide)
  have f29 := (kExa K27 (kExa K26 (kExa K25 (kExa K24 (kExa K23 (kExa K22 (kExa K16 (kExa K15 (kExa K14 (kExa K13 (kExa K12 (kExa K6 f8))))))))))))
  have sz_1_3 := (Nat.le_trans K4.1 K5.1)
  have sz_1_4 := (Nat.le_trans sz_1_3 K6.1)
  have sz_1_5 := (Nat.le_trans sz_1_4 K12.1)
  have sz_1_6 := (Nat.le_trans sz_1_5 K13.1)
  have sz_1_7 := (Nat.le_trans sz_1_6 K14.1)
  have sz_1_8 := (Nat.le_trans sz_1_7 K15.1)
  have sz_1_9 := (Nat.le_trans sz_1_8 K16.1)
  have f30 := (kFld K27 (kFld K26 (kFld K25 (kFld K24 (kFld K23 (kFld K22 (kFld K16 (kFld K15 (kFld K14 (kFld K13 (kFld K12 Q6_2 nw0) nw0) (nwS (Or.inl (lt_ne (Nat.lt_of_lt_of_le lt_b3 sz_1_5) ge_b13)) nw0)) (nwS (Or.inl (lt_ne (Nat.lt_of_lt_of_le lt_b3 sz_1_5) ge_b13)) nw0)) (nwS (Or.inl (lt_ne (Nat.lt_of_lt_of_le lt_b3 sz_1_4) ge_b12)) (nwS (Or.inl (lt_ne (Nat.lt_of_lt_of_le lt_b3 sz_1_4) ge_b12)) nw0))) nw0) (nwS (Or.inl (lt_ne (Nat.lt_of_lt_of_le lt_b3 sz_1_9) ge_b22)) nw0)) (nwS (Or.inl (lt_ne (Nat.lt_of_lt_of_le lt_b3 sz_1_9) ge_b22)) nw0)) (nwS (Or.inl (lt_ne (Nat.lt_of_lt_of_le lt_b3 sz_1_9) ge_b22)) nw0)) (nwS (Or.inl (lt_ne (Nat.lt_of_lt_of_le lt_b3 sz_1_9) ge_b22)) nw0)) nw0)
  have lt_b1_5_3_6 : b1_5_3_6 < T6.heap.size := Arv.lt Q6_3
  have sz_4_6 := (Nat.le_trans K12.1 K13.1)
  have sz_4_7 := (Nat.le_trans sz_4_6 K14.1)
  have sz_4_8 := (Nat.le_trans sz_4_7 K15.1)
  have sz_4_9 := (Nat.le_trans sz_4_8 K16.1)
  have f31 := (kArv K27 (kArv K26 (kArv K25 (kArv K24 (kArv K23 (kArv K22 (kArv K16 (kArv K15 (kArv K14 (kArv K13 (kArv K12 Q6_3 na0) na0) (naN (Ne.symm (lt_ne (Nat.lt_of_lt_of_le lt_b1_5_3_6 K12.1) ge_b13)) na0)) (naN (Ne.symm (lt_ne (Nat.lt_of_lt_of_le lt_b1_5_3_6 K12.1) ge_b13)) na0)) (naN (Ne.symm (lt_ne lt_b1_5_3_6 ge_b12)) (naN (Ne.symm (lt_ne lt_b1_5_3_6 ge_b12)) na0))) na0) (naN (Ne.symm (lt_ne (Nat.lt_of_lt_of_le lt_b1_5_3_6 sz_4_9) ge_b22)) na0)) (naN (Ne.symm (lt_ne (Nat.lt_of_lt_of_le lt_b1_5_3_6 sz_4_9) ge_b22)) na0)) (naN (Ne.symm (lt_ne (Nat.lt_of_lt_of_le lt_b1_5_3_6 sz_4_9) ge_b22)) na0)) (naN (Ne.symm (lt_ne (Nat.lt_of_lt_of_le lt_b1_5_3_6 sz_4_9) ge_b22)) na0)) na0)
  have f32 := (kFld K27 (kFld K26 (kFld K25 (kFld K24 (kFld K23 (kFld K22 (kFld K16 (kFld K15 (kFld K14 (kFld K13 (kFld K12 Q6_1 nw0) nw0) (nwS (Or.inl (lt_ne (Nat.lt_of_lt_of_le lt_b3 sz_1_5) ge_b13)) nw0)) (nwS (Or.inl (lt_ne (Nat.lt_of_lt_of_le lt_b3 sz_1_5) ge_b13)) nw0)) (nwS (Or.inl (lt_ne (Nat.lt_of_lt_of_le lt_b3 sz_1_4) ge_b12)) (nwS (Or.inl (lt_ne (Nat.lt_of_lt_of_le lt_b3 sz_1_4) ge_b12)) nw0))) nw0) (nwS (Or.inl (lt_ne (Nat.lt_of_lt_of_le lt_b3 sz_1_9) ge_b22)) nw0)) (nwS (Or.inl (lt_ne (Nat.lt_of_lt_of_le lt_b3 sz_1_9) ge_b22)) nw0)) (nwS (Or.inl (lt_ne (Nat.lt_of_lt_of_le lt_b3 sz_1_9) ge_b22)) nw0)) (nwS (Or.inl (lt_ne (Nat.lt_of_lt_of_le lt_b3 sz_1_9) ge_b22)) nw0)) nw0)
  have f33 := (kOld K27 (kOld K26 (kOld K25 (kOld K24 (kOld K23 (kOld K22 (kOld K16 f20 (naS (P := fun w => n0 ≤ w.1) (Nat.le_trans Z0 (Nat.le_trans sz_0_4 ge_b12)) (naS (P := fun w => n0 ≤ w.1) (Nat.le_trans Z0 (Nat.le_trans sz_0_4 ge_b12)) na0))) na0) (naS (P := fun w => n0 ≤ w.1) (Nat.le_trans Z0 (Nat.le_trans sz_0_9 ge_b22)) na0)) (naS (P := fun w => n0 ≤ w.1) (Nat.le_trans Z0 (Nat.le_trans sz_0_9 ge_b22)) na0)) (naS (P := fun w => n0 ≤ w.1) (Nat.le_trans Z0 (Nat.le_trans sz_0_9 ge_b22)) na0)) (naS (P := fun w => n0 ≤ w.1) (Nat.le_trans Z0 (Nat.le_trans sz_0_9 ge_b22)) na0)) na0)
  have f34 := (kExa K27 (kExa K26 (kExa K25 (kExa K24 (kExa K23 (kExa K22 (kExa K16 f18)))))))
  have sz_5_7 := (Nat.le_trans K13.1 K14.1)
  have sz_5_8 := (Nat.le_trans sz_5_7 K15.1)
  have sz_5_9 := (Nat.le_trans sz_5_8 K16.1)
  have f35 := (kFld K27 (kFld K26 (kFld K25 (kFld K24 (kFld K23 (kFld K22 Q16_2 nw0) (nwS (Or.inl (lt_ne (Nat.lt_of_lt_of_le lt_b12 sz_5_9) ge_b22)) nw0)) (nwS (Or.inl (lt_ne (Nat.lt_of_lt_of_le lt_b12 sz_5_9) ge_b22)) nw0)) (nwS (Or.inl (lt_ne (Nat.lt_of_lt_of_le lt_b12 sz_5_9) ge_b22)) nw0)) (nwS (Or.inl (lt_ne (Nat.lt_of_lt_of_le lt_b12 sz_5_9) ge_b22)) nw0)) nw0)
  have lt_b1_6_4_16 : b1_6_4_16 < T16.heap.size := Arv.lt Q16_3
  have f36 := (kArv K27 (kArv K26 (kArv K25 (kArv K24 (kArv K23 (kArv K22 Q16_3 na0) (naN (Ne.symm (lt_ne lt_b1_6_4_16 ge_b22)) na0)) (naN (Ne.symm (lt_ne lt_b1_6_4_16 ge_b22)) na0)) (naN (Ne.symm (lt_ne lt_b1_6_4_16 ge_b22)) na0)) (naN (Ne.symm (lt_ne lt_b1_6_4_16 ge_b22)) na0)) na0)
  have sz_0_10 := (Nat.le_trans sz_0_9 K22.1)
  have sz_0_11 := (Nat.le_trans sz_0_10 K23.1)
  have sz_0_12 := (Nat.le_trans sz_0_11 K24.1)
  have sz_0_13 := (Nat.le_trans sz_0_12 K25.1)
  have sz_0_14 := (Nat.le_trans sz_0_13 K26.1)
  have sz_0_15 := (Nat.le_trans sz_0_14 K27.1)
  obtain ⟨_, T28, L28, X28, hS28, hk28, hZ28, hown28, hQ28, hC28, st28⟩ := own_Hinit X27 hx hZ rfl hown (w37 hw) (w38 hw) (w36 hw) (w39 hw) (by decide) (r62__init_ l Z a0 hw [] b27 b3 b12 b1_5_3_6 ((own_sys p0).toInt8.toInt32) k1_5_3_6 cs b1_6_4_16 ((p1 &&& (255 : Int32)).toInt8.toInt32) (((own_u8 p1) &&& (255 : Int32)).toInt8.toInt32) k1_6_4_16 h27 n0 (Nat.le_trans Z0 sz_0_15) f29 f30 f31 sCS f32 f33 hcs (own_sysn _) f34 f35 f36 F_b27_system A27 (Nat.le_trans Z0 (Nat.le_trans sz_0_14 ge_b27)) F_b27_id) e27 (W := 1) (by decide) (g := (mkF m 304 #[vi p0, vi p1, vi ((own_sys p0)), vi ((own_sys (own_u8 p0))), vi 0, vi ((p1 &&& (255 : Int32))), vi (((own_u8 p1) &&& (255 : Int32))), vi 1, vr b3, vr b12, vr b22, .unset, .unset] [(.ref b12), (.ref b3), (.ref b27), (.ref b27)])) rfl hml.symm (argsL := [(.ref b3), (.ref b12)]) (rest := [(.ref b27)]) (lenOf pd_15 rfl) rfl rfl (own_wr rfl rfl) (hb hby at_304) hS0 (Nat.le_trans hk0 sz_0_15) (own_EW hw) Ah15.1 sf0
  obtain ⟨rfl, N28q, K28, Q28_0, Q28_1⟩ := hQ28
  have N28 := Fr.app N26 N28q
  have Ah16 := Ah15.trans hC28
  have f38 := (kOld K28 f33 (naS (P := fun w => n0 ≤ w.1) (Nat.le_trans Z0 (Nat.le_trans sz_0_14 ge_b27)) (naS (P := fun w => n0 ≤ w.1) (Nat.le_trans Z0 (Nat.le_trans sz_0_14 ge_b27)) na0)))
  have f39 := (kExa K28 f29)
  have sz_1_10 := (Nat.le_trans sz_1_9 K22.1)
  have sz_1_11 := (Nat.le_trans sz_1_10 K23.1)
  have sz_1_12 := (Nat.le_trans sz_1_11 K24.1)
  have sz_1_13 := (Nat.le_trans sz_1_12 K25.1)
  have sz_1_14 := (Nat.le_trans sz_1_13 K26.1)
  have f40 := (kFld K28 f30 (nwS (Or.inl (lt_ne (Nat.lt_of_lt_of_le lt_b3 sz_1_14) ge_b27)) (nwS (Or.inl (lt_ne (Nat.lt_of_lt_of_le lt_b3 sz_1_14) ge_b27)) nw0)))
  have sz_4_10 := (Nat.le_trans sz_4_9 K22.1)
  have sz_4_11 := (Nat.le_trans sz_4_10 K23.1)
  have sz_4_12 := (Nat.le_trans sz_4_11 K24.1)
  have sz_4_13 := (Nat.le_trans sz_4_12 K25.1)
  have sz_4_14 := (Nat.le_trans sz_4_13 K26.1)
  have f41 := (kArv K28 f31 (naN (Ne.symm (lt_ne (Nat.lt_of_lt_of_le lt_b1_5_3_6 sz_4_14) ge_b27)) (naN (Ne.symm (lt_ne (Nat.lt_of_lt_of_le lt_b1_5_3_6 sz_4_14) ge_b27)) na0)))
  have f42 := (kFld K28 f32 (nwS (Or.inl (lt_ne (Nat.lt_of_lt_of_le lt_b3 sz_1_14) ge_b27)) (nwS (Or.inl (lt_ne (Nat.lt_of_lt_of_le lt_b3 sz_1_14) ge_b27)) nw0)))
  have f43 := (kExa K28 f34)
  have sz_5_10 := (Nat.le_trans sz_5_9 K22.1)
  have sz_5_11 := (Nat.le_trans sz_5_10 K23.1)
  have sz_5_12 := (Nat.le_trans sz_5_11 K24.1)
  have sz_5_13 := (Nat.le_trans sz_5_12 K25.1)
  have sz_5_14 := (Nat.le_trans sz_5_13 K26.1)
  have f44 := (kFld K28 f35 (nwS (Or.inl (lt_ne (Nat.lt_of_lt_of_le lt_b12 sz_5_14) ge_b27)) (nwS (Or.inl (lt_ne (Nat.lt_of_lt_of_le lt_b12 sz_5_14) ge_b27)) nw0)))
  have sz_9_11 := (Nat.le_trans K22.1 K23.1)
  have sz_9_12 := (Nat.le_trans sz_9_11 K24.1)
  have sz_9_13 := (Nat.le_trans sz_9_12 K25.1)
  have sz_9_14 := (Nat.le_trans sz_9_13 K26.1)
  have f45 := (kArv K28 f36 (naN (Ne.symm (lt_ne (Nat.lt_of_lt_of_le lt_b1_6_4_16 sz_9_14) ge_b27)) (naN (Ne.symm (lt_ne (Nat.lt_of_lt_of_le lt_b1_6_4_16 sz_9_14) ge_b27)) na0)))
  have f46 := (kFld K28 (kFld K27 (kFld K26 (kFld K25 (kFld K24 (kFld K23 (kFld K22 Q16_1 nw0) (nwS (Or.inl (lt_ne (Nat.lt_of_lt_of_le lt_b12 sz_5_9) ge_b22)) nw0)) (nwS (Or.inl (lt_ne (Nat.lt_of_lt_of_le lt_b12 sz_5_9) ge_b22)) nw0)) (nwS (Or.inl (lt_ne (Nat.lt_of_lt_of_le lt_b12 sz_5_9) ge_b22)) nw0)) (nwS (Or.inl (lt_ne (Nat.lt_of_lt_of_le lt_b12 sz_5_9) ge_b22)) nw0)) nw0) (nwS (Or.inl (lt_ne (Nat.lt_of_lt_of_le lt_b12 sz_5_14) ge_b27)) (nwS (Or.inl (lt_ne (Nat.lt_of_lt_of_le lt_b12 sz_5_14) ge_b27)) nw0)))
  have sz_0_16 := (Nat.le_trans sz_0_15 K28.1)
  have f47 := (kExa K28 A27)
  obtain ⟨_, T37, L37, X37, hS37, hk37, hZ37, hown37, hQ37, hC37, st37⟩ := own_Hvirtual X28 hx hZ28 hown28 (w105 hw) (w106 hw) (nfS hZ28 (w108 hw)) (w108 hw) (w107 hw) (w36 hw) (w109 hw) (by decide) (r64_toString l Z a0 hw [] b27 cs b3 b1_5_3_6 ((own_sys p0).toInt8.toInt32) k1_5_3_6 b12 b1_6_4_16 ((p1 &&& (255 : Int32)).toInt8.toInt32) (((own_u8 p1) &&& (255 : Int32)).toInt8.toInt32) k1_6_4_16 T28.heap n0 (Nat.le_trans Z0 sz_0_16) sCS f38 hcs Q28_0 f39 f40 f41 f42 Q28_1 f43 f44 f45 f46) rfl f47 (W := 0) (by decide) (g := (mkF m 311 #[vi p0, vi p1, vi ((own_sys p0)), vi ((own_sys (own_u8 p0))), vi 0, vi ((p1 &&& (255 : Int32))), vi (((own_u8 p1) &&& (255 : Int32))), vi 1, vr b3, vr b12, vr b22, vr b27, .unset] [(.ref b27)])) rfl hml.symm (argsL := []) (rest := []) (lenOf pd_27 rfl) rfl rfl (own_wr rfl rfl) (hb hby at_311) hS28 hk28 (own_EW hw) Ah16.1 sf0
  obtain ⟨b1_42_37, b2_5_12_7_8_42_37, k2_5_12_7_8_42_37, rfl, N37q, K37, Q37_0, Q37_1, Q37_2, Q37_3, Q37_4, Q37_5, Q37_6⟩ := hQ37
  have N37 := Fr.app N28 N37q
  have Ah17 := Ah16.trans hC37
  obtain ⟨T50, h50, X50, e50, E50, A50, D50, -, st50⟩ := newO X37 hx hZ37 hown37 (w4 hw) (w5 hw) (w6 hw) rfl (g := (mkF m 318 #[vi p0, vi p1, vi ((own_sys p0)), vi ((own_sys (own_u8 p0))), vi 0, vi ((p1 &&& (255 : Int32))), vi (((own_u8 p1) &&& (255 : Int32))), vi 1, vr b3, vr b12, vr b22, vr b27, vr b1_42_37] [(.ref b1_42_37)])) rfl (hb hby at_318) (by decide) (by decide)
  obtain ⟨b50, g50⟩ : ∃ z, z = T37.heap.size := ⟨_, rfl⟩
  rw [← g50] at A50 D50 st50
  have ge_b50 : T37.heap.size ≤ b50 := Nat.le_of_eq g50.symm
  have K50 := KL.ofE E50
  have Ck17 := own_chK K50 na0 Ah17.1
  have Ah18 := Ah17.trans Ck17.1
  have F_b50_coder : Fd0 Z h50 b50 z0 := D50 (Or.inr (w31 hw)) (ty := .byte) (by decide)
  have F_b50_value : Fd1 Z h50 b50 .null := D50 (Or.inr (w33 hw)) (ty := (.array .byte)) (by decide)
  have lt_b22 : b22 < h22.size := Arv.lt V22
  have sz_10_12 := (Nat.le_trans K23.1 K24.1)
  have sz_10_13 := (Nat.le_trans sz_10_12 K25.1)
  have sz_10_14 := (Nat.le_trans sz_10_13 K26.1)
  have f52 := (kArv K50 (kArv K37 (kArv K28 (kArv K27 V26 na0) (naN (Ne.symm (lt_ne (Nat.lt_of_lt_of_le lt_b22 sz_10_14) ge_b27)) (naN (Ne.symm (lt_ne (Nat.lt_of_lt_of_le lt_b22 sz_10_14) ge_b27)) na0))) na0) na0)
  have f53 := (kOld K50 (kOld K37 f38 na0) na0)
  have sz_0_17 := (Nat.le_trans sz_0_16 K37.1)
  have sz_0_18 := (Nat.le_trans sz_0_17 K50.1)
  obtain ⟨_, T51, L51, X51, hQ51, st51⟩ := own_init X50 hx hZ37 rfl hown37 (w8 hw) (w9 hw) (w6 hw) (w10 hw) (by decide) (r80__init_ l Z a0 hw [] b50 b22 (own_sys p0) (58 : Int32) (p1 &&& (255 : Int32)) ((own_u8 p1) &&& (255 : Int32)) k22 cs h50 n0 (Nat.le_trans Z0 sz_0_18) f52 sCS F_b50_coder A50 F_b50_value f53 hcs (own_sysb _) (by decide) (own_m255b _) (own_m255b _) (Nat.le_trans Z0 (Nat.le_trans sz_0_17 ge_b50))) e50 (W := 2) (by decide) (g := (mkF m 324 #[vi p0, vi p1, vi ((own_sys p0)), vi ((own_sys (own_u8 p0))), vi 0, vi ((p1 &&& (255 : Int32))), vi (((own_u8 p1) &&& (255 : Int32))), vi 1, vr b3, vr b12, vr b22, vr b27, vr b1_42_37] [(.ref b22), (.ref b50), (.ref b50), (.ref b1_42_37)])) rfl hml.symm (argsL := [(.ref b22)]) (rest := [(.ref b50), (.ref b1_42_37)]) (lenOf pd_5 rfl) rfl rfl (own_wr rfl rfl) (hb hby at_324)
  obtain ⟨b1_8_6_51, k1_8_6_51, rfl, N51q, K51, Q51_0, Q51_1, Q51_2, Q51_3⟩ := hQ51
  have N51 := Fr.app N37 N51q
  have Ck18 := own_chK K51 (naF (Ck17.2 _ (Safe.new ge_b50)) (naF (Ck17.2 _ (Safe.new ge_b50)) na0)) Ah18.1
  have Ah19 := Ah18.trans Ck18.1
  have lt_b1_42_37 : b1_42_37 < T37.heap.size := Exa.lt Q37_3
  have f56 := (kExa K51 A50)
  have f57 := (kOld K51 f53 (naS (P := fun w => n0 ≤ w.1) (Nat.le_trans Z0 (Nat.le_trans sz_0_17 ge_b50)) (naS (P := fun w => n0 ≤ w.1) (Nat.le_trans Z0 (Nat.le_trans sz_0_17 ge_b50)) na0)))
  have f58 := (kFld K51 (kFld K50 Q37_4 nw0) (nwS (Or.inl (lt_ne lt_b1_42_37 ge_b50)) (nwS (Or.inl (lt_ne lt_b1_42_37 ge_b50)) nw0)))
  have f59 := (kFld K51 (kFld K50 Q37_5 nw0) (nwS (Or.inl (lt_ne lt_b1_42_37 ge_b50)) (nwS (Or.inl (lt_ne lt_b1_42_37 ge_b50)) nw0)))
  have lt_b2_5_12_7_8_42_37 : b2_5_12_7_8_42_37 < T37.heap.size := Arv.lt Q37_6
  have f60 := (kArv K51 (kArv K50 Q37_6 na0) (naN (Ne.symm (lt_ne lt_b2_5_12_7_8_42_37 ge_b50)) (naN (Ne.symm (lt_ne lt_b2_5_12_7_8_42_37 ge_b50)) na0)))
  have sz_0_19 := (Nat.le_trans sz_0_18 K51.1)
  have f61 := (kExa K51 (kExa K50 Q37_3))
  obtain ⟨_, T55, L55, X55, hQ55, st55⟩ := own_virtual X51 hx hZ37 hown37 (w209 hw) (w210 hw) (nfS hZ37 (w212 hw)) (w212 hw) (w211 hw) (w6 hw) (w213 hw) (by decide) (r85_equals l Z a0 hw [] b1_42_37 b50 cs b2_5_12_7_8_42_37 b1_8_6_51 ((own_sys p0).toInt8.toInt32) (58 : Int32) ((p1 &&& (255 : Int32)).toInt8.toInt32) (((own_u8 p1) &&& (255 : Int32)).toInt8.toInt32) k2_5_12_7_8_42_37 ((58 : Int32).toInt8.toInt32) k1_8_6_51 T51.heap n0 (Nat.le_trans Z0 sz_0_19) (lt_ne lt_b1_42_37 ge_b50) f56 sCS f57 hcs f58 Q51_1 f59 Q51_2 f60 Q51_3 (by decide)) rfl f61 (W := 0) (by decide) (g := (mkF m 327 #[vi p0, vi p1, vi ((own_sys p0)), vi ((own_sys (own_u8 p0))), vi 0, vi ((p1 &&& (255 : Int32))), vi (((own_u8 p1) &&& (255 : Int32))), vi 1, vr b3, vr b12, vr b22, vr b27, vr b1_42_37] [(.ref b50), (.ref b1_42_37)])) rfl hml.symm (argsL := [(.ref b50)]) (rest := []) (lenOf pd_29 rfl) rfl rfl (own_wr rfl rfl) (hb hby at_327)
  obtain ⟨rfl, N55q, e55⟩ := hQ55
  have N55 := Fr.app N51 N55q
  have sz_17_19 := (Nat.le_trans K50.1 K51.1)
  refine ⟨T55, _, some (.int 1), _, _, X55, hS37, (by rw [e55]; exact (Nat.le_trans hk37 sz_17_19)), (fun h => by cases h <;> rfl), ?_, (by rw [e55]; exact Ah19), hZ37, fun fs hr => ?_⟩
  · show Q_law n0 _ _
    exact ⟨rfl, N55⟩
  · refine t_iloadN 1 X0.here hx (hb hby at_0) rfl rfl ?_
    refine st1 _ ?_
    refine t_istoreN (pc' := 5) (L' := #[vi p0, vi p1, vi ((own_sys p0)), .unset, .unset, .unset, .unset, .unset, .unset, .unset, .unset, .unset, .unset]) X1.here hx (hb hby at_4) rfl rfl ?_
    refine t_iloadN 6 X1.here hx (hb hby at_5) rfl rfl ?_
    refine t_bipush 8 (r := 8) X1.here hx (hb hby at_6) (by decide) rfl ?_
    refine t_iushr 9 (r := (own_u8 p0)) X1.here hx (hb hby at_8) (Eq.refl (own_u8 p0)) rfl ?_
    refine st2 _ ?_
    refine t_istoreN (pc' := 13) (L' := #[vi p0, vi p1, vi ((own_sys p0)), vi ((own_sys (own_u8 p0))), .unset, .unset, .unset, .unset, .unset, .unset, .unset, .unset, .unset]) X2.here hx (hb hby at_12) rfl rfl ?_
    refine t_iloadN 14 X2.here hx (hb hby at_13) rfl rfl ?_
    refine t_bipush 16 (r := 16) X2.here hx (hb hby at_14) (by decide) rfl ?_
    refine t_iushr 17 (r := (own_u16 p0)) X2.here hx (hb hby at_16) (Eq.refl (own_u16 p0)) rfl ?_
    refine t_iconst 18 (r := 1) X2.here hx (hb hby at_17) (by decide) rfl ?_
    refine t_iand 19 X2.here hx (hb hby at_18) rfl rfl ?_
    refine t_ifYes (pc := 19) 26 X2.here hx (hb hby at_19) ((if0 _ _).trans (teq hp0).1) (by decide) (by decide) ?_
    refine t_iconst 27 (r := 0) X2.here hx (hb hby at_26) (by decide) rfl ?_
    refine t_istore (pc' := 29) (L' := #[vi p0, vi p1, vi ((own_sys p0)), vi ((own_sys (own_u8 p0))), vi 0, .unset, .unset, .unset, .unset, .unset, .unset, .unset, .unset]) X2.here hx (hb hby at_27) rfl rfl ?_
    refine t_iloadN 30 X2.here hx (hb hby at_29) rfl rfl ?_
    refine t_sipush 33 (r := 255) X2.here hx (hb hby at_30) (by decide) rfl ?_
    refine t_iand 34 X2.here hx (hb hby at_33) rfl rfl ?_
    refine t_i2c 35 (r := (p1 &&& (255 : Int32))) X2.here hx (hb hby at_34) (i2c_mask _) rfl ?_
    refine t_istore (pc' := 37) (L' := #[vi p0, vi p1, vi ((own_sys p0)), vi ((own_sys (own_u8 p0))), vi 0, vi ((p1 &&& (255 : Int32))), .unset, .unset, .unset, .unset, .unset, .unset, .unset]) X2.here hx (hb hby at_35) rfl rfl ?_
    refine t_iloadN 38 X2.here hx (hb hby at_37) rfl rfl ?_
    refine t_bipush 40 (r := 8) X2.here hx (hb hby at_38) (by decide) rfl ?_
    refine t_iushr 41 (r := (own_u8 p1)) X2.here hx (hb hby at_40) (Eq.refl (own_u8 p1)) rfl ?_
    refine t_sipush 44 (r := 255) X2.here hx (hb hby at_41) (by decide) rfl ?_
    refine t_iand 45 X2.here hx (hb hby at_44) rfl rfl ?_
    refine t_i2c 46 (r := ((own_u8 p1) &&& (255 : Int32))) X2.here hx (hb hby at_45) (i2c_mask _) rfl ?_
    refine t_istore (pc' := 48) (L' := #[vi p0, vi p1, vi ((own_sys p0)), vi ((own_sys (own_u8 p0))), vi 0, vi ((p1 &&& (255 : Int32))), vi (((own_u8 p1) &&& (255 : Int32))), .unset, .unset, .unset, .unset, .unset, .unset]) X2.here hx (hb hby at_46) rfl rfl ?_
    refine t_iloadN 49 X2.here hx (hb hby at_48) rfl rfl ?_
    refine t_bipush 51 (r := 16) X2.here hx (hb hby at_49) (by decide) rfl ?_
    refine t_iushr 52 (r := (own_u16 p1)) X2.here hx (hb hby at_51) (Eq.refl (own_u16 p1)) rfl ?_
    refine t_iconst 53 (r := 1) X2.here hx (hb hby at_52) (by decide) rfl ?_
    refine t_iand 54 X2.here hx (hb hby at_53) rfl rfl ?_
    refine t_ifNo 57 X2.here hx (hb hby at_54) ((if0 _ _).trans (feq hp1).1) rfl ?_
    refine t_iconst 58 (r := 1) X2.here hx (hb hby at_57) (by decide) rfl ?_
    refine t_goto (pc := 58) 62 X2.here hx (hb hby at_58) (by decide) (by decide) ?_
    refine t_istore (pc' := 64) (L' := #[vi p0, vi p1, vi ((own_sys p0)), vi ((own_sys (own_u8 p0))), vi 0, vi ((p1 &&& (255 : Int32))), vi (((own_u8 p1) &&& (255 : Int32))), vi 1, .unset, .unset, .unset, .unset, .unset]) X2.here hx (hb hby at_62) rfl rfl ?_
    refine t_iload 66 X2.here hx (hb hby at_64) rfl rfl ?_
    refine t_ifYes (pc := 66) 190 X2.here hx (hb hby at_66) (by decide) (by decide) (by decide) ?_
    refine st3 _ ?_
    refine t_dup 194 X3.here hx (hb hby at_193) rfl rfl ?_
    refine t_iconst 195 (r := 1) X3.here hx (hb hby at_194) (by decide) rfl ?_
    refine st4 _ ?_
    refine t_dup 198 X4.here hx (hb hby at_197) rfl rfl ?_
    refine t_iconst 199 (r := 0) X4.here hx (hb hby at_198) (by decide) rfl ?_
    refine t_iloadN 200 X4.here hx (hb hby at_199) rfl rfl ?_
    refine st5 _ ?_
    refine st6 _ ?_
    refine t_astore (pc' := 206) (L' := #[vi p0, vi p1, vi ((own_sys p0)), vi ((own_sys (own_u8 p0))), vi 0, vi ((p1 &&& (255 : Int32))), vi (((own_u8 p1) &&& (255 : Int32))), vi 1, vr b3, .unset, .unset, .unset, .unset]) X6.here hx (hb hby at_204) rfl rfl rfl ?_
    refine t_iload 208 X6.here hx (hb hby at_206) rfl rfl ?_
    refine t_ifNo 211 X6.here hx (hb hby at_208) (by decide) rfl ?_
    refine st12 _ ?_
    refine t_dup 215 X12.here hx (hb hby at_214) rfl rfl ?_
    refine t_iconst 216 (r := 2) X12.here hx (hb hby at_215) (by decide) rfl ?_
    refine st13 _ ?_
    refine t_dup 219 X13.here hx (hb hby at_218) rfl rfl ?_
    refine t_iconst 220 (r := 0) X13.here hx (hb hby at_219) (by decide) rfl ?_
    refine t_iload 222 X13.here hx (hb hby at_220) rfl rfl ?_
    refine st14 _ ?_
    refine t_dup 224 X14.here hx (hb hby at_223) rfl rfl ?_
    refine t_iconst 225 (r := 1) X14.here hx (hb hby at_224) (by decide) rfl ?_
    refine t_iload 227 X14.here hx (hb hby at_225) rfl rfl ?_
    refine st15 _ ?_
    refine st16 _ ?_
    refine t_astore (pc' := 233) (L' := #[vi p0, vi p1, vi ((own_sys p0)), vi ((own_sys (own_u8 p0))), vi 0, vi ((p1 &&& (255 : Int32))), vi (((own_u8 p1) &&& (255 : Int32))), vi 1, vr b3, vr b12, .unset, .unset, .unset]) X16.here hx (hb hby at_231) rfl rfl rfl ?_
    refine t_iconst 234 (r := 4) X16.here hx (hb hby at_233) (by decide) rfl ?_
    refine st22 _ ?_
    refine t_dup 237 X22.here hx (hb hby at_236) rfl rfl ?_
    refine t_iconst 238 (r := 0) X22.here hx (hb hby at_237) (by decide) rfl ?_
    refine t_iloadN 239 X22.here hx (hb hby at_238) rfl rfl ?_
    refine st23 _ ?_
    refine t_dup 241 X23.here hx (hb hby at_240) rfl rfl ?_
    refine t_iconst 242 (r := 1) X23.here hx (hb hby at_241) (by decide) rfl ?_
    refine t_bipush 244 (r := 58) X23.here hx (hb hby at_242) (by decide) rfl ?_
    refine st24 _ ?_
    refine t_dup 246 X24.here hx (hb hby at_245) rfl rfl ?_
    refine t_iconst 247 (r := 2) X24.here hx (hb hby at_246) (by decide) rfl ?_
    refine t_iload 249 X24.here hx (hb hby at_247) rfl rfl ?_
    refine st25 _ ?_
    refine t_dup 251 X25.here hx (hb hby at_250) rfl rfl ?_
    refine t_iconst 252 (r := 3) X25.here hx (hb hby at_251) (by decide) rfl ?_
    refine t_iload 254 X25.here hx (hb hby at_252) rfl rfl ?_
    refine st26 _ ?_
    refine t_astore (pc' := 257) (L' := #[vi p0, vi p1, vi ((own_sys p0)), vi ((own_sys (own_u8 p0))), vi 0, vi ((p1 &&& (255 : Int32))), vi (((own_u8 p1) &&& (255 : Int32))), vi 1, vr b3, vr b12, vr b22, .unset, .unset]) X26.here hx (hb hby at_255) rfl rfl rfl ?_
    refine t_goto (pc := 257) 296 X26.here hx (hb hby at_257) (by decide) (by decide) ?_
    refine st27 _ ?_
    refine t_dup 300 X27.here hx (hb hby at_299) rfl rfl ?_
    refine t_aload 302 X27.here hx (hb hby at_300) rfl rfl rfl ?_
    refine t_aload 304 X27.here hx (hb hby at_302) rfl rfl rfl ?_
    refine st28 _ ?_
    refine t_astore (pc' := 309) (L' := #[vi p0, vi p1, vi ((own_sys p0)), vi ((own_sys (own_u8 p0))), vi 0, vi ((p1 &&& (255 : Int32))), vi (((own_u8 p1) &&& (255 : Int32))), vi 1, vr b3, vr b12, vr b22, vr b27, .unset]) X28.here hx (hb hby at_307) rfl rfl rfl ?_
    refine t_aload 311 X28.here hx (hb hby at_309) rfl rfl rfl ?_
    refine st37 _ ?_
    refine t_astore (pc' := 316) (L' := #[vi p0, vi p1, vi ((own_sys p0)), vi ((own_sys (own_u8 p0))), vi 0, vi ((p1 &&& (255 : Int32))), vi (((own_u8 p1) &&& (255 : Int32))), vi 1, vr b3, vr b12, vr b22, vr b27, vr b1_42_37]) X37.here hx (hb hby at_314) rfl rfl rfl ?_
    refine t_aload 318 X37.here hx (hb hby at_316) rfl rfl rfl ?_
    refine st50 _ ?_
    refine t_dup 322 X50.here hx (hb hby at_321) rfl rfl ?_
    refine t_aload 324 X50.here hx (hb hby at_322) rfl rfl rfl ?_
    refine st51 _ ?_
    refine st55 _ ?_
    exact retN X55 hx (t := .boolean) hret (by simp) (hb hby at_330) hr
def Q_r91_min (Z : State)  (h0 : Heap) (n0 : Nat) (v : Option Value) (h : Heap) (L : List Loc) : Prop := v = some (.int 2) ∧ Fr n0 L ∧ h = h0
theorem ef_r91_min (m : MethodId) : entryFrame m #[(.int 2), (.int 2)] 2 = mkF m 0 #[.val (.int 2), .val (.int 2)] [] := by first | (simp [entryFrame, mkF, argsToLocals, Value.category]; done) | rfl
set_option maxRecDepth 65536 in
set_option maxHeartbeats 40000000 in
theorem r91_min (l : Launch) (Z : State) (a0 : Array Value) (hw : HW Z a0) (ws : List Jvm.Cond)  (h0 : Heap) (n0 : Nat) (Z0 : n0 ≤ h0.size) :
    MF l Z y14_min b18_ 2 (some .int) ws ⟨0, 0, 0, 0⟩ #[(.int 2), (.int 2)] h0 (Q_r91_min Z  h0 n0) := by
  refine own_body (Jvm.Free.JP.mathPlain rfl (by decide +kernel)) (ef_r91_min) (by decide) (by decide) ?_
  intro p e s m below meth c s₁ hx hby hml hown hnm hret hZ hh e0 X0
  have N0 := Fr.nil n0
  refine ⟨s₁, _, some (.int 2), X0, (fun h => by cases h <;> rfl), ?_, fun fs hr => ?_⟩
  · show Q_r91_min Z  h0 n0 _ s₁.heap _
    rw [e0]
    exact ⟨rfl, N0, rfl⟩
  · refine t_iloadN 1 X0.here hx (hb hby d175) rfl rfl ?_
    refine t_iloadN 2 X0.here hx (hb hby d176) rfl rfl ?_
    refine t_icmpNo 5 X0.here hx (hb hby d177) (by decide) rfl ?_
    refine t_iloadN 6 X0.here hx (hb hby d178) rfl rfl ?_
    refine t_goto (pc := 6) 10 X0.here hx (hb hby d179) (by decide) (by decide) ?_
    exact retI X0 hx hret (hb hby d180) hr
def Q_r92_indexOfChar (Z : State) (o0 : Addr) (i_1 i_2 : Int32) (k_o0 : ClassId) (h0 : Heap) (n0 : Nat) (v : Option Value) (h : Heap) (L : List Loc) : Prop := v = some (.int (-1)) ∧ Fr n0 L ∧ h = h0
theorem ef_r92_indexOfChar (o0 : Addr) (m : MethodId) : entryFrame m #[(.ref o0), (.int 58), (.int 0), (.int 2)] 6 = mkF m 0 #[.val (.ref o0), .val (.int 58), .val (.int 0), .val (.int 2), .unset, .unset] [] := by first | (simp [entryFrame, mkF, argsToLocals, Value.category]; done) | rfl
set_option maxRecDepth 65536 in
set_option maxHeartbeats 40000000 in
theorem r92_indexOfChar (l : Launch) (Z : State) (a0 : Array Value) (hw : HW Z a0) (ws : List Jvm.Cond) (o0 : Addr) (i_1 i_2 : Int32) (k_o0 : ClassId) (h0 : Heap) (n0 : Nat) (Z0 : n0 ≤ h0.size) (V_o0 : Arv Z h0 o0 k_o0 .byte 2 [(.int i_1), (.int i_2)] z0) (hp0 : ¬ (i_1 = (58 : Int32))) (hp1 : ¬ (i_2 = (58 : Int32))) :
    MF l Z y15_indexOfChar b19_ 6 (some .int) ws ⟨0, 0, 0, 0⟩ #[(.ref o0), (.int 58), z0, (.int 2)] h0 (Q_r92_indexOfChar Z o0 i_1 i_2 k_o0 h0 n0) := by
  refine own_body (plainFor_of_name pn_StringLatin1120) (ef_r92_indexOfChar o0) (by decide) (by decide) ?_
  intro p e s m below meth c s₁ hx hby hml hown hnm hret hZ hh e0 X0
  have N0 := Fr.nil n0
  refine ⟨s₁, _, some (.int (-1)), X0, (fun h => by cases h <;> rfl), ?_, fun fs hr => ?_⟩
  · show Q_r92_indexOfChar Z o0 i_1 i_2 k_o0 h0 n0 _ s₁.heap _
    rw [e0]
    exact ⟨rfl, N0, rfl⟩
  · refine t_iloadN 1 X0.here hx (hb hby d190) rfl rfl ?_
    refine t_i2b 2 (r := 58) X0.here hx (hb hby d191) (by decide : ((58 : Int32).toInt8.toInt32) = (58 : Int32)) rfl ?_
    refine t_istore (pc' := 4) (L' := #[vr o0, vi 58, vi 0, vi 2, vi 58, .unset]) X0.here hx (hb hby d192) rfl rfl ?_
    refine t_iloadN 5 X0.here hx (hb hby d193) rfl rfl ?_
    refine t_istore (pc' := 7) (L' := #[vr o0, vi 58, vi 0, vi 2, vi 58, vi 0]) X0.here hx (hb hby d194) rfl rfl ?_
    refine t_iload 9 X0.here hx (hb hby d195) rfl rfl ?_
    refine t_iloadN 10 X0.here hx (hb hby d196) rfl rfl ?_
    refine t_icmpNo 13 X0.here hx (hb hby d197) (by decide) rfl ?_
    refine t_aloadN 14 X0.here hx (hb hby d198) rfl rfl rfl ?_
    refine t_iload 16 X0.here hx (hb hby d199) rfl rfl ?_
    refine own_aldB (pc' := 17) X0 hx hZ e0 V_o0 (j := 0) (v := (.int i_1)) (by decide) rfl (hb hby d200) rfl ?_
    refine t_iload 19 X0.here hx (hb hby d201) rfl rfl ?_
    refine t_icmpYes (pc := 19) 25 X0.here hx (hb hby d202) (feq hp0).2 (by decide) (by decide) ?_
    refine t_iinc (pc' := 28) (L' := #[vr o0, vi 58, vi 0, vi 2, vi 58, vi 1]) X0.here hx (hb hby d203) rfl (by first | rfl | decide) rfl ?_
    refine t_goto (pc := 28) 7 X0.here hx (hb hby d204) (by decide) (by decide) ?_
    refine t_iload 9 X0.here hx (hb hby d195) rfl rfl ?_
    refine t_iloadN 10 X0.here hx (hb hby d196) rfl rfl ?_
    refine t_icmpNo 13 X0.here hx (hb hby d197) (by decide) rfl ?_
    refine t_aloadN 14 X0.here hx (hb hby d198) rfl rfl rfl ?_
    refine t_iload 16 X0.here hx (hb hby d199) rfl rfl ?_
    refine own_aldB (pc' := 17) X0 hx hZ e0 V_o0 (j := 1) (v := (.int i_2)) (by decide) rfl (hb hby d200) rfl ?_
    refine t_iload 19 X0.here hx (hb hby d201) rfl rfl ?_
    refine t_icmpYes (pc := 19) 25 X0.here hx (hb hby d202) (feq hp1).2 (by decide) (by decide) ?_
    refine t_iinc (pc' := 28) (L' := #[vr o0, vi 58, vi 0, vi 2, vi 58, vi 2]) X0.here hx (hb hby d203) rfl (by first | rfl | decide) rfl ?_
    refine t_goto (pc := 28) 7 X0.here hx (hb hby d204) (by decide) (by decide) ?_
    refine t_iload 9 X0.here hx (hb hby d195) rfl rfl ?_
    refine t_iloadN 10 X0.here hx (hb hby d196) rfl rfl ?_
    refine t_icmpYes (pc := 10) 31 X0.here hx (hb hby d197) (by decide) (by decide) (by decide) ?_
    refine t_iconst 32 (r := (-1 : Int32)) X0.here hx (hb hby d205) (by decide) rfl ?_
    exact retI X0 hx hret (hb hby d206) hr
def Q_r90_indexOf (Z : State) (o0 : Addr) (i_3 i_4 : Int32) (k_o0 : ClassId) (h0 : Heap) (n0 : Nat) (v : Option Value) (h : Heap) (L : List Loc) : Prop := v = some (.int (-1)) ∧ Fr n0 L ∧ h = h0
theorem ef_r90_indexOf (o0 : Addr) (m : MethodId) : entryFrame m #[(.ref o0), (.int 58), (.int 0), (.int 2)] 4 = mkF m 0 #[.val (.ref o0), .val (.int 58), .val (.int 0), .val (.int 2)] [] := by first | (simp [entryFrame, mkF, argsToLocals, Value.category]; done) | rfl
set_option maxRecDepth 65536 in
set_option maxHeartbeats 40000000 in
theorem r90_indexOf (l : Launch) (Z : State) (a0 : Array Value) (hw : HW Z a0) (ws : List Jvm.Cond) (o0 : Addr) (i_3 i_4 : Int32) (k_o0 : ClassId) (h0 : Heap) (n0 : Nat) (Z0 : n0 ≤ h0.size) (V_o0 : Arv Z h0 o0 k_o0 .byte 2 [(.int i_3), (.int i_4)] z0) (hp0 : ¬ (i_3 = (58 : Int32))) (hp1 : ¬ (i_4 = (58 : Int32))) :
    MF l Z y16_indexOf b15_ 4 (some .int) ws ⟨1, 0, 0, 17⟩ #[(.ref o0), (.int 58), z0, (.int 2)] h0 (Q_r90_indexOf Z o0 i_3 i_4 k_o0 h0 n0) := by
  refine own_body (plainFor_of_name pn_StringLatin1120) (ef_r90_indexOf o0) (by decide) (by decide) ?_
  intro p e s m below meth c s₁ hx hby hml hown hnm hret hZ hh e0 X0
  have N0 := Fr.nil n0
  obtain ⟨_, T1, L1, X1, hQ1, st1⟩ := own_static X0 hx hZ hown (w88 hw) (w89 hw) (w86 hw) (w90 hw) (by decide) (r16_canEncode l Z a0 hw []  h0 n0 Z0) e0 (W := 0) (by decide) (g := (mkF m 1 #[vr o0, vi 58, vi 0, vi 2] [(.int 58)])) rfl hml.symm (argsL := [(.int 58)]) (rest := []) (lenOf pd_11 rfl) rfl rfl (own_wr rfl rfl) (hb hby d151)
  obtain ⟨rfl, N1q, e1⟩ := hQ1
  have N1 := Fr.app N0 N1q
  obtain ⟨_, T2, L2, X2, hQ2, st2⟩ := own_static X1 hx hZ hown (w91 hw) (w92 hw) (w93 hw) (w94 hw) (by decide) (r17_max l Z a0 hw []  h0 n0 Z0) e1 (W := 0) (by decide) (g := (mkF m 11 #[vr o0, vi 58, vi 0, vi 2] [z0, z0])) rfl hml.symm (argsL := [z0, z0]) (rest := []) (lenOf pd_12 rfl) rfl rfl (own_wr rfl rfl) (hb hby d163)
  obtain ⟨rfl, N2q, e2⟩ := hQ2
  have N2 := Fr.app N1 N2q
  obtain ⟨_, T5, L5, X5, hQ5, st5⟩ := own_static X2 hx hZ hown (w95 hw) (w96 hw) (w93 hw) (w97 hw) (by decide) (r91_min l Z a0 hw []  h0 n0 Z0) e2 (W := 0) (by decide) (g := (mkF m 18 #[vr o0, vi 58, vi 0, vi 2] [(.int 2), (.int 2)])) rfl hml.symm (argsL := [(.int 2), (.int 2)]) (rest := []) (lenOf pd_12 rfl) rfl rfl (own_wr rfl rfl) (hb hby d174)
  obtain ⟨rfl, N5q, e5⟩ := hQ5
  have N5 := Fr.app N2 N5q
  obtain ⟨_, T6, L6, X6, hQ6, st6⟩ := own_static X5 hx hZ hown (w98 hw) (w99 hw) (w86 hw) (w100 hw) (by decide) (r92_indexOfChar l Z a0 hw [] o0 i_3 i_4 k_o0 h0 n0 Z0 V_o0 hp0 hp1) e5 (W := 0) (by decide) (g := (mkF m 33 #[vr o0, vi 58, vi 0, vi 2] [(.int 2), z0, (.int 58), (.ref o0)])) rfl hml.symm (argsL := [(.ref o0), (.int 58), z0, (.int 2)]) (rest := []) (lenOf pd_13 rfl) rfl rfl (own_wr rfl rfl) (hb hby d189)
  obtain ⟨rfl, N6q, e6⟩ := hQ6
  have N6 := Fr.app N5 N6q
  refine ⟨T6, _, some (.int (-1)), X6, (fun h => by cases h <;> rfl), ?_, fun fs hr => ?_⟩
  · show Q_r90_indexOf Z o0 i_3 i_4 k_o0 h0 n0 _ T6.heap _
    rw [e6]
    exact ⟨rfl, N6, rfl⟩
  · refine t_iloadN 1 X0.here hx (hb hby d150) rfl rfl ?_
    refine st1 _ ?_
    refine t_ifYes (pc := 4) 9 X1.here hx (hb hby d160) (by decide) (by decide) (by decide) ?_
    refine t_iloadN 10 X1.here hx (hb hby d161) rfl rfl ?_
    refine t_iconst 11 (r := 0) X1.here hx (hb hby d162) (by decide) rfl ?_
    refine st2 _ ?_
    refine t_istoreN (pc' := 15) (L' := #[vr o0, vi 58, vi 0, vi 2]) X2.here hx (hb hby d170) rfl rfl ?_
    refine t_iloadN 16 X2.here hx (hb hby d171) rfl rfl ?_
    refine t_aloadN 17 X2.here hx (hb hby d172) rfl rfl rfl ?_
    refine own_arlen (pc' := 18) X2 hx hZ e2 V_o0 (hb hby d173) rfl ?_
    refine st5 _ ?_
    refine t_istoreN (pc' := 22) (L' := #[vr o0, vi 58, vi 0, vi 2]) X5.here hx (hb hby d181) rfl rfl ?_
    refine t_iloadN 23 X5.here hx (hb hby d182) rfl rfl ?_
    refine t_iloadN 24 X5.here hx (hb hby d183) rfl rfl ?_
    refine t_icmpYes (pc := 24) 29 X5.here hx (hb hby d184) (by decide) (by decide) (by decide) ?_
    refine t_aloadN 30 X5.here hx (hb hby d185) rfl rfl rfl ?_
    refine t_iloadN 31 X5.here hx (hb hby d186) rfl rfl ?_
    refine t_iloadN 32 X5.here hx (hb hby d187) rfl rfl ?_
    refine t_iloadN 33 X5.here hx (hb hby d188) rfl rfl ?_
    refine st6 _ ?_
    exact retI X6 hx hret (hb hby d207) hr
def Q_r89_indexOf (Z : State) (o0 : Addr) (i_1 : Int32) (o_3 : Addr) (i_5 i_6 : Int32) (k_o_3 : ClassId) (h0 : Heap) (n0 : Nat) (v : Option Value) (h : Heap) (L : List Loc) : Prop := v = some (.int (-1)) ∧ Fr n0 L ∧ h = h0
theorem ef_r89_indexOf (o0 : Addr) (m : MethodId) : entryFrame m #[(.ref o0), (.int 58), (.int 0)] 3 = mkF m 0 #[.val (.ref o0), .val (.int 58), .val (.int 0)] [] := by first | (simp [entryFrame, mkF, argsToLocals, Value.category]; done) | rfl
set_option maxRecDepth 65536 in
set_option maxHeartbeats 40000000 in
theorem r89_indexOf (l : Launch) (Z : State) (a0 : Array Value) (hw : HW Z a0) (ws : List Jvm.Cond) (o0 : Addr) (i_1 : Int32) (o_3 : Addr) (i_5 i_6 : Int32) (k_o_3 : ClassId) (h0 : Heap) (n0 : Nat) (Z0 : n0 ≤ h0.size) (E_o0 : Ex0 Z h0 o0) (sCS : SCS Z i_1) (F_o0_coder : Fd0 Z h0 o0 z0) (O0 : Old Z n0 h0) (hp0 : ¬ (i_1 = (0 : Int32))) (F_o0_value : Fd1 Z h0 o0 (.ref o_3)) (V_o_3 : Arv Z h0 o_3 k_o_3 .byte 2 [(.int i_5), (.int i_6)] z0) (hp1 : ¬ (i_5 = (58 : Int32))) (hp2 : ¬ (i_6 = (58 : Int32))) :
    MF l Z y17_indexOf b11_ 3 (some .int) ws ⟨2, 0, 0, 32⟩ #[(.ref o0), (.int 58), z0] h0 (Q_r89_indexOf Z o0 i_1 o_3 i_5 i_6 k_o_3 h0 n0) := by
  refine own_body (plainFor_of_name pn_String564) (ef_r89_indexOf o0) (by decide) (by decide) ?_
  intro p e s m below meth c s₁ hx hby hml hown hnm hret hZ hh e0 X0
  have N0 := Fr.nil n0
  obtain ⟨_, T2, L2, X2, hQ2, st2⟩ := own_virtual X0 hx hZ hown (w69 hw) (w70 hw) (nfS hZ (w72 hw)) (w72 hw) (w71 hw) (w6 hw) (w73 hw) (by decide) (r12_isLatin1 l Z a0 hw [] o0 i_1 h0 n0 Z0 sCS O0 hp0 F_o0_coder) e0 E_o0 (W := 0) (by decide) (g := (mkF m 1 #[vr o0, vi 58, vi 0] [(.ref o0)])) rfl hml.symm (argsL := []) (rest := []) (lenOf pd_8 rfl) rfl rfl (own_wr rfl rfl) (hb hby d120)
  obtain ⟨rfl, N2q, e2⟩ := hQ2
  have N2 := Fr.app N0 N2q
  obtain ⟨T4, X4, e4, st4⟩ := getF X2 hx hZ hown (host := "") (Or.inl (w32 hw)) Via.refl e2 F_o0_value (g := (mkF m 8 #[vr o0, vi 58, vi 0] [(.ref o0)])) rfl rfl (hb hby d131)
  obtain ⟨_, T7, L7, X7, hQ7, st7⟩ := own_virtual X4 hx hZ hown (w74 hw) (w75 hw) (nfS hZ (w77 hw)) (w77 hw) (w76 hw) (w6 hw) (w78 hw) (by decide) (r67_length l Z a0 hw [] o0 o_3 i_5 i_6 k_o_3 i_1 h0 n0 Z0 F_o0_value V_o_3 E_o0 sCS F_o0_coder O0 hp0) e4 E_o0 (W := 3) (by decide) (g := (mkF m 14 #[vr o0, vi 58, vi 0] [(.ref o0), z0, (.int 58), (.ref o_3)])) rfl hml.symm (argsL := []) (rest := [z0, (.int 58), (.ref o_3)]) (lenOf pd_10 rfl) rfl rfl (own_wr rfl rfl) (hb hby d135)
  obtain ⟨rfl, N7q, e7⟩ := hQ7
  have N7 := Fr.app N2 N7q
  obtain ⟨_, T8, L8, X8, hQ8, st8⟩ := own_static X7 hx hZ hown (w84 hw) (w85 hw) (w86 hw) (w87 hw) (by decide) (r90_indexOf l Z a0 hw [] o_3 i_5 i_6 k_o_3 h0 n0 Z0 V_o_3 hp1 hp2) e7 (W := 0) (by decide) (g := (mkF m 17 #[vr o0, vi 58, vi 0] [(.int 2), z0, (.int 58), (.ref o_3)])) rfl hml.symm (argsL := [(.ref o_3), (.int 58), z0, (.int 2)]) (rest := []) (lenOf pd_13 rfl) rfl rfl (own_wr rfl rfl) (hb hby d149)
  obtain ⟨rfl, N8q, e8⟩ := hQ8
  have N8 := Fr.app N7 N8q
  refine ⟨T8, _, some (.int (-1)), X8, (fun h => by cases h <;> rfl), ?_, fun fs hr => ?_⟩
  · show Q_r89_indexOf Z o0 i_1 o_3 i_5 i_6 k_o_3 h0 n0 _ T8.heap _
    rw [e8]
    exact ⟨rfl, N8, rfl⟩
  · refine t_aloadN 1 X0.here hx (hb hby d119) rfl rfl rfl ?_
    refine st2 _ ?_
    refine t_ifNo 7 X2.here hx (hb hby d129) (by decide) rfl ?_
    refine t_aloadN 8 X2.here hx (hb hby d130) rfl rfl rfl ?_
    refine st4 _ ?_
    refine t_iloadN 12 X4.here hx (hb hby d132) rfl rfl ?_
    refine t_iloadN 13 X4.here hx (hb hby d133) rfl rfl ?_
    refine t_aloadN 14 X4.here hx (hb hby d134) rfl rfl rfl ?_
    refine st7 _ ?_
    refine st8 _ ?_
    refine t_goto (pc := 20) 36 X8.here hx (hb hby d208) (by decide) (by decide) ?_
    exact retI X8 hx hret (hb hby d209) hr
def Q_r88_indexOf (Z : State) (o0 : Addr) (i_1 : Int32) (o_2 : Addr) (i_3 i_4 : Int32) (k_o_2 : ClassId) (h0 : Heap) (n0 : Nat) (v : Option Value) (h : Heap) (L : List Loc) : Prop := v = some (.int (-1)) ∧ Fr n0 L ∧ h = h0
theorem ef_r88_indexOf (o0 : Addr) (m : MethodId) : entryFrame m #[(.ref o0), (.int 58)] 2 = mkF m 0 #[.val (.ref o0), .val (.int 58)] [] := by first | (simp [entryFrame, mkF, argsToLocals, Value.category]; done) | rfl
set_option maxRecDepth 65536 in
set_option maxHeartbeats 40000000 in
theorem r88_indexOf (l : Launch) (Z : State) (a0 : Array Value) (hw : HW Z a0) (ws : List Jvm.Cond) (o0 : Addr) (i_1 : Int32) (o_2 : Addr) (i_3 i_4 : Int32) (k_o_2 : ClassId) (h0 : Heap) (n0 : Nat) (Z0 : n0 ≤ h0.size) (E_o0 : Ex0 Z h0 o0) (sCS : SCS Z i_1) (F_o0_coder : Fd0 Z h0 o0 z0) (F_o0_value : Fd1 Z h0 o0 (.ref o_2)) (V_o_2 : Arv Z h0 o_2 k_o_2 .byte 2 [(.int i_3), (.int i_4)] z0) (O0 : Old Z n0 h0) (hp0 : ¬ (i_1 = (0 : Int32))) (hp1 : ¬ (i_3 = (58 : Int32))) (hp2 : ¬ (i_4 = (58 : Int32))) :
    MF l Z y18_indexOf b10_ 2 (some .int) ws ⟨3, 0, 0, 46⟩ #[(.ref o0), (.int 58)] h0 (Q_r88_indexOf Z o0 i_1 o_2 i_3 i_4 k_o_2 h0 n0) := by
  refine own_body (plainFor_of_name pn_String564) (ef_r88_indexOf o0) (by decide) (by decide) ?_
  intro p e s m below meth c s₁ hx hby hml hown hnm hret hZ hh e0 X0
  have N0 := Fr.nil n0
  obtain ⟨_, T5, L5, X5, hQ5, st5⟩ := own_virtual X0 hx hZ hown (w64 hw) (w65 hw) (nfS hZ (w67 hw)) (w67 hw) (w66 hw) (w6 hw) (w68 hw) (by decide) (r89_indexOf l Z a0 hw [] o0 i_1 o_2 i_3 i_4 k_o_2 h0 n0 Z0 E_o0 sCS F_o0_coder O0 hp0 F_o0_value V_o_2 hp1 hp2) e0 E_o0 (W := 0) (by decide) (g := (mkF m 3 #[vr o0, vi 58] [z0, (.int 58), (.ref o0)])) rfl hml.symm (argsL := [(.int 58), z0]) (rest := []) (lenOf pd_12 rfl) rfl rfl (own_wr rfl rfl) (hb hby d118)
  obtain ⟨rfl, N5q, e5⟩ := hQ5
  have N5 := Fr.app N0 N5q
  refine ⟨T5, _, some (.int (-1)), X5, (fun h => by cases h <;> rfl), ?_, fun fs hr => ?_⟩
  · show Q_r88_indexOf Z o0 i_1 o_2 i_3 i_4 k_o_2 h0 n0 _ T5.heap _
    rw [e5]
    exact ⟨rfl, N5, rfl⟩
  · refine t_aloadN 1 X0.here hx (hb hby d115) rfl rfl rfl ?_
    refine t_iloadN 2 X0.here hx (hb hby d116) rfl rfl ?_
    refine t_iconst 3 (r := 0) X0.here hx (hb hby d117) (by decide) rfl ?_
    refine st5 _ ?_
    exact retI X5 hx hret (hb hby d210) hr
def WS_r87__init_ (Z : State) (o0 : Addr) : List (Addr × Nat) := [(o0, (sl2 Z)), (o0, (sl3 Z))]
def Q_r87__init_ (Z : State) (o0 o1 o2 o_6 : Addr) (i_7 i_8 : Int32) (k_o_6 : ClassId) (i_13 : Int32) (o_17 : Addr) (i_18 : Int32) (k_o_17 : ClassId) (h0 : Heap) (n0 : Nat) (v : Option Value) (h : Heap) (L : List Loc) : Prop := v = none ∧ Fr n0 L ∧ KL h0 h (WS_r87__init_ Z o0) ∧ Fd2 Z h o0 (.ref o1) ∧ Fd3 Z h o0 (.ref o2)
theorem ef_r87__init_ (o0 o1 o2 : Addr) (m : MethodId) : entryFrame m #[(.ref o0), (.ref o1), (.ref o2)] 3 = mkF m 0 #[.val (.ref o0), .val (.ref o1), .val (.ref o2)] [] := by first | (simp [entryFrame, mkF, argsToLocals, Value.category]; done) | rfl
set_option maxRecDepth 65536 in
set_option maxHeartbeats 40000000 in
theorem r87__init_ (l : Launch) (Z : State) (a0 : Array Value) (hw : HW Z a0) (ws : List Jvm.Cond) (o0 o1 o2 o_6 : Addr) (i_7 i_8 : Int32) (k_o_6 : ClassId) (i_13 : Int32) (o_17 : Addr) (i_18 : Int32) (k_o_17 : ClassId) (h0 : Heap) (n0 : Nat) (Z0 : n0 ≤ h0.size) (E_o1 : Ex0 Z h0 o1) (F_o1_value : Fd1 Z h0 o1 (.ref o_6)) (V_o_6 : Arv Z h0 o_6 k_o_6 .byte 2 [(.int i_7), (.int i_8)] z0) (sCS : SCS Z i_13) (F_o1_coder : Fd0 Z h0 o1 z0) (O0 : Old Z n0 h0) (hp0 : ¬ (i_13 = (0 : Int32))) (hp1 : ¬ (i_7 = (58 : Int32))) (hp2 : ¬ (i_8 = (58 : Int32))) (E_o2 : Ex0 Z h0 o2) (F_o2_value : Fd1 Z h0 o2 (.ref o_17)) (V_o_17 : Arv Z h0 o_17 k_o_17 .byte 1 [(.int i_18)] z0) (F_o0_system : Fd2 Z h0 o0 .null) (E_o0 : Ex1 Z h0 o0) (g_o0 : n0 ≤ o0) (F_o0_id : Fd3 Z h0 o0 .null) :
    OMH l Z consts_1 [] y19__init_ b6_ 3 none ws ⟨4, 4, 40, 59⟩ #[(.ref o0), (.ref o1), (.ref o2)] h0 (Q_r87__init_ Z o0 o1 o2 o_6 i_7 i_8 k_o_6 i_13 o_17 i_18 k_o_17 h0 n0) := by
  refine own_bodyH (k := 4) (n := 40) (own_EW hw) (plainFor_of_name pn_Identifier44) (ef_r87__init_ o0 o1 o2) (by decide) (by decide) ?_
  intro p e s m below meth c s₁ hx hby hml hown hnm hret hZ e0 hS0 hk0 X0 hC0 hSF0
  have N0 := Fr.nil n0
  obtain ⟨_, T1, L1, X1, hQ1, st1⟩ := own_init X0 hx hZ rfl hown (w40 hw) (w41 hw) (w43 hw) (w44 hw) (by decide) (r7__init_ l Z a0 hw [] o0 h0 n0 Z0) e0 (W := 0) (by decide) (g := (mkF m 1 #[vr o0, vr o1, vr o2] [(.ref o0)])) rfl hml.symm (argsL := []) (rest := []) (lenOf pd_6 rfl) rfl rfl (own_wr rfl rfl) (hb hby d87)
  obtain ⟨rfl, N1q, e1⟩ := hQ1
  have N1 := Fr.app N0 N1q
  obtain ⟨c2, T2, h2, k2, b2, kb2, X2, e2, E2, hS2, hk2, hZ2, hown2, Ex2, Fc2, Fv2, Ar2, lta2, ltb2, hC2, Lt2, hne2, st2⟩ := ldcCH X1 hx hZ hown (w46 hw) (own_wS hw) e1 hS0 hk0 (own_EW hw) (by decide) (CHr.refl hC0).1 (vs := [(.int 115), (.int 121), (.int 115), (.int 116), (.int 101), (.int 109)]) (z := 6) ⟨by decide, rfl⟩ (by decide) rfl (g := (mkF m 5 #[vr o0, vr o1, vr o2] [(.ref o1)])) rfl (hb hby d92) (n := 24) (by decide) (by decide) (by decide) (by decide)
  have K2 := KL.ofE E2
  have Ah1 := (CHr.refl hC0).trans hC2
  obtain ⟨_, T3, L3, X3, hQ3, st3⟩ := own_static X2 hx hZ2 hown2 (w49 hw) (w50 hw) (w51 hw) (w52 hw) (by decide) (r8_requireNonNull l Z a0 hw [] o1 c2 h2 n0 (Nat.le_trans Z0 K2.1)) e2 (W := 0) (by decide) (g := (mkF m 7 #[vr o0, vr o1, vr o2] [(.ref c2), (.ref o1)])) rfl hml.symm (argsL := [(.ref o1), (.ref c2)]) (rest := []) (lenOf pd_7 rfl) rfl rfl (own_wr rfl rfl) (hb hby d93)
  obtain ⟨rfl, N3q, e3⟩ := hQ3
  have N3 := Fr.app N1 N3q
  obtain ⟨c4, T4, h4, k4, b4, kb4, X4, e4, E4, hS4, hk4, hZ4, hown4, Ex4, Fc4, Fv4, Ar4, lta4, ltb4, hC4, Lt4, hne4, st4⟩ := ldcCH X3 hx hZ2 hown2 (w53 hw) (own_wS hw) e3 hS2 hk2 (own_EW hw) (by decide) Ah1.1 (vs := [(.int 105), (.int 100)]) (z := 2) ⟨by decide, rfl⟩ (by decide) rfl (g := (mkF m 12 #[vr o0, vr o1, vr o2] [(.ref o2)])) rfl (hb hby d100) (n := 8) (by decide) (by decide) (by decide) (by decide)
  have K4 := KL.ofE E4
  have Ah2 := Ah1.trans hC4
  have sz_0_2 := (Nat.le_trans K2.1 K4.1)
  obtain ⟨_, T5, L5, X5, hQ5, st5⟩ := own_static X4 hx hZ4 hown4 (w49 hw) (w50 hw) (w51 hw) (w52 hw) (by decide) (r8_requireNonNull l Z a0 hw [] o2 c4 h4 n0 (Nat.le_trans Z0 sz_0_2)) e4 (W := 0) (by decide) (g := (mkF m 14 #[vr o0, vr o1, vr o2] [(.ref c4), (.ref o2)])) rfl hml.symm (argsL := [(.ref o2), (.ref c4)]) (rest := []) (lenOf pd_7 rfl) rfl rfl (own_wr rfl rfl) (hb hby d101)
  obtain ⟨rfl, N5q, e5⟩ := hQ5
  have N5 := Fr.app N3 N5q
  have f10 := (kFld K4 (kFld K2 F_o1_value nw0) nw0)
  have f11 := (kArv K4 (kArv K2 V_o_6 na0) na0)
  have f12 := (kExa K4 (kExa K2 E_o1))
  obtain ⟨_, T9, L9, X9, hQ9, st9⟩ := own_virtual X5 hx hZ4 hown4 (w54 hw) (w55 hw) (nfS hZ4 (w57 hw)) (w57 hw) (w56 hw) (w6 hw) (w58 hw) (by decide) (r63_isEmpty l Z a0 hw [] o1 o_6 i_7 i_8 k_o_6 h4 n0 (Nat.le_trans Z0 sz_0_2) f10 f11) e5 f12 (W := 0) (by decide) (g := (mkF m 19 #[vr o0, vr o1, vr o2] [(.ref o1)])) rfl hml.symm (argsL := []) (rest := []) (lenOf pd_8 rfl) rfl rfl (own_wr rfl rfl) (hb hby d104)
  obtain ⟨rfl, N9q, e9⟩ := hQ9
  have N9 := Fr.app N5 N9q
  have f15 := (kFld K4 (kFld K2 F_o1_coder nw0) nw0)
  have f16 := (kOld K4 (kOld K2 O0 na0) na0)
  obtain ⟨_, T14, L14, X14, hQ14, st14⟩ := own_virtual X9 hx hZ4 hown4 (w59 hw) (w60 hw) (nfS hZ4 (w62 hw)) (w62 hw) (w61 hw) (w6 hw) (w63 hw) (by decide) (r88_indexOf l Z a0 hw [] o1 i_13 o_6 i_7 i_8 k_o_6 h4 n0 (Nat.le_trans Z0 sz_0_2) f12 sCS f15 f10 f11 f16 hp0 hp1 hp2) e9 f12 (W := 0) (by decide) (g := (mkF m 28 #[vr o0, vr o1, vr o2] [(.int 58), (.ref o1)])) rfl hml.symm (argsL := [(.int 58)]) (rest := []) (lenOf pd_14 rfl) rfl rfl (own_wr rfl rfl) (hb hby d114)
  obtain ⟨rfl, N14q, e14⟩ := hQ14
  have N14 := Fr.app N9 N14q
  have f20 := (kFld K4 (kFld K2 F_o2_value nw0) nw0)
  have f21 := (kArv K4 (kArv K2 V_o_17 na0) na0)
  have f22 := (kExa K4 (kExa K2 E_o2))
  obtain ⟨_, T19, L19, X19, hQ19, st19⟩ := own_virtual X14 hx hZ4 hown4 (w54 hw) (w55 hw) (nfS hZ4 (w57 hw)) (w57 hw) (w56 hw) (w6 hw) (w58 hw) (by decide) (r9_isEmpty l Z a0 hw [] o2 o_17 i_18 k_o_17 h4 n0 (Nat.le_trans Z0 sz_0_2) f20 f21) e14 f22 (W := 0) (by decide) (g := (mkF m 67 #[vr o0, vr o1, vr o2] [(.ref o2)])) rfl hml.symm (argsL := []) (rest := []) (lenOf pd_8 rfl) rfl rfl (own_wr rfl rfl) (hb hby d213)
  obtain ⟨rfl, N19q, e19⟩ := hQ19
  have N19 := Fr.app N14 N19q
  have f23 := (kFld K4 (kFld K2 F_o0_system nw0) nw0)
  have f24 := (kExa K4 (kExa K2 E_o0))
  obtain ⟨T25, h25, X25, e25, W25, st25⟩ := putF X19 hx hZ4 hown4 (host := "") (Or.inl (w101 hw)) Via.refl e19 f23 f24 (Or.inr ⟨(w102 hw), rfl, hnm⟩) (w35 hw) (ty := (.object "java/lang/String")) (by decide) rfl rfl (g := (mkF m 85 #[vr o0, vr o1, vr o2] [(.ref o1), (.ref o0)])) rfl rfl (hb hby d217)
  have K25 := KL.ofW W25
  have Ck2 := own_chK K25 (naF (Safe.exa hZ4.alike f24 (by decide) (by decide)) na0) Ah2.1
  have Ah3 := Ah2.trans Ck2.1
  have Fw25 : Fd2 Z h25 o0 (.ref o1) := Fld.same W25 f23
  have N25 := Fr.snoc X25 N19 g_o0
  have f26 := (kFld K25 (kFld K4 (kFld K2 F_o0_id nw0) nw0) (nwS (Or.inr (sn_2 hw)) nw0))
  have f27 := (kExa K25 f24)
  obtain ⟨T28, h28, X28, e28, W28, st28⟩ := putF X25 hx hZ4 hown4 (host := "") (Or.inl (w103 hw)) Via.refl e25 f26 f27 (Or.inr ⟨(w104 hw), rfl, hnm⟩) (w35 hw) (ty := (.object "java/lang/String")) (by decide) rfl rfl (g := (mkF m 90 #[vr o0, vr o1, vr o2] [(.ref o2), (.ref o0)])) rfl rfl (hb hby d220)
  have K28 := KL.ofW W28
  have Ck3 := own_chK K28 (naF (Safe.exa hZ4.alike f27 (by decide) (by decide)) na0) Ah3.1
  have Ah4 := Ah3.trans Ck3.1
  have Fw28 : Fd3 Z h28 o0 (.ref o2) := Fld.same W28 f26
  have N28 := Fr.snoc X28 N25 g_o0
  have C0 := (KL.refl h0 (WS_r87__init_ Z o0)).trans K2 na0
  have C1 := C0.trans K4 na0
  have C2 := C1.trans K25 (naO (own_mi 0 rfl) na0)
  have C3 := C2.trans K28 (naO (own_mi 1 rfl) na0)
  have f29 := (kFld K28 Fw25 (nwS (Or.inr (sn_3 hw)) nw0))
  have sz_2_4 := (Nat.le_trans K25.1 K28.1)
  refine ⟨T28, _, none, _, _, X28, hS4, (by rw [e28]; exact (Nat.le_trans hk4 sz_2_4)), (fun h => by cases h <;> rfl), ?_, (by rw [e28]; exact Ah4), hZ4, fun fs hr => ?_⟩
  · show Q_r87__init_ Z o0 o1 o2 o_6 i_7 i_8 k_o_6 i_13 o_17 i_18 k_o_17 h0 n0 _ T28.heap _
    rw [e28]
    exact ⟨rfl, N28, C3, f29, Fw28⟩
  · refine t_aloadN 1 X0.here hx (hb hby d86) rfl rfl rfl ?_
    refine st1 _ ?_
    refine t_aloadN 5 X1.here hx (hb hby d91) rfl rfl rfl ?_
    refine st2 _ ?_
    refine st3 _ ?_
    refine t_pop 11 X3.here hx (hb hby d98) rfl rfl ?_
    refine t_aloadN 12 X3.here hx (hb hby d99) rfl rfl rfl ?_
    refine st4 _ ?_
    refine st5 _ ?_
    refine t_pop 18 X5.here hx (hb hby d102) rfl rfl ?_
    refine t_aloadN 19 X5.here hx (hb hby d103) rfl rfl rfl ?_
    refine st9 _ ?_
    refine t_ifNo 25 X9.here hx (hb hby d111) (by decide) rfl ?_
    refine t_aloadN 26 X9.here hx (hb hby d112) rfl rfl rfl ?_
    refine t_bipush 28 (r := 58) X9.here hx (hb hby d113) (by decide) rfl ?_
    refine st14 _ ?_
    refine t_ifYes (pc := 31) 66 X14.here hx (hb hby d211) (by decide) (by decide) (by decide) ?_
    refine t_aloadN 67 X14.here hx (hb hby d212) rfl rfl rfl ?_
    refine st19 _ ?_
    refine t_ifYes (pc := 70) 83 X19.here hx (hb hby d214) (by decide) (by decide) (by decide) ?_
    refine t_aloadN 84 X19.here hx (hb hby d215) rfl rfl rfl ?_
    refine t_aloadN 85 X19.here hx (hb hby d216) rfl rfl rfl ?_
    refine st25 _ ?_
    refine t_aloadN 89 X25.here hx (hb hby d218) rfl rfl rfl ?_
    refine t_aloadN 90 X25.here hx (hb hby d219) rfl rfl rfl ?_
    refine st28 _ ?_
    exact X28.returnOut hx hret (hb hby d221) hr
def WS_r97_getBytes (Z : State) (o1 : Addr) : List (Addr × Nat) := [(o1, 0), (o1, 1), (o1, 2), (o1, 3), (o1, 4), (o1, 5), (o1, 6), (o1, 7), (o1, 8), (o1, 9), (o1, 10), (o1, 11), (o1, 12), (o1, 13), (o1, 14), (o1, 15)]
def Q_r97_getBytes (Z : State) (o0 o1 : Addr) (i_1 : Int32) (o_3 : Addr) (i_6 i_7 : Int32) (k_o_3 k_o1 : ClassId) (h0 : Heap) (n0 : Nat) (v : Option Value) (h : Heap) (L : List Loc) : Prop := v = none ∧ Fr n0 L ∧ KL h0 h (WS_r97_getBytes Z o1) ∧ Arv Z h o1 k_o1 .byte 16 [(.int i_6), (.int i_7), z0, z0, z0, z0, z0, z0, z0, z0, z0, z0, z0, z0, z0, z0] z0
theorem ef_r97_getBytes (o0 o1 : Addr) (m : MethodId) : entryFrame m #[(.ref o0), (.ref o1), (.int 0), (.int 0)] 4 = mkF m 0 #[.val (.ref o0), .val (.ref o1), .val (.int 0), .val (.int 0)] [] := by first | (simp [entryFrame, mkF, argsToLocals, Value.category]; done) | rfl
set_option maxRecDepth 65536 in
set_option maxHeartbeats 40000000 in
theorem r97_getBytes (l : Launch) (Z : State) (a0 : Array Value) (hw : HW Z a0) (ws : List Jvm.Cond) (o0 o1 : Addr) (i_1 : Int32) (o_3 : Addr) (i_6 i_7 : Int32) (k_o_3 k_o1 : ClassId) (h0 : Heap) (n0 : Nat) (Z0 : n0 ≤ h0.size) (E_o0 : Ex0 Z h0 o0) (sCS : SCS Z i_1) (F_o0_coder : Fd0 Z h0 o0 z0) (O0 : Old Z n0 h0) (hp0 : ¬ (i_1 = (0 : Int32))) (F_o0_value : Fd1 Z h0 o0 (.ref o_3)) (V_o_3 : Arv Z h0 o_3 k_o_3 .byte 2 [(.int i_6), (.int i_7)] z0) (V_o1 : Arv Z h0 o1 k_o1 .byte 16 [z0, z0, z0, z0, z0, z0, z0, z0, z0, z0, z0, z0, z0, z0, z0, z0] z0) (g_o1 : n0 ≤ o1) :
    MF l Z y24_getBytes b28_ 4 none ws ⟨1, 0, 0, 18⟩ #[(.ref o0), (.ref o1), z0, z0] h0 (Q_r97_getBytes Z o0 o1 i_1 o_3 i_6 i_7 k_o_3 k_o1 h0 n0) := by
  refine own_body (plainFor_of_name pn_String564) (ef_r97_getBytes o0 o1) (by decide) (by decide) ?_
  intro p e s m below meth c s₁ hx hby hml hown hnm hret hZ hh e0 X0
  have N0 := Fr.nil n0
  obtain ⟨_, T2, L2, X2, hQ2, st2⟩ := own_virtual X0 hx hZ hown (w79 hw) (w80 hw) (nfS hZ (w82 hw)) (w82 hw) (w81 hw) (w6 hw) (w83 hw) (by decide) (r14_coder l Z a0 hw [] o0 i_1 h0 n0 Z0 sCS O0 hp0 F_o0_coder) e0 E_o0 (W := 0) (by decide) (g := (mkF m 1 #[vr o0, vr o1, vi 0, vi 0] [(.ref o0)])) rfl hml.symm (argsL := []) (rest := []) (lenOf pd_9 rfl) rfl rfl (own_wr rfl rfl) (hb hby d295)
  obtain ⟨rfl, N2q, e2⟩ := hQ2
  have N2 := Fr.app N0 N2q
  obtain ⟨T4, X4, e4, st4⟩ := getF X2 hx hZ hown (host := "") (Or.inl (w32 hw)) Via.refl e2 F_o0_value (g := (mkF m 9 #[vr o0, vr o1, vi 0, vi 0] [(.ref o0)])) rfl rfl (hb hby d299)
  obtain ⟨T5, X5, e5, st5⟩ := getF X4 hx hZ hown (host := "") (Or.inl (w32 hw)) Via.refl e4 F_o0_value (g := (mkF m 18 #[vr o0, vr o1, vi 0, vi 0] [(.ref o0), z0, (.ref o1), z0, (.ref o_3)])) rfl rfl (hb hby d306)
  obtain ⟨T8, h8, L8, X8, e8, N8, Kp8, V8, st8⟩ := cpA X5 hx hZ hown (w162 hw) (w165 hw) (w163 hw) (w164 hw) e5 (us := [(.int i_6), (.int i_7)]) V_o_3 V_o1 (Or.inl ⟨rfl, rfl⟩) (by decide) (by decide) (by decide) (by decide) (by decide) rfl (by first | decide | exact Nat.le_of_ble_eq_true rfl) N2 g_o1 (g := (mkF m 22 #[vr o0, vr o1, vi 0, vi 0] [(.int 2), z0, (.ref o1), z0, (.ref o_3)])) rfl hml.symm rfl (hb hby d308) (by decide) (W := 0) (own_wr rfl rfl) (by decide)
  have K8 : KL h0 h8 [(o1, 0), (o1, 1), (o1, 2), (o1, 3), (o1, 4), (o1, 5), (o1, 6), (o1, 7), (o1, 8), (o1, 9), (o1, 10), (o1, 11), (o1, 12), (o1, 13), (o1, 14), (o1, 15)] := own_kcp Kp8 V_o1 (n := 16) rfl ⟨_, rfl⟩
  replace V8 : Arv Z h8 o1 k_o1 .byte 16 [(.int i_6), (.int i_7), z0, z0, z0, z0, z0, z0, z0, z0, z0, z0, z0, z0, z0, z0] z0 := V8
  have C0 := (KL.refl h0 (WS_r97_getBytes Z o1)).trans K8 (naO (own_mi 0 rfl) (naO (own_mi 1 rfl) (naO (own_mi 2 rfl) (naO (own_mi 3 rfl) (naO (own_mi 4 rfl) (naO (own_mi 5 rfl) (naO (own_mi 6 rfl) (naO (own_mi 7 rfl) (naO (own_mi 8 rfl) (naO (own_mi 9 rfl) (naO (own_mi 10 rfl) (naO (own_mi 11 rfl) (naO (own_mi 12 rfl) (naO (own_mi 13 rfl) (naO (own_mi 14 rfl) (naO (own_mi 15 rfl) na0))))))))))))))))
  refine ⟨T8, _, none, X8, (fun h => by cases h <;> rfl), ?_, fun fs hr => ?_⟩
  · show Q_r97_getBytes Z o0 o1 i_1 o_3 i_6 i_7 k_o_3 k_o1 h0 n0 _ T8.heap _
    rw [e8]
    exact ⟨rfl, N8, C0, V8⟩
  · refine t_aloadN 1 X0.here hx (hb hby d294) rfl rfl rfl ?_
    refine st2 _ ?_
    refine t_iloadN 5 X2.here hx (hb hby d296) rfl rfl ?_
    refine t_icmpNo 8 X2.here hx (hb hby d297) (by decide) rfl ?_
    refine t_aloadN 9 X2.here hx (hb hby d298) rfl rfl rfl ?_
    refine st4 _ ?_
    refine t_iconst 13 (r := 0) X4.here hx (hb hby d300) (by decide) rfl ?_
    refine t_aloadN 14 X4.here hx (hb hby d301) rfl rfl rfl ?_
    refine t_iloadN 15 X4.here hx (hb hby d302) rfl rfl ?_
    refine t_iloadN 16 X4.here hx (hb hby d303) rfl rfl ?_
    refine t_ishl 17 (r := 0) X4.here hx (hb hby d304) (by decide : ((0 : Int32) <<< ((0 : Int32) &&& 31)) = (0 : Int32)) rfl ?_
    refine t_aloadN 18 X4.here hx (hb hby d305) rfl rfl rfl ?_
    refine st5 _ ?_
    refine own_arlen (pc' := 22) X5 hx hZ e5 V_o_3 (hb hby d307) rfl ?_
    refine st8 _ ?_
    refine t_goto (pc := 25) 43 X8.here hx (hb hby d309) (by decide) (by decide) ?_
    exact X8.returnOut hx hret (hb hby d310) hr
def WS_r96_putStringAt (Z : State) (o_3 : Addr) : List (Addr × Nat) := [(o_3, 0), (o_3, 1), (o_3, 2), (o_3, 3), (o_3, 4), (o_3, 5), (o_3, 6), (o_3, 7), (o_3, 8), (o_3, 9), (o_3, 10), (o_3, 11), (o_3, 12), (o_3, 13), (o_3, 14), (o_3, 15)]
def Q_r96_putStringAt (Z : State) (o0 o2 : Addr) (i_1 : Int32) (o_3 o_6 : Addr) (i_7 i_8 : Int32) (k_o_6 k_o_3 : ClassId) (h0 : Heap) (n0 : Nat) (v : Option Value) (h : Heap) (L : List Loc) : Prop := v = none ∧ Fr n0 L ∧ KL h0 h (WS_r96_putStringAt Z o_3) ∧ Arv Z h o_3 k_o_3 .byte 16 [(.int i_7), (.int i_8), z0, z0, z0, z0, z0, z0, z0, z0, z0, z0, z0, z0, z0, z0] z0
theorem ef_r96_putStringAt (o0 o2 : Addr) (m : MethodId) : entryFrame m #[(.ref o0), (.int 0), (.ref o2)] 3 = mkF m 0 #[.val (.ref o0), .val (.int 0), .val (.ref o2)] [] := by first | (simp [entryFrame, mkF, argsToLocals, Value.category]; done) | rfl
set_option maxRecDepth 65536 in
set_option maxHeartbeats 40000000 in
theorem r96_putStringAt (l : Launch) (Z : State) (a0 : Array Value) (hw : HW Z a0) (ws : List Jvm.Cond) (o0 o2 : Addr) (i_1 : Int32) (o_3 o_6 : Addr) (i_7 i_8 : Int32) (k_o_6 k_o_3 : ClassId) (h0 : Heap) (n0 : Nat) (Z0 : n0 ≤ h0.size) (E_o0 : Ex2 Z h0 o0) (sCS : SCS Z i_1) (F_o0_coder : Fd5 Z h0 o0 z0) (E_o2 : Ex0 Z h0 o2) (F_o2_coder : Fd0 Z h0 o2 z0) (O0 : Old Z n0 h0) (hp0 : ¬ (i_1 = (0 : Int32))) (F_o0_value : Fd4 Z h0 o0 (.ref o_3)) (F_o2_value : Fd1 Z h0 o2 (.ref o_6)) (V_o_6 : Arv Z h0 o_6 k_o_6 .byte 2 [(.int i_7), (.int i_8)] z0) (V_o_3 : Arv Z h0 o_3 k_o_3 .byte 16 [z0, z0, z0, z0, z0, z0, z0, z0, z0, z0, z0, z0, z0, z0, z0, z0] z0) (g_o_3 : n0 ≤ o_3) :
    MF l Z y25_putStringAt b26_ 3 none ws ⟨2, 0, 0, 33⟩ #[(.ref o0), z0, (.ref o2)] h0 (Q_r96_putStringAt Z o0 o2 i_1 o_3 o_6 i_7 i_8 k_o_6 k_o_3 h0 n0) := by
  refine own_body (plainFor_of_name pn_AbstractStringBuilder101) (ef_r96_putStringAt o0 o2) (by decide) (by decide) ?_
  intro p e s m below meth c s₁ hx hby hml hown hnm hret hZ hh e0 X0
  have N0 := Fr.nil n0
  obtain ⟨_, T2, L2, X2, hQ2, st2⟩ := own_private X0 hx hZ hown (w151 hw) (w152 hw) (w144 hw) rfl (w153 hw) (w120 hw) (w155 hw) (by decide) (r27_inflateIfNeededFor l Z a0 hw [] o0 o2 i_1 h0 n0 Z0 sCS O0 hp0 F_o0_coder E_o2 F_o2_coder) e0 E_o0 (W := 0) (by decide) (g := (mkF m 2 #[vr o0, vi 0, vr o2] [(.ref o2), (.ref o0)])) rfl hml.symm (argsL := [(.ref o2)]) (rest := []) (lenOf pd_17 rfl) rfl rfl (own_wr rfl rfl) (hb hby d278)
  obtain ⟨rfl, N2q, e2⟩ := hQ2
  have N2 := Fr.app N0 N2q
  obtain ⟨T4, X4, e4, st4⟩ := getF X2 hx hZ hown (host := "") (Or.inl (w124 hw)) Via.refl e2 F_o0_value (g := (mkF m 7 #[vr o0, vi 0, vr o2] [(.ref o0), (.ref o2)])) rfl rfl (hb hby d289)
  obtain ⟨T5, X5, e5, st5⟩ := getF X4 hx hZ hown (host := "") (Or.inl (w126 hw)) Via.refl e4 F_o0_coder (g := (mkF m 12 #[vr o0, vi 0, vr o2] [(.ref o0), z0, (.ref o_3), (.ref o2)])) rfl rfl (hb hby d292)
  obtain ⟨_, T9, L9, X9, hQ9, st9⟩ := own_virtual X5 hx hZ hown (w157 hw) (w158 hw) (nfS hZ (w160 hw)) (w160 hw) (w159 hw) (w6 hw) (w161 hw) (by decide) (r97_getBytes l Z a0 hw [] o2 o_3 i_1 o_6 i_7 i_8 k_o_6 k_o_3 h0 n0 Z0 E_o2 sCS F_o2_coder O0 hp0 F_o2_value V_o_6 V_o_3 g_o_3) e5 E_o2 (W := 0) (by decide) (g := (mkF m 15 #[vr o0, vi 0, vr o2] [z0, z0, (.ref o_3), (.ref o2)])) rfl hml.symm (argsL := [(.ref o_3), z0, z0]) (rest := []) (lenOf pd_18 rfl) rfl rfl (own_wr rfl rfl) (hb hby d293)
  obtain ⟨rfl, N9q, K9, Q9_0⟩ := hQ9
  have N9 := Fr.app N2 N9q
  have C0 := (KL.refl h0 (WS_r96_putStringAt Z o_3)).trans K9 (naO (own_mi 0 rfl) (naO (own_mi 1 rfl) (naO (own_mi 2 rfl) (naO (own_mi 3 rfl) (naO (own_mi 4 rfl) (naO (own_mi 5 rfl) (naO (own_mi 6 rfl) (naO (own_mi 7 rfl) (naO (own_mi 8 rfl) (naO (own_mi 9 rfl) (naO (own_mi 10 rfl) (naO (own_mi 11 rfl) (naO (own_mi 12 rfl) (naO (own_mi 13 rfl) (naO (own_mi 14 rfl) (naO (own_mi 15 rfl) na0))))))))))))))))
  refine ⟨T9, _, none, X9, (fun h => by cases h <;> rfl), ?_, fun fs hr => ?_⟩
  · show Q_r96_putStringAt Z o0 o2 i_1 o_3 o_6 i_7 i_8 k_o_6 k_o_3 h0 n0 _ T9.heap _
    exact ⟨rfl, N9, C0, Q9_0⟩
  · refine t_aloadN 1 X0.here hx (hb hby d276) rfl rfl rfl ?_
    refine t_aloadN 2 X0.here hx (hb hby d277) rfl rfl rfl ?_
    refine st2 _ ?_
    refine t_aloadN 6 X2.here hx (hb hby d287) rfl rfl rfl ?_
    refine t_aloadN 7 X2.here hx (hb hby d288) rfl rfl rfl ?_
    refine st4 _ ?_
    refine t_iloadN 11 X4.here hx (hb hby d290) rfl rfl ?_
    refine t_aloadN 12 X4.here hx (hb hby d291) rfl rfl rfl ?_
    refine st5 _ ?_
    refine st9 _ ?_
    exact X9.returnOut hx hret (hb hby d311) hr
def WS_r95_append (Z : State) (o0 o_7 : Addr) : List (Addr × Nat) := [(o_7, 0), (o_7, 1), (o_7, 2), (o_7, 3), (o_7, 4), (o_7, 5), (o_7, 6), (o_7, 7), (o_7, 8), (o_7, 9), (o_7, 10), (o_7, 11), (o_7, 12), (o_7, 13), (o_7, 14), (o_7, 15), (o0, (sl6 Z))]
def Q_r95_append (Z : State) (o0 o1 o_1 : Addr) (i_2 i_3 : Int32) (k_o_1 : ClassId) (i_4 : Int32) (o_7 : Addr) (k_o_7 : ClassId) (h0 : Heap) (n0 : Nat) (v : Option Value) (h : Heap) (L : List Loc) : Prop := v = some (.ref o0) ∧ Fr n0 L ∧ KL h0 h (WS_r95_append Z o0 o_7) ∧ Arv Z h o_7 k_o_7 .byte 16 [(.int i_2), (.int i_3), z0, z0, z0, z0, z0, z0, z0, z0, z0, z0, z0, z0, z0, z0] z0 ∧ Fd6 Z h o0 (.int 2)
theorem ef_r95_append (o0 o1 : Addr) (m : MethodId) : entryFrame m #[(.ref o0), (.ref o1)] 3 = mkF m 0 #[.val (.ref o0), .val (.ref o1), .unset] [] := by first | (simp [entryFrame, mkF, argsToLocals, Value.category]; done) | rfl
set_option maxRecDepth 65536 in
set_option maxHeartbeats 40000000 in
theorem r95_append (l : Launch) (Z : State) (a0 : Array Value) (hw : HW Z a0) (ws : List Jvm.Cond) (o0 o1 o_1 : Addr) (i_2 i_3 : Int32) (k_o_1 : ClassId) (i_4 : Int32) (o_7 : Addr) (k_o_7 : ClassId) (h0 : Heap) (n0 : Nat) (Z0 : n0 ≤ h0.size) (E_o1 : Ex0 Z h0 o1) (F_o1_value : Fd1 Z h0 o1 (.ref o_1)) (V_o_1 : Arv Z h0 o_1 k_o_1 .byte 2 [(.int i_2), (.int i_3)] z0) (sCS : SCS Z i_4) (F_o1_coder : Fd0 Z h0 o1 z0) (O0 : Old Z n0 h0) (hp0 : ¬ (i_4 = (0 : Int32))) (F_o0_count : Fd6 Z h0 o0 z0) (E_o0 : Ex2 Z h0 o0) (F_o0_value : Fd4 Z h0 o0 (.ref o_7)) (V_o_7 : Arv Z h0 o_7 k_o_7 .byte 16 [z0, z0, z0, z0, z0, z0, z0, z0, z0, z0, z0, z0, z0, z0, z0, z0] z0) (F_o0_coder : Fd5 Z h0 o0 z0) (g_o_7 : n0 ≤ o_7) (ne_o0_o_7 : o0 ≠ o_7) (g_o0 : n0 ≤ o0) :
    MF l Z y26_append b24_ 3 (some (.object "java/lang/AbstractStringBuilder")) ws ⟨3, 0, 0, 47⟩ #[(.ref o0), (.ref o1)] h0 (Q_r95_append Z o0 o1 o_1 i_2 i_3 k_o_1 i_4 o_7 k_o_7 h0 n0) := by
  refine own_body (plainFor_of_name pn_AbstractStringBuilder101) (ef_r95_append o0 o1) (by decide) (by decide) ?_
  intro p e s m below meth c s₁ hx hby hml hown hnm hret hZ hh e0 X0
  have N0 := Fr.nil n0
  obtain ⟨_, T5, L5, X5, hQ5, st5⟩ := own_virtual X0 hx hZ hown (w138 hw) (w75 hw) (nfS hZ (w77 hw)) (w77 hw) (w76 hw) (w6 hw) (w78 hw) (by decide) (r67_length l Z a0 hw [] o1 o_1 i_2 i_3 k_o_1 i_4 h0 n0 Z0 F_o1_value V_o_1 E_o1 sCS F_o1_coder O0 hp0) e0 E_o1 (W := 0) (by decide) (g := (mkF m 10 #[vr o0, vr o1, .unset] [(.ref o1)])) rfl hml.symm (argsL := []) (rest := []) (lenOf pd_10 rfl) rfl rfl (own_wr rfl rfl) (hb hby d251)
  obtain ⟨rfl, N5q, e5⟩ := hQ5
  have N5 := Fr.app N0 N5q
  obtain ⟨T6, X6, e6, st6⟩ := getF X5 hx hZ hown (host := "") (Or.inl (w139 hw)) Via.refl e5 F_o0_count (g := (mkF m 16 #[vr o0, vr o1, vi 2] [(.ref o0), (.ref o0)])) rfl rfl (hb hby d255)
  obtain ⟨_, T8, L8, X8, hQ8, st8⟩ := own_private X6 hx hZ hown (w141 hw) (w142 hw) (w144 hw) rfl (w143 hw) (w120 hw) (w145 hw) (by decide) (r31_ensureCapacityInternal l Z a0 hw [] o0 o_7 (0 : Int32) k_o_7 h0 n0 Z0 F_o0_value V_o_7 F_o0_coder) e6 E_o0 (W := 0) (by decide) (g := (mkF m 21 #[vr o0, vr o1, vi 2] [(.int 2), (.ref o0)])) rfl hml.symm (argsL := [(.int 2)]) (rest := []) (lenOf pd_16 rfl) rfl rfl (own_wr rfl rfl) (hb hby d258)
  obtain ⟨rfl, N8q, e8⟩ := hQ8
  have N8 := Fr.app N5 N8q
  obtain ⟨T9, X9, e9, st9⟩ := getF X8 hx hZ hown (host := "") (Or.inl (w139 hw)) Via.refl e8 F_o0_count (g := (mkF m 26 #[vr o0, vr o1, vi 2] [(.ref o0), (.ref o0)])) rfl rfl (hb hby d273)
  obtain ⟨_, T10, L10, X10, hQ10, st10⟩ := own_private X9 hx hZ hown (w146 hw) (w147 hw) (w144 hw) rfl (w148 hw) (w120 hw) (w150 hw) (by decide) (r96_putStringAt l Z a0 hw [] o0 o1 i_4 o_7 o_1 i_2 i_3 k_o_1 k_o_7 h0 n0 Z0 E_o0 sCS F_o0_coder E_o1 F_o1_coder O0 hp0 F_o0_value F_o1_value V_o_1 V_o_7 g_o_7) e9 E_o0 (W := 0) (by decide) (g := (mkF m 30 #[vr o0, vr o1, vi 2] [(.ref o1), z0, (.ref o0)])) rfl hml.symm (argsL := [z0, (.ref o1)]) (rest := []) (lenOf pd_19 rfl) rfl rfl (own_wr rfl rfl) (hb hby d275)
  obtain ⟨rfl, N10q, K10, Q10_0⟩ := hQ10
  have N10 := Fr.app N8 N10q
  have f11 := (kFld K10 F_o0_count (nwB 16 rfl ne_o0_o_7))
  obtain ⟨T12, X12, e12, st12⟩ := getF X10 hx hZ hown (host := "") (Or.inl (w139 hw)) Via.refl rfl f11 (g := (mkF m 35 #[vr o0, vr o1, vi 2] [(.ref o0), (.ref o0)])) rfl rfl (hb hby d314)
  have f13 := (kExa K10 E_o0)
  obtain ⟨T14, h14, X14, e14, W14, st14⟩ := putF X12 hx hZ hown (host := "") (Or.inl (w139 hw)) Via.refl e12 f11 f13 (Or.inl (w140 hw)) (w111 hw) (ty := .int) (by decide) rfl rfl (g := (mkF m 40 #[vr o0, vr o1, vi 2] [(.int 2), (.ref o0)])) rfl rfl (hb hby d317)
  have K14 := KL.ofW W14
  have Fw14 : Fd6 Z h14 o0 (.int 2) := Fld.same W14 f11
  have N14 := Fr.snoc X14 N10 g_o0
  have C0 := (KL.refl h0 (WS_r95_append Z o0 o_7)).trans K10 (naO (own_mi 0 rfl) (naO (own_mi 1 rfl) (naO (own_mi 2 rfl) (naO (own_mi 3 rfl) (naO (own_mi 4 rfl) (naO (own_mi 5 rfl) (naO (own_mi 6 rfl) (naO (own_mi 7 rfl) (naO (own_mi 8 rfl) (naO (own_mi 9 rfl) (naO (own_mi 10 rfl) (naO (own_mi 11 rfl) (naO (own_mi 12 rfl) (naO (own_mi 13 rfl) (naO (own_mi 14 rfl) (naO (own_mi 15 rfl) na0))))))))))))))))
  have C1 := C0.trans K14 (naO (own_mi 16 rfl) na0)
  have f15 := (kArv K14 Q10_0 (naN ne_o0_o_7 na0))
  refine ⟨T14, _, some (.ref o0), X14, (fun h => by cases h <;> rfl), ?_, fun fs hr => ?_⟩
  · show Q_r95_append Z o0 o1 o_1 i_2 i_3 k_o_1 i_4 o_7 k_o_7 h0 n0 _ T14.heap _
    rw [e14]
    exact ⟨rfl, N14, C1, f15, Fw14⟩
  · refine t_aloadN 1 X0.here hx (hb hby d248) rfl rfl rfl ?_
    refine t_ifnonnullYes (pc := 1) 9 X0.here hx (hb hby d249) (by decide) (by decide) ?_
    refine t_aloadN 10 X0.here hx (hb hby d250) rfl rfl rfl ?_
    refine st5 _ ?_
    refine t_istoreN (pc' := 14) (L' := #[vr o0, vr o1, vi 2]) X5.here hx (hb hby d252) rfl rfl ?_
    refine t_aloadN 15 X5.here hx (hb hby d253) rfl rfl rfl ?_
    refine t_aloadN 16 X5.here hx (hb hby d254) rfl rfl rfl ?_
    refine st6 _ ?_
    refine t_iloadN 20 X6.here hx (hb hby d256) rfl rfl ?_
    refine t_iadd 21 (r := 2) X6.here hx (hb hby d257) (by decide : ((0 : Int32) + (2 : Int32)) = (2 : Int32)) rfl ?_
    refine st8 _ ?_
    refine t_aloadN 25 X8.here hx (hb hby d271) rfl rfl rfl ?_
    refine t_aloadN 26 X8.here hx (hb hby d272) rfl rfl rfl ?_
    refine st9 _ ?_
    refine t_aloadN 30 X9.here hx (hb hby d274) rfl rfl rfl ?_
    refine st10 _ ?_
    refine t_aloadN 34 X10.here hx (hb hby d312) rfl rfl rfl ?_
    refine t_dup 35 X10.here hx (hb hby d313) rfl rfl ?_
    refine st12 _ ?_
    refine t_iloadN 39 X12.here hx (hb hby d315) rfl rfl ?_
    refine t_iadd 40 (r := 2) X12.here hx (hb hby d316) (by decide : ((0 : Int32) + (2 : Int32)) = (2 : Int32)) rfl ?_
    refine st14 _ ?_
    refine t_aloadN 44 X14.here hx (hb hby d318) rfl rfl rfl ?_
    jvm_step X14.here [X14.here.top, hx, (hb hby d319), X14.method', hret, Value.isRef, FieldType.isReference]
    first | (intro acts; rw [hr _ acts rfl rfl rfl]) | rw [hr _ _ rfl rfl rfl]
    exact Steps.refl _
def WS_r94_append (Z : State) (o0 o_5 : Addr) : List (Addr × Nat) := [(o_5, 0), (o_5, 1), (o_5, 2), (o_5, 3), (o_5, 4), (o_5, 5), (o_5, 6), (o_5, 7), (o_5, 8), (o_5, 9), (o_5, 10), (o_5, 11), (o_5, 12), (o_5, 13), (o_5, 14), (o_5, 15), (o0, (sl6 Z))]
def Q_r94_append (Z : State) (o0 o1 o_1 : Addr) (i_2 i_3 : Int32) (k_o_1 : ClassId) (i_4 : Int32) (o_5 : Addr) (k_o_5 : ClassId) (h0 : Heap) (n0 : Nat) (v : Option Value) (h : Heap) (L : List Loc) : Prop := v = some (.ref o0) ∧ Fr n0 L ∧ KL h0 h (WS_r94_append Z o0 o_5) ∧ Arv Z h o_5 k_o_5 .byte 16 [(.int i_2), (.int i_3), z0, z0, z0, z0, z0, z0, z0, z0, z0, z0, z0, z0, z0, z0] z0 ∧ Fd6 Z h o0 (.int 2)
theorem ef_r94_append (o0 o1 : Addr) (m : MethodId) : entryFrame m #[(.ref o0), (.ref o1)] 2 = mkF m 0 #[.val (.ref o0), .val (.ref o1)] [] := by first | (simp [entryFrame, mkF, argsToLocals, Value.category]; done) | rfl
set_option maxRecDepth 65536 in
set_option maxHeartbeats 40000000 in
theorem r94_append (l : Launch) (Z : State) (a0 : Array Value) (hw : HW Z a0) (ws : List Jvm.Cond) (o0 o1 o_1 : Addr) (i_2 i_3 : Int32) (k_o_1 : ClassId) (i_4 : Int32) (o_5 : Addr) (k_o_5 : ClassId) (h0 : Heap) (n0 : Nat) (Z0 : n0 ≤ h0.size) (E_o0 : Ex2 Z h0 o0) (E_o1 : Ex0 Z h0 o1) (F_o1_value : Fd1 Z h0 o1 (.ref o_1)) (V_o_1 : Arv Z h0 o_1 k_o_1 .byte 2 [(.int i_2), (.int i_3)] z0) (sCS : SCS Z i_4) (F_o1_coder : Fd0 Z h0 o1 z0) (F_o0_count : Fd6 Z h0 o0 z0) (F_o0_value : Fd4 Z h0 o0 (.ref o_5)) (V_o_5 : Arv Z h0 o_5 k_o_5 .byte 16 [z0, z0, z0, z0, z0, z0, z0, z0, z0, z0, z0, z0, z0, z0, z0, z0] z0) (F_o0_coder : Fd5 Z h0 o0 z0) (O0 : Old Z n0 h0) (hp0 : ¬ (i_4 = (0 : Int32))) (g_o_5 : n0 ≤ o_5) (ne_o0_o_5 : o0 ≠ o_5) (g_o0 : n0 ≤ o0) :
    MF l Z y27_append b23_ 2 (some (.object "java/lang/StringBuilder")) ws ⟨4, 0, 0, 61⟩ #[(.ref o0), (.ref o1)] h0 (Q_r94_append Z o0 o1 o_1 i_2 i_3 k_o_1 i_4 o_5 k_o_5 h0 n0) := by
  refine own_body (plainFor_of_name pn_StringBuilder278) (ef_r94_append o0 o1) (by decide) (by decide) ?_
  intro p e s m below meth c s₁ hx hby hml hown hnm hret hZ hh e0 X0
  have N0 := Fr.nil n0
  obtain ⟨_, T6, L6, X6, hQ6, st6⟩ := own_super X0 hx hZ hown (w133 hw) (w134 hw) (w144 hw) rfl (w135 hw) (by decide) (w120 hw) (w137 hw) (by decide) (r95_append l Z a0 hw [] o0 o1 o_1 i_2 i_3 k_o_1 i_4 o_5 k_o_5 h0 n0 Z0 E_o1 F_o1_value V_o_1 sCS F_o1_coder O0 hp0 F_o0_count E_o0 F_o0_value V_o_5 F_o0_coder g_o_5 ne_o0_o_5 g_o0) e0 E_o0 (W := 0) (by decide) (g := (mkF m 2 #[vr o0, vr o1] [(.ref o1), (.ref o0)])) rfl hml.symm (argsL := [(.ref o1)]) (rest := []) (lenOf pd_20 rfl) rfl rfl (own_wr rfl rfl) (hb hby d247)
  obtain ⟨rfl, N6q, K6, Q6_0, Q6_1⟩ := hQ6
  have N6 := Fr.app N0 N6q
  have C0 := (KL.refl h0 (WS_r94_append Z o0 o_5)).trans K6 (naO (own_mi 0 rfl) (naO (own_mi 1 rfl) (naO (own_mi 2 rfl) (naO (own_mi 3 rfl) (naO (own_mi 4 rfl) (naO (own_mi 5 rfl) (naO (own_mi 6 rfl) (naO (own_mi 7 rfl) (naO (own_mi 8 rfl) (naO (own_mi 9 rfl) (naO (own_mi 10 rfl) (naO (own_mi 11 rfl) (naO (own_mi 12 rfl) (naO (own_mi 13 rfl) (naO (own_mi 14 rfl) (naO (own_mi 15 rfl) (naO (own_mi 16 rfl) na0)))))))))))))))))
  refine ⟨T6, _, some (.ref o0), X6, (fun h => by cases h <;> rfl), ?_, fun fs hr => ?_⟩
  · show Q_r94_append Z o0 o1 o_1 i_2 i_3 k_o_1 i_4 o_5 k_o_5 h0 n0 _ T6.heap _
    exact ⟨rfl, N6, C0, Q6_0, Q6_1⟩
  · refine t_aloadN 1 X0.here hx (hb hby d245) rfl rfl rfl ?_
    refine t_aloadN 2 X0.here hx (hb hby d246) rfl rfl rfl ?_
    refine st6 _ ?_
    refine t_pop 6 X6.here hx (hb hby d320) rfl rfl ?_
    refine t_aloadN 7 X6.here hx (hb hby d321) rfl rfl rfl ?_
    jvm_step X6.here [X6.here.top, hx, (hb hby d322), X6.method', hret, Value.isRef, FieldType.isReference]
    first | (intro acts; rw [hr _ acts rfl rfl rfl]) | rw [hr _ _ rfl rfl rfl]
    exact Steps.refl _
def Q_r100_ensureCapacityInternal (Z : State) (o0 o_1 : Addr) (i_3 i_4 i_5 : Int32) (k_o_1 : ClassId) (h0 : Heap) (n0 : Nat) (v : Option Value) (h : Heap) (L : List Loc) : Prop := v = none ∧ Fr n0 L ∧ h = h0
theorem ef_r100_ensureCapacityInternal (o0 : Addr) (m : MethodId) : entryFrame m #[(.ref o0), (.int 4)] 3 = mkF m 0 #[.val (.ref o0), .val (.int 4), .unset] [] := by first | (simp [entryFrame, mkF, argsToLocals, Value.category]; done) | rfl
set_option maxRecDepth 65536 in
set_option maxHeartbeats 40000000 in
theorem r100_ensureCapacityInternal (l : Launch) (Z : State) (a0 : Array Value) (hw : HW Z a0) (ws : List Jvm.Cond) (o0 o_1 : Addr) (i_3 i_4 i_5 : Int32) (k_o_1 : ClassId) (h0 : Heap) (n0 : Nat) (Z0 : n0 ≤ h0.size) (F_o0_value : Fd4 Z h0 o0 (.ref o_1)) (V_o_1 : Arv Z h0 o_1 k_o_1 .byte 16 [(.int i_3), (.int i_4), (.int i_5), z0, z0, z0, z0, z0, z0, z0, z0, z0, z0, z0, z0, z0] z0) (F_o0_coder : Fd5 Z h0 o0 z0) :
    MF l Z y22_ensureCapacityInternal b25_ 3 none ws ⟨0, 0, 0, 0⟩ #[(.ref o0), (.int 4)] h0 (Q_r100_ensureCapacityInternal Z o0 o_1 i_3 i_4 i_5 k_o_1 h0 n0) := by
  refine own_body (plainFor_of_name pn_AbstractStringBuilder101) (ef_r100_ensureCapacityInternal o0) (by decide) (by decide) ?_
  intro p e s m below meth c s₁ hx hby hml hown hnm hret hZ hh e0 X0
  have N0 := Fr.nil n0
  obtain ⟨T2, X2, e2, st2⟩ := getF X0 hx hZ hown (host := "") (Or.inl (w124 hw)) Via.refl e0 F_o0_value (g := (mkF m 1 #[vr o0, vi 4, .unset] [(.ref o0)])) rfl rfl (hb hby d260)
  obtain ⟨T6, X6, e6, st6⟩ := getF X2 hx hZ hown (host := "") (Or.inl (w126 hw)) Via.refl e2 F_o0_coder (g := (mkF m 6 #[vr o0, vi 4, .unset] [(.ref o0), (.int 16)])) rfl rfl (hb hby d263)
  refine ⟨T6, _, none, X6, (fun h => by cases h <;> rfl), ?_, fun fs hr => ?_⟩
  · show Q_r100_ensureCapacityInternal Z o0 o_1 i_3 i_4 i_5 k_o_1 h0 n0 _ T6.heap _
    rw [e6]
    exact ⟨rfl, N0, rfl⟩
  · refine t_aloadN 1 X0.here hx (hb hby d259) rfl rfl rfl ?_
    refine st2 _ ?_
    refine own_arlen (pc' := 5) X2 hx hZ e2 V_o_1 (hb hby d261) rfl ?_
    refine t_aloadN 6 X2.here hx (hb hby d262) rfl rfl rfl ?_
    refine st6 _ ?_
    refine t_ishr 10 (r := 16) X6.here hx (hb hby d264) (by decide : ((16 : Int32) >>> ((0 : Int32) &&& 31)) = (16 : Int32)) rfl ?_
    refine t_istoreN (pc' := 11) (L' := #[vr o0, vi 4, vi 16]) X6.here hx (hb hby d265) rfl rfl ?_
    refine t_iloadN 12 X6.here hx (hb hby d266) rfl rfl ?_
    refine t_iloadN 13 X6.here hx (hb hby d267) rfl rfl ?_
    refine t_isub 14 (r := (-12 : Int32)) X6.here hx (hb hby d268) (by decide : ((4 : Int32) - (16 : Int32)) = (-12 : Int32)) rfl ?_
    refine t_ifYes (pc := 14) 38 X6.here hx (hb hby d269) (by decide) (by decide) (by decide) ?_
    exact X6.returnOut hx hret (hb hby d270) hr
def WS_r102_getBytes (Z : State) (o1 : Addr) : List (Addr × Nat) := [(o1, 0), (o1, 1), (o1, 2), (o1, 3), (o1, 4), (o1, 5), (o1, 6), (o1, 7), (o1, 8), (o1, 9), (o1, 10), (o1, 11), (o1, 12), (o1, 13), (o1, 14), (o1, 15)]
def Q_r102_getBytes (Z : State) (o0 o1 : Addr) (i_1 : Int32) (o_3 : Addr) (i_6 : Int32) (k_o_3 : ClassId) (i_7 i_8 i_9 : Int32) (k_o1 : ClassId) (h0 : Heap) (n0 : Nat) (v : Option Value) (h : Heap) (L : List Loc) : Prop := v = none ∧ Fr n0 L ∧ KL h0 h (WS_r102_getBytes Z o1) ∧ Arv Z h o1 k_o1 .byte 16 [(.int i_7), (.int i_8), (.int i_9), (.int i_6), z0, z0, z0, z0, z0, z0, z0, z0, z0, z0, z0, z0] z0
theorem ef_r102_getBytes (o0 o1 : Addr) (m : MethodId) : entryFrame m #[(.ref o0), (.ref o1), (.int 3), (.int 0)] 4 = mkF m 0 #[.val (.ref o0), .val (.ref o1), .val (.int 3), .val (.int 0)] [] := by first | (simp [entryFrame, mkF, argsToLocals, Value.category]; done) | rfl
set_option maxRecDepth 65536 in
set_option maxHeartbeats 40000000 in
theorem r102_getBytes (l : Launch) (Z : State) (a0 : Array Value) (hw : HW Z a0) (ws : List Jvm.Cond) (o0 o1 : Addr) (i_1 : Int32) (o_3 : Addr) (i_6 : Int32) (k_o_3 : ClassId) (i_7 i_8 i_9 : Int32) (k_o1 : ClassId) (h0 : Heap) (n0 : Nat) (Z0 : n0 ≤ h0.size) (E_o0 : Ex0 Z h0 o0) (sCS : SCS Z i_1) (F_o0_coder : Fd0 Z h0 o0 z0) (O0 : Old Z n0 h0) (hp0 : ¬ (i_1 = (0 : Int32))) (F_o0_value : Fd1 Z h0 o0 (.ref o_3)) (V_o_3 : Arv Z h0 o_3 k_o_3 .byte 1 [(.int i_6)] z0) (V_o1 : Arv Z h0 o1 k_o1 .byte 16 [(.int i_7), (.int i_8), (.int i_9), z0, z0, z0, z0, z0, z0, z0, z0, z0, z0, z0, z0, z0] z0) (g_o1 : n0 ≤ o1) :
    MF l Z y24_getBytes b28_ 4 none ws ⟨1, 0, 0, 18⟩ #[(.ref o0), (.ref o1), (.int 3), z0] h0 (Q_r102_getBytes Z o0 o1 i_1 o_3 i_6 k_o_3 i_7 i_8 i_9 k_o1 h0 n0) := by
  refine own_body (plainFor_of_name pn_String564) (ef_r102_getBytes o0 o1) (by decide) (by decide) ?_
  intro p e s m below meth c s₁ hx hby hml hown hnm hret hZ hh e0 X0
  have N0 := Fr.nil n0
  obtain ⟨_, T2, L2, X2, hQ2, st2⟩ := own_virtual X0 hx hZ hown (w79 hw) (w80 hw) (nfS hZ (w82 hw)) (w82 hw) (w81 hw) (w6 hw) (w83 hw) (by decide) (r14_coder l Z a0 hw [] o0 i_1 h0 n0 Z0 sCS O0 hp0 F_o0_coder) e0 E_o0 (W := 0) (by decide) (g := (mkF m 1 #[vr o0, vr o1, vi 3, vi 0] [(.ref o0)])) rfl hml.symm (argsL := []) (rest := []) (lenOf pd_9 rfl) rfl rfl (own_wr rfl rfl) (hb hby d295)
  obtain ⟨rfl, N2q, e2⟩ := hQ2
  have N2 := Fr.app N0 N2q
  obtain ⟨T4, X4, e4, st4⟩ := getF X2 hx hZ hown (host := "") (Or.inl (w32 hw)) Via.refl e2 F_o0_value (g := (mkF m 9 #[vr o0, vr o1, vi 3, vi 0] [(.ref o0)])) rfl rfl (hb hby d299)
  obtain ⟨T5, X5, e5, st5⟩ := getF X4 hx hZ hown (host := "") (Or.inl (w32 hw)) Via.refl e4 F_o0_value (g := (mkF m 18 #[vr o0, vr o1, vi 3, vi 0] [(.ref o0), (.int 3), (.ref o1), z0, (.ref o_3)])) rfl rfl (hb hby d306)
  obtain ⟨T10, h10, L10, X10, e10, N10, Kp10, V10, st10⟩ := cpA X5 hx hZ hown (w162 hw) (w165 hw) (w163 hw) (w164 hw) e5 (us := [(.int i_6)]) V_o_3 V_o1 (Or.inl ⟨rfl, rfl⟩) (by decide) (by decide) (by decide) (by decide) (by decide) rfl (by first | decide | exact Nat.le_of_ble_eq_true rfl) N2 g_o1 (g := (mkF m 22 #[vr o0, vr o1, vi 3, vi 0] [(.int 1), (.int 3), (.ref o1), z0, (.ref o_3)])) rfl hml.symm rfl (hb hby d308) (by decide) (W := 0) (own_wr rfl rfl) (by decide)
  have K10 : KL h0 h10 [(o1, 0), (o1, 1), (o1, 2), (o1, 3), (o1, 4), (o1, 5), (o1, 6), (o1, 7), (o1, 8), (o1, 9), (o1, 10), (o1, 11), (o1, 12), (o1, 13), (o1, 14), (o1, 15)] := own_kcp Kp10 V_o1 (n := 16) rfl ⟨_, rfl⟩
  replace V10 : Arv Z h10 o1 k_o1 .byte 16 [(.int i_7), (.int i_8), (.int i_9), (.int i_6), z0, z0, z0, z0, z0, z0, z0, z0, z0, z0, z0, z0] z0 := V10
  have C0 := (KL.refl h0 (WS_r102_getBytes Z o1)).trans K10 (naO (own_mi 0 rfl) (naO (own_mi 1 rfl) (naO (own_mi 2 rfl) (naO (own_mi 3 rfl) (naO (own_mi 4 rfl) (naO (own_mi 5 rfl) (naO (own_mi 6 rfl) (naO (own_mi 7 rfl) (naO (own_mi 8 rfl) (naO (own_mi 9 rfl) (naO (own_mi 10 rfl) (naO (own_mi 11 rfl) (naO (own_mi 12 rfl) (naO (own_mi 13 rfl) (naO (own_mi 14 rfl) (naO (own_mi 15 rfl) na0))))))))))))))))
  refine ⟨T10, _, none, X10, (fun h => by cases h <;> rfl), ?_, fun fs hr => ?_⟩
  · show Q_r102_getBytes Z o0 o1 i_1 o_3 i_6 k_o_3 i_7 i_8 i_9 k_o1 h0 n0 _ T10.heap _
    rw [e10]
    exact ⟨rfl, N10, C0, V10⟩
  · refine t_aloadN 1 X0.here hx (hb hby d294) rfl rfl rfl ?_
    refine st2 _ ?_
    refine t_iloadN 5 X2.here hx (hb hby d296) rfl rfl ?_
    refine t_icmpNo 8 X2.here hx (hb hby d297) (by decide) rfl ?_
    refine t_aloadN 9 X2.here hx (hb hby d298) rfl rfl rfl ?_
    refine st4 _ ?_
    refine t_iconst 13 (r := 0) X4.here hx (hb hby d300) (by decide) rfl ?_
    refine t_aloadN 14 X4.here hx (hb hby d301) rfl rfl rfl ?_
    refine t_iloadN 15 X4.here hx (hb hby d302) rfl rfl ?_
    refine t_iloadN 16 X4.here hx (hb hby d303) rfl rfl ?_
    refine t_ishl 17 (r := 3) X4.here hx (hb hby d304) (by decide : ((3 : Int32) <<< ((0 : Int32) &&& 31)) = (3 : Int32)) rfl ?_
    refine t_aloadN 18 X4.here hx (hb hby d305) rfl rfl rfl ?_
    refine st5 _ ?_
    refine own_arlen (pc' := 22) X5 hx hZ e5 V_o_3 (hb hby d307) rfl ?_
    refine st10 _ ?_
    refine t_goto (pc := 25) 43 X10.here hx (hb hby d309) (by decide) (by decide) ?_
    exact X10.returnOut hx hret (hb hby d310) hr
def WS_r101_putStringAt (Z : State) (o_3 : Addr) : List (Addr × Nat) := [(o_3, 0), (o_3, 1), (o_3, 2), (o_3, 3), (o_3, 4), (o_3, 5), (o_3, 6), (o_3, 7), (o_3, 8), (o_3, 9), (o_3, 10), (o_3, 11), (o_3, 12), (o_3, 13), (o_3, 14), (o_3, 15)]
def Q_r101_putStringAt (Z : State) (o0 o2 : Addr) (i_1 : Int32) (o_3 o_6 : Addr) (i_7 : Int32) (k_o_6 : ClassId) (i_8 i_9 i_10 : Int32) (k_o_3 : ClassId) (h0 : Heap) (n0 : Nat) (v : Option Value) (h : Heap) (L : List Loc) : Prop := v = none ∧ Fr n0 L ∧ KL h0 h (WS_r101_putStringAt Z o_3) ∧ Arv Z h o_3 k_o_3 .byte 16 [(.int i_8), (.int i_9), (.int i_10), (.int i_7), z0, z0, z0, z0, z0, z0, z0, z0, z0, z0, z0, z0] z0
theorem ef_r101_putStringAt (o0 o2 : Addr) (m : MethodId) : entryFrame m #[(.ref o0), (.int 3), (.ref o2)] 3 = mkF m 0 #[.val (.ref o0), .val (.int 3), .val (.ref o2)] [] := by first | (simp [entryFrame, mkF, argsToLocals, Value.category]; done) | rfl
set_option maxRecDepth 65536 in
set_option maxHeartbeats 40000000 in
theorem r101_putStringAt (l : Launch) (Z : State) (a0 : Array Value) (hw : HW Z a0) (ws : List Jvm.Cond) (o0 o2 : Addr) (i_1 : Int32) (o_3 o_6 : Addr) (i_7 : Int32) (k_o_6 : ClassId) (i_8 i_9 i_10 : Int32) (k_o_3 : ClassId) (h0 : Heap) (n0 : Nat) (Z0 : n0 ≤ h0.size) (E_o0 : Ex2 Z h0 o0) (sCS : SCS Z i_1) (F_o0_coder : Fd5 Z h0 o0 z0) (E_o2 : Ex0 Z h0 o2) (F_o2_coder : Fd0 Z h0 o2 z0) (O0 : Old Z n0 h0) (hp0 : ¬ (i_1 = (0 : Int32))) (F_o0_value : Fd4 Z h0 o0 (.ref o_3)) (F_o2_value : Fd1 Z h0 o2 (.ref o_6)) (V_o_6 : Arv Z h0 o_6 k_o_6 .byte 1 [(.int i_7)] z0) (V_o_3 : Arv Z h0 o_3 k_o_3 .byte 16 [(.int i_8), (.int i_9), (.int i_10), z0, z0, z0, z0, z0, z0, z0, z0, z0, z0, z0, z0, z0] z0) (g_o_3 : n0 ≤ o_3) :
    MF l Z y25_putStringAt b26_ 3 none ws ⟨2, 0, 0, 33⟩ #[(.ref o0), (.int 3), (.ref o2)] h0 (Q_r101_putStringAt Z o0 o2 i_1 o_3 o_6 i_7 k_o_6 i_8 i_9 i_10 k_o_3 h0 n0) := by
  refine own_body (plainFor_of_name pn_AbstractStringBuilder101) (ef_r101_putStringAt o0 o2) (by decide) (by decide) ?_
  intro p e s m below meth c s₁ hx hby hml hown hnm hret hZ hh e0 X0
  have N0 := Fr.nil n0
  obtain ⟨_, T2, L2, X2, hQ2, st2⟩ := own_private X0 hx hZ hown (w151 hw) (w152 hw) (w144 hw) rfl (w153 hw) (w120 hw) (w155 hw) (by decide) (r27_inflateIfNeededFor l Z a0 hw [] o0 o2 i_1 h0 n0 Z0 sCS O0 hp0 F_o0_coder E_o2 F_o2_coder) e0 E_o0 (W := 0) (by decide) (g := (mkF m 2 #[vr o0, vi 3, vr o2] [(.ref o2), (.ref o0)])) rfl hml.symm (argsL := [(.ref o2)]) (rest := []) (lenOf pd_17 rfl) rfl rfl (own_wr rfl rfl) (hb hby d278)
  obtain ⟨rfl, N2q, e2⟩ := hQ2
  have N2 := Fr.app N0 N2q
  obtain ⟨T4, X4, e4, st4⟩ := getF X2 hx hZ hown (host := "") (Or.inl (w124 hw)) Via.refl e2 F_o0_value (g := (mkF m 7 #[vr o0, vi 3, vr o2] [(.ref o0), (.ref o2)])) rfl rfl (hb hby d289)
  obtain ⟨T5, X5, e5, st5⟩ := getF X4 hx hZ hown (host := "") (Or.inl (w126 hw)) Via.refl e4 F_o0_coder (g := (mkF m 12 #[vr o0, vi 3, vr o2] [(.ref o0), (.int 3), (.ref o_3), (.ref o2)])) rfl rfl (hb hby d292)
  obtain ⟨_, T11, L11, X11, hQ11, st11⟩ := own_virtual X5 hx hZ hown (w157 hw) (w158 hw) (nfS hZ (w160 hw)) (w160 hw) (w159 hw) (w6 hw) (w161 hw) (by decide) (r102_getBytes l Z a0 hw [] o2 o_3 i_1 o_6 i_7 k_o_6 i_8 i_9 i_10 k_o_3 h0 n0 Z0 E_o2 sCS F_o2_coder O0 hp0 F_o2_value V_o_6 V_o_3 g_o_3) e5 E_o2 (W := 0) (by decide) (g := (mkF m 15 #[vr o0, vi 3, vr o2] [z0, (.int 3), (.ref o_3), (.ref o2)])) rfl hml.symm (argsL := [(.ref o_3), (.int 3), z0]) (rest := []) (lenOf pd_18 rfl) rfl rfl (own_wr rfl rfl) (hb hby d293)
  obtain ⟨rfl, N11q, K11, Q11_0⟩ := hQ11
  have N11 := Fr.app N2 N11q
  have C0 := (KL.refl h0 (WS_r101_putStringAt Z o_3)).trans K11 (naO (own_mi 0 rfl) (naO (own_mi 1 rfl) (naO (own_mi 2 rfl) (naO (own_mi 3 rfl) (naO (own_mi 4 rfl) (naO (own_mi 5 rfl) (naO (own_mi 6 rfl) (naO (own_mi 7 rfl) (naO (own_mi 8 rfl) (naO (own_mi 9 rfl) (naO (own_mi 10 rfl) (naO (own_mi 11 rfl) (naO (own_mi 12 rfl) (naO (own_mi 13 rfl) (naO (own_mi 14 rfl) (naO (own_mi 15 rfl) na0))))))))))))))))
  refine ⟨T11, _, none, X11, (fun h => by cases h <;> rfl), ?_, fun fs hr => ?_⟩
  · show Q_r101_putStringAt Z o0 o2 i_1 o_3 o_6 i_7 k_o_6 i_8 i_9 i_10 k_o_3 h0 n0 _ T11.heap _
    exact ⟨rfl, N11, C0, Q11_0⟩
  · refine t_aloadN 1 X0.here hx (hb hby d276) rfl rfl rfl ?_
    refine t_aloadN 2 X0.here hx (hb hby d277) rfl rfl rfl ?_
    refine st2 _ ?_
    refine t_aloadN 6 X2.here hx (hb hby d287) rfl rfl rfl ?_
    refine t_aloadN 7 X2.here hx (hb hby d288) rfl rfl rfl ?_
    refine st4 _ ?_
    refine t_iloadN 11 X4.here hx (hb hby d290) rfl rfl ?_
    refine t_aloadN 12 X4.here hx (hb hby d291) rfl rfl rfl ?_
    refine st5 _ ?_
    refine st11 _ ?_
    exact X11.returnOut hx hret (hb hby d311) hr
def WS_r99_append (Z : State) (o0 o_6 : Addr) : List (Addr × Nat) := [(o_6, 0), (o_6, 1), (o_6, 2), (o_6, 3), (o_6, 4), (o_6, 5), (o_6, 6), (o_6, 7), (o_6, 8), (o_6, 9), (o_6, 10), (o_6, 11), (o_6, 12), (o_6, 13), (o_6, 14), (o_6, 15), (o0, (sl6 Z))]
def Q_r99_append (Z : State) (o0 o1 o_1 : Addr) (i_2 : Int32) (k_o_1 : ClassId) (i_3 : Int32) (o_6 : Addr) (i_7 i_8 i_9 : Int32) (k_o_6 : ClassId) (h0 : Heap) (n0 : Nat) (v : Option Value) (h : Heap) (L : List Loc) : Prop := v = some (.ref o0) ∧ Fr n0 L ∧ KL h0 h (WS_r99_append Z o0 o_6) ∧ Arv Z h o_6 k_o_6 .byte 16 [(.int i_7), (.int i_8), (.int i_9), (.int i_2), z0, z0, z0, z0, z0, z0, z0, z0, z0, z0, z0, z0] z0 ∧ Fd6 Z h o0 (.int 4)
theorem ef_r99_append (o0 o1 : Addr) (m : MethodId) : entryFrame m #[(.ref o0), (.ref o1)] 3 = mkF m 0 #[.val (.ref o0), .val (.ref o1), .unset] [] := by first | (simp [entryFrame, mkF, argsToLocals, Value.category]; done) | rfl
set_option maxRecDepth 65536 in
set_option maxHeartbeats 40000000 in
theorem r99_append (l : Launch) (Z : State) (a0 : Array Value) (hw : HW Z a0) (ws : List Jvm.Cond) (o0 o1 o_1 : Addr) (i_2 : Int32) (k_o_1 : ClassId) (i_3 : Int32) (o_6 : Addr) (i_7 i_8 i_9 : Int32) (k_o_6 : ClassId) (h0 : Heap) (n0 : Nat) (Z0 : n0 ≤ h0.size) (E_o1 : Ex0 Z h0 o1) (F_o1_value : Fd1 Z h0 o1 (.ref o_1)) (V_o_1 : Arv Z h0 o_1 k_o_1 .byte 1 [(.int i_2)] z0) (sCS : SCS Z i_3) (F_o1_coder : Fd0 Z h0 o1 z0) (O0 : Old Z n0 h0) (hp0 : ¬ (i_3 = (0 : Int32))) (F_o0_count : Fd6 Z h0 o0 (.int 3)) (E_o0 : Ex2 Z h0 o0) (F_o0_value : Fd4 Z h0 o0 (.ref o_6)) (V_o_6 : Arv Z h0 o_6 k_o_6 .byte 16 [(.int i_7), (.int i_8), (.int i_9), z0, z0, z0, z0, z0, z0, z0, z0, z0, z0, z0, z0, z0] z0) (F_o0_coder : Fd5 Z h0 o0 z0) (g_o_6 : n0 ≤ o_6) (ne_o0_o_6 : o0 ≠ o_6) (g_o0 : n0 ≤ o0) :
    MF l Z y26_append b24_ 3 (some (.object "java/lang/AbstractStringBuilder")) ws ⟨3, 0, 0, 47⟩ #[(.ref o0), (.ref o1)] h0 (Q_r99_append Z o0 o1 o_1 i_2 k_o_1 i_3 o_6 i_7 i_8 i_9 k_o_6 h0 n0) := by
  refine own_body (plainFor_of_name pn_AbstractStringBuilder101) (ef_r99_append o0 o1) (by decide) (by decide) ?_
  intro p e s m below meth c s₁ hx hby hml hown hnm hret hZ hh e0 X0
  have N0 := Fr.nil n0
  obtain ⟨_, T4, L4, X4, hQ4, st4⟩ := own_virtual X0 hx hZ hown (w138 hw) (w75 hw) (nfS hZ (w77 hw)) (w77 hw) (w76 hw) (w6 hw) (w78 hw) (by decide) (r13_length l Z a0 hw [] o1 o_1 i_2 k_o_1 i_3 h0 n0 Z0 F_o1_value V_o_1 E_o1 sCS F_o1_coder O0 hp0) e0 E_o1 (W := 0) (by decide) (g := (mkF m 10 #[vr o0, vr o1, .unset] [(.ref o1)])) rfl hml.symm (argsL := []) (rest := []) (lenOf pd_10 rfl) rfl rfl (own_wr rfl rfl) (hb hby d251)
  obtain ⟨rfl, N4q, e4⟩ := hQ4
  have N4 := Fr.app N0 N4q
  obtain ⟨T5, X5, e5, st5⟩ := getF X4 hx hZ hown (host := "") (Or.inl (w139 hw)) Via.refl e4 F_o0_count (g := (mkF m 16 #[vr o0, vr o1, vi 1] [(.ref o0), (.ref o0)])) rfl rfl (hb hby d255)
  obtain ⟨_, T10, L10, X10, hQ10, st10⟩ := own_private X5 hx hZ hown (w141 hw) (w142 hw) (w144 hw) rfl (w143 hw) (w120 hw) (w145 hw) (by decide) (r100_ensureCapacityInternal l Z a0 hw [] o0 o_6 i_7 i_8 i_9 k_o_6 h0 n0 Z0 F_o0_value V_o_6 F_o0_coder) e5 E_o0 (W := 0) (by decide) (g := (mkF m 21 #[vr o0, vr o1, vi 1] [(.int 4), (.ref o0)])) rfl hml.symm (argsL := [(.int 4)]) (rest := []) (lenOf pd_16 rfl) rfl rfl (own_wr rfl rfl) (hb hby d258)
  obtain ⟨rfl, N10q, e10⟩ := hQ10
  have N10 := Fr.app N4 N10q
  obtain ⟨T11, X11, e11, st11⟩ := getF X10 hx hZ hown (host := "") (Or.inl (w139 hw)) Via.refl e10 F_o0_count (g := (mkF m 26 #[vr o0, vr o1, vi 1] [(.ref o0), (.ref o0)])) rfl rfl (hb hby d273)
  obtain ⟨_, T12, L12, X12, hQ12, st12⟩ := own_private X11 hx hZ hown (w146 hw) (w147 hw) (w144 hw) rfl (w148 hw) (w120 hw) (w150 hw) (by decide) (r101_putStringAt l Z a0 hw [] o0 o1 i_3 o_6 o_1 i_2 k_o_1 i_7 i_8 i_9 k_o_6 h0 n0 Z0 E_o0 sCS F_o0_coder E_o1 F_o1_coder O0 hp0 F_o0_value F_o1_value V_o_1 V_o_6 g_o_6) e11 E_o0 (W := 0) (by decide) (g := (mkF m 30 #[vr o0, vr o1, vi 1] [(.ref o1), (.int 3), (.ref o0)])) rfl hml.symm (argsL := [(.int 3), (.ref o1)]) (rest := []) (lenOf pd_19 rfl) rfl rfl (own_wr rfl rfl) (hb hby d275)
  obtain ⟨rfl, N12q, K12, Q12_0⟩ := hQ12
  have N12 := Fr.app N10 N12q
  have f13 := (kFld K12 F_o0_count (nwB 16 rfl ne_o0_o_6))
  obtain ⟨T14, X14, e14, st14⟩ := getF X12 hx hZ hown (host := "") (Or.inl (w139 hw)) Via.refl rfl f13 (g := (mkF m 35 #[vr o0, vr o1, vi 1] [(.ref o0), (.ref o0)])) rfl rfl (hb hby d314)
  have f15 := (kExa K12 E_o0)
  obtain ⟨T16, h16, X16, e16, W16, st16⟩ := putF X14 hx hZ hown (host := "") (Or.inl (w139 hw)) Via.refl e14 f13 f15 (Or.inl (w140 hw)) (w111 hw) (ty := .int) (by decide) rfl rfl (g := (mkF m 40 #[vr o0, vr o1, vi 1] [(.int 4), (.ref o0)])) rfl rfl (hb hby d317)
  have K16 := KL.ofW W16
  have Fw16 : Fd6 Z h16 o0 (.int 4) := Fld.same W16 f13
  have N16 := Fr.snoc X16 N12 g_o0
  have C0 := (KL.refl h0 (WS_r99_append Z o0 o_6)).trans K12 (naO (own_mi 0 rfl) (naO (own_mi 1 rfl) (naO (own_mi 2 rfl) (naO (own_mi 3 rfl) (naO (own_mi 4 rfl) (naO (own_mi 5 rfl) (naO (own_mi 6 rfl) (naO (own_mi 7 rfl) (naO (own_mi 8 rfl) (naO (own_mi 9 rfl) (naO (own_mi 10 rfl) (naO (own_mi 11 rfl) (naO (own_mi 12 rfl) (naO (own_mi 13 rfl) (naO (own_mi 14 rfl) (naO (own_mi 15 rfl) na0))))))))))))))))
  have C1 := C0.trans K16 (naO (own_mi 16 rfl) na0)
  have f17 := (kArv K16 Q12_0 (naN ne_o0_o_6 na0))
  refine ⟨T16, _, some (.ref o0), X16, (fun h => by cases h <;> rfl), ?_, fun fs hr => ?_⟩
  · show Q_r99_append Z o0 o1 o_1 i_2 k_o_1 i_3 o_6 i_7 i_8 i_9 k_o_6 h0 n0 _ T16.heap _
    rw [e16]
    exact ⟨rfl, N16, C1, f17, Fw16⟩
  · refine t_aloadN 1 X0.here hx (hb hby d248) rfl rfl rfl ?_
    refine t_ifnonnullYes (pc := 1) 9 X0.here hx (hb hby d249) (by decide) (by decide) ?_
    refine t_aloadN 10 X0.here hx (hb hby d250) rfl rfl rfl ?_
    refine st4 _ ?_
    refine t_istoreN (pc' := 14) (L' := #[vr o0, vr o1, vi 1]) X4.here hx (hb hby d252) rfl rfl ?_
    refine t_aloadN 15 X4.here hx (hb hby d253) rfl rfl rfl ?_
    refine t_aloadN 16 X4.here hx (hb hby d254) rfl rfl rfl ?_
    refine st5 _ ?_
    refine t_iloadN 20 X5.here hx (hb hby d256) rfl rfl ?_
    refine t_iadd 21 (r := 4) X5.here hx (hb hby d257) (by decide : ((3 : Int32) + (1 : Int32)) = (4 : Int32)) rfl ?_
    refine st10 _ ?_
    refine t_aloadN 25 X10.here hx (hb hby d271) rfl rfl rfl ?_
    refine t_aloadN 26 X10.here hx (hb hby d272) rfl rfl rfl ?_
    refine st11 _ ?_
    refine t_aloadN 30 X11.here hx (hb hby d274) rfl rfl rfl ?_
    refine st12 _ ?_
    refine t_aloadN 34 X12.here hx (hb hby d312) rfl rfl rfl ?_
    refine t_dup 35 X12.here hx (hb hby d313) rfl rfl ?_
    refine st14 _ ?_
    refine t_iloadN 39 X14.here hx (hb hby d315) rfl rfl ?_
    refine t_iadd 40 (r := 4) X14.here hx (hb hby d316) (by decide : ((3 : Int32) + (1 : Int32)) = (4 : Int32)) rfl ?_
    refine st16 _ ?_
    refine t_aloadN 44 X16.here hx (hb hby d318) rfl rfl rfl ?_
    jvm_step X16.here [X16.here.top, hx, (hb hby d319), X16.method', hret, Value.isRef, FieldType.isReference]
    first | (intro acts; rw [hr _ acts rfl rfl rfl]) | rw [hr _ _ rfl rfl rfl]
    exact Steps.refl _
def WS_r98_append (Z : State) (o0 o_4 : Addr) : List (Addr × Nat) := [(o_4, 0), (o_4, 1), (o_4, 2), (o_4, 3), (o_4, 4), (o_4, 5), (o_4, 6), (o_4, 7), (o_4, 8), (o_4, 9), (o_4, 10), (o_4, 11), (o_4, 12), (o_4, 13), (o_4, 14), (o_4, 15), (o0, (sl6 Z))]
def Q_r98_append (Z : State) (o0 o1 o_1 : Addr) (i_2 : Int32) (k_o_1 : ClassId) (i_3 : Int32) (o_4 : Addr) (i_5 i_6 i_7 : Int32) (k_o_4 : ClassId) (h0 : Heap) (n0 : Nat) (v : Option Value) (h : Heap) (L : List Loc) : Prop := v = some (.ref o0) ∧ Fr n0 L ∧ KL h0 h (WS_r98_append Z o0 o_4) ∧ Arv Z h o_4 k_o_4 .byte 16 [(.int i_5), (.int i_6), (.int i_7), (.int i_2), z0, z0, z0, z0, z0, z0, z0, z0, z0, z0, z0, z0] z0 ∧ Fd6 Z h o0 (.int 4)
theorem ef_r98_append (o0 o1 : Addr) (m : MethodId) : entryFrame m #[(.ref o0), (.ref o1)] 2 = mkF m 0 #[.val (.ref o0), .val (.ref o1)] [] := by first | (simp [entryFrame, mkF, argsToLocals, Value.category]; done) | rfl
set_option maxRecDepth 65536 in
set_option maxHeartbeats 40000000 in
theorem r98_append (l : Launch) (Z : State) (a0 : Array Value) (hw : HW Z a0) (ws : List Jvm.Cond) (o0 o1 o_1 : Addr) (i_2 : Int32) (k_o_1 : ClassId) (i_3 : Int32) (o_4 : Addr) (i_5 i_6 i_7 : Int32) (k_o_4 : ClassId) (h0 : Heap) (n0 : Nat) (Z0 : n0 ≤ h0.size) (E_o0 : Ex2 Z h0 o0) (E_o1 : Ex0 Z h0 o1) (F_o1_value : Fd1 Z h0 o1 (.ref o_1)) (V_o_1 : Arv Z h0 o_1 k_o_1 .byte 1 [(.int i_2)] z0) (sCS : SCS Z i_3) (F_o1_coder : Fd0 Z h0 o1 z0) (F_o0_count : Fd6 Z h0 o0 (.int 3)) (F_o0_value : Fd4 Z h0 o0 (.ref o_4)) (V_o_4 : Arv Z h0 o_4 k_o_4 .byte 16 [(.int i_5), (.int i_6), (.int i_7), z0, z0, z0, z0, z0, z0, z0, z0, z0, z0, z0, z0, z0] z0) (F_o0_coder : Fd5 Z h0 o0 z0) (O0 : Old Z n0 h0) (hp0 : ¬ (i_3 = (0 : Int32))) (g_o_4 : n0 ≤ o_4) (ne_o0_o_4 : o0 ≠ o_4) (g_o0 : n0 ≤ o0) :
    MF l Z y27_append b23_ 2 (some (.object "java/lang/StringBuilder")) ws ⟨4, 0, 0, 61⟩ #[(.ref o0), (.ref o1)] h0 (Q_r98_append Z o0 o1 o_1 i_2 k_o_1 i_3 o_4 i_5 i_6 i_7 k_o_4 h0 n0) := by
  refine own_body (plainFor_of_name pn_StringBuilder278) (ef_r98_append o0 o1) (by decide) (by decide) ?_
  intro p e s m below meth c s₁ hx hby hml hown hnm hret hZ hh e0 X0
  have N0 := Fr.nil n0
  obtain ⟨_, T8, L8, X8, hQ8, st8⟩ := own_super X0 hx hZ hown (w133 hw) (w134 hw) (w144 hw) rfl (w135 hw) (by decide) (w120 hw) (w137 hw) (by decide) (r99_append l Z a0 hw [] o0 o1 o_1 i_2 k_o_1 i_3 o_4 i_5 i_6 i_7 k_o_4 h0 n0 Z0 E_o1 F_o1_value V_o_1 sCS F_o1_coder O0 hp0 F_o0_count E_o0 F_o0_value V_o_4 F_o0_coder g_o_4 ne_o0_o_4 g_o0) e0 E_o0 (W := 0) (by decide) (g := (mkF m 2 #[vr o0, vr o1] [(.ref o1), (.ref o0)])) rfl hml.symm (argsL := [(.ref o1)]) (rest := []) (lenOf pd_20 rfl) rfl rfl (own_wr rfl rfl) (hb hby d247)
  obtain ⟨rfl, N8q, K8, Q8_0, Q8_1⟩ := hQ8
  have N8 := Fr.app N0 N8q
  have C0 := (KL.refl h0 (WS_r98_append Z o0 o_4)).trans K8 (naO (own_mi 0 rfl) (naO (own_mi 1 rfl) (naO (own_mi 2 rfl) (naO (own_mi 3 rfl) (naO (own_mi 4 rfl) (naO (own_mi 5 rfl) (naO (own_mi 6 rfl) (naO (own_mi 7 rfl) (naO (own_mi 8 rfl) (naO (own_mi 9 rfl) (naO (own_mi 10 rfl) (naO (own_mi 11 rfl) (naO (own_mi 12 rfl) (naO (own_mi 13 rfl) (naO (own_mi 14 rfl) (naO (own_mi 15 rfl) (naO (own_mi 16 rfl) na0)))))))))))))))))
  refine ⟨T8, _, some (.ref o0), X8, (fun h => by cases h <;> rfl), ?_, fun fs hr => ?_⟩
  · show Q_r98_append Z o0 o1 o_1 i_2 k_o_1 i_3 o_4 i_5 i_6 i_7 k_o_4 h0 n0 _ T8.heap _
    exact ⟨rfl, N8, C0, Q8_0, Q8_1⟩
  · refine t_aloadN 1 X0.here hx (hb hby d245) rfl rfl rfl ?_
    refine t_aloadN 2 X0.here hx (hb hby d246) rfl rfl rfl ?_
    refine st8 _ ?_
    refine t_pop 6 X8.here hx (hb hby d320) rfl rfl ?_
    refine t_aloadN 7 X8.here hx (hb hby d321) rfl rfl rfl ?_
    jvm_step X8.here [X8.here.top, hx, (hb hby d322), X8.method', hret, Value.isRef, FieldType.isReference]
    first | (intro acts; rw [hr _ acts rfl rfl rfl]) | rw [hr _ _ rfl rfl rfl]
    exact Steps.refl _
def Q_r93_toString (Z : State) (o0 : Addr) (i_2 : Int32) (o_6 o_9 : Addr) (i_10 i_11 : Int32) (k_o_9 : ClassId) (o_28 o_31 : Addr) (i_32 : Int32) (k_o_31 : ClassId) (h0 : Heap) (n0 : Nat) (v : Option Value) (h : Heap) (L : List Loc) : Prop := ∃ b1_42 : Addr, ∃ b2_5_12_7_8_42 : Addr, ∃ k2_5_12_7_8_42 : ClassId, v = some (.ref b1_42) ∧ Fr n0 L ∧ KL h0 h [] ∧ h0.size ≤ b1_42 ∧ h0.size ≤ b2_5_12_7_8_42 ∧ b1_42 ≠ b2_5_12_7_8_42 ∧ Ex0 Z h b1_42 ∧ Fd0 Z h b1_42 z0 ∧ Fd1 Z h b1_42 (.ref b2_5_12_7_8_42) ∧ Arv Z h b2_5_12_7_8_42 k2_5_12_7_8_42 .byte 4 [(.int i_10), (.int i_11), (.int 58), (.int i_32)] z0
theorem ef_r93_toString (o0 : Addr) (m : MethodId) : entryFrame m #[(.ref o0)] 1 = mkF m 0 #[.val (.ref o0)] [] := by first | (simp [entryFrame, mkF, argsToLocals, Value.category]; done) | rfl
set_option maxRecDepth 65536 in
set_option maxHeartbeats 40000000 in
theorem r93_toString (l : Launch) (Z : State) (a0 : Array Value) (hw : HW Z a0) (ws : List Jvm.Cond) (o0 : Addr) (i_2 : Int32) (o_6 o_9 : Addr) (i_10 i_11 : Int32) (k_o_9 : ClassId) (o_28 o_31 : Addr) (i_32 : Int32) (k_o_31 : ClassId) (h0 : Heap) (n0 : Nat) (Z0 : n0 ≤ h0.size) (sCS : SCS Z i_2) (O0 : Old Z n0 h0) (hp0 : ¬ (i_2 = (0 : Int32))) (F_o0_system : Fd2 Z h0 o0 (.ref o_6)) (E_o_6 : Ex0 Z h0 o_6) (F_o_6_value : Fd1 Z h0 o_6 (.ref o_9)) (V_o_9 : Arv Z h0 o_9 k_o_9 .byte 2 [(.int i_10), (.int i_11)] z0) (F_o_6_coder : Fd0 Z h0 o_6 z0) (F_o0_id : Fd3 Z h0 o0 (.ref o_28)) (E_o_28 : Ex0 Z h0 o_28) (F_o_28_value : Fd1 Z h0 o_28 (.ref o_31)) (V_o_31 : Arv Z h0 o_31 k_o_31 .byte 1 [(.int i_32)] z0) (F_o_28_coder : Fd0 Z h0 o_28 z0) :
    OMH l Z consts_1 [] y38_toString b20_ 1 (some (.object "java/lang/String")) ws ⟨6, 6, 36, 91⟩ #[(.ref o0)] h0 (Q_r93_toString Z o0 i_2 o_6 o_9 i_10 i_11 k_o_9 o_28 o_31 i_32 k_o_31 h0 n0) := by
  refine own_bodyH (k := 6) (n := 36) (own_EW hw) (plainFor_of_name pn_Identifier44) (ef_r93_toString o0) (by decide) (by decide) ?_
  intro p e s m below meth c s₁ hx hby hml hown hnm hret hZ e0 hS0 hk0 X0 hC0 hSF0
  have N0 := Fr.nil n0
  obtain ⟨T1, h1, X1, e1, E1, A1, D1, -, st1⟩ := newO X0 hx hZ hown (w110 hw) (w111 hw) (w112 hw) e0 (g := (mkF m 0 #[vr o0] [])) rfl (hb hby d222) (by decide) (by decide)
  obtain ⟨b1, g1⟩ : ∃ z, z = h0.size := ⟨_, rfl⟩
  rw [← g1] at A1 D1 st1
  have ge_b1 : h0.size ≤ b1 := Nat.le_of_eq g1.symm
  have K1 := KL.ofE E1
  have Ck0 := own_chK K1 na0 (CHr.refl hC0).1
  have Ah1 := (CHr.refl hC0).trans Ck0.1
  have F_b1_value : Fd4 Z h1 b1 .null := D1 (Or.inl (w125 hw)) (ty := (.array .byte)) (by decide)
  have F_b1_coder : Fd5 Z h1 b1 z0 := D1 (Or.inl (w127 hw)) (ty := .byte) (by decide)
  have F_b1_count : Fd6 Z h1 b1 z0 := D1 (Or.inl (w140 hw)) (ty := .int) (by decide)
  have f4 := (kOld K1 O0 na0)
  obtain ⟨_, T3, L3, X3, hQ3, st3⟩ := own_init X1 hx hZ rfl hown (w113 hw) (w114 hw) (w112 hw) (w115 hw) (by decide) (r21__init_ l Z a0 hw [] b1 i_2 h1 n0 (Nat.le_trans Z0 K1.1) sCS F_b1_value A1 F_b1_coder f4 hp0 (Nat.le_trans Z0 ge_b1)) e1 (W := 1) (by decide) (g := (mkF m 4 #[vr o0] [(.ref b1), (.ref b1)])) rfl hml.symm (argsL := []) (rest := [(.ref b1)]) (lenOf pd_6 rfl) rfl rfl (own_wr rfl rfl) (hb hby d224)
  obtain ⟨b4_2_3, k4_2_3, rfl, N3q, K3, Q3_0, Q3_1, Q3_2, Q3_3⟩ := hQ3
  have N3 := Fr.app N0 N3q
  have Ck1 := own_chK K3 (naF (Safe.exa hZ.alike A1 (by decide) (by decide)) (naF (Safe.exa hZ.alike A1 (by decide) (by decide)) na0)) Ah1.1
  have Ah2 := Ah1.trans Ck1.1
  have lt_o0 : o0 < h0.size := Fld.lt F_o0_system
  have f7 := (kFld K3 (kFld K1 F_o0_system nw0) (nwS (Or.inl (lt_ne lt_o0 ge_b1)) (nwS (Or.inl (lt_ne lt_o0 ge_b1)) nw0)))
  obtain ⟨T8, X8, e8, st8⟩ := getF X3 hx hZ hown (host := "") (Or.inl (w101 hw)) Via.refl rfl f7 (g := (mkF m 8 #[vr o0] [(.ref o0), (.ref b1)])) rfl rfl (hb hby d243)
  have f13 := (kExa K3 A1)
  have f14 := (kExa K3 (kExa K1 E_o_6))
  have lt_o_6 : o_6 < h0.size := Exa.lt E_o_6
  have f15 := (kFld K3 (kFld K1 F_o_6_value nw0) (nwS (Or.inl (lt_ne lt_o_6 ge_b1)) (nwS (Or.inl (lt_ne lt_o_6 ge_b1)) nw0)))
  have lt_o_9 : o_9 < h0.size := Arv.lt V_o_9
  have f16 := (kArv K3 (kArv K1 V_o_9 na0) (naN (Ne.symm (lt_ne lt_o_9 ge_b1)) (naN (Ne.symm (lt_ne lt_o_9 ge_b1)) na0)))
  have f17 := (kFld K3 (kFld K1 F_o_6_coder nw0) (nwS (Or.inl (lt_ne lt_o_6 ge_b1)) (nwS (Or.inl (lt_ne lt_o_6 ge_b1)) nw0)))
  have f18 := (kFld K3 F_b1_count (nwS (Or.inr (sn_7 hw)) (nwS (Or.inr (sn_6 hw)) nw0)))
  have f19 := (kOld K3 f4 (naS (P := fun w => n0 ≤ w.1) (Nat.le_trans Z0 ge_b1) (naS (P := fun w => n0 ≤ w.1) (Nat.le_trans Z0 ge_b1) na0)))
  have lt_b1 : b1 < h1.size := Exa.lt A1
  have sz_0_2 := (Nat.le_trans K1.1 K3.1)
  obtain ⟨_, T12, L12, X12, hQ12, st12⟩ := own_virtual X8 hx hZ hown (w128 hw) (w129 hw) (nfS hZ (w131 hw)) (w131 hw) (w130 hw) (w112 hw) (w132 hw) (by decide) (r94_append l Z a0 hw [] b1 o_6 o_9 i_10 i_11 k_o_9 i_2 b4_2_3 k4_2_3 T3.heap n0 (Nat.le_trans Z0 sz_0_2) f13 f14 f15 f16 sCS f17 f18 Q3_1 Q3_3 Q3_2 f19 hp0 (Nat.le_trans Z0 (Nat.le_trans K1.1 Q3_0)) (lt_ne lt_b1 Q3_0) (Nat.le_trans Z0 ge_b1)) e8 f13 (W := 0) (by decide) (g := (mkF m 11 #[vr o0] [(.ref o_6), (.ref b1)])) rfl hml.symm (argsL := [(.ref o_6)]) (rest := []) (lenOf pd_21 rfl) rfl rfl (own_wr rfl rfl) (hb hby d244)
  obtain ⟨rfl, N12q, K12, Q12_0, Q12_1⟩ := hQ12
  have N12 := Fr.app N3 N12q
  have Ck2 := own_chK K12 (naFM 16 rfl (Ck1.2 _ (Safe.new Q3_0)) (naF (Safe.exa hZ.alike f13 (by decide) (by decide)) na0)) Ah2.1
  have Ah3 := Ah2.trans Ck2.1
  have sz_0_3 := (Nat.le_trans sz_0_2 K12.1)
  obtain ⟨c20, T20, h20, k20, b20, kb20, X20, e20, E20, hS20, hk20, hZ20, hown20, Ex20, Fc20, Fv20, Ar20, lta20, ltb20, hC20, Lt20, hne20, st20⟩ := ldcCH X12 hx hZ hown (w166 hw) (own_wS hw) rfl hS0 (Nat.le_trans hk0 sz_0_3) (own_EW hw) (by decide) Ah3.1 (vs := [(.int 58)]) (z := 1) ⟨by decide, rfl⟩ (by decide) rfl (g := (mkF m 14 #[vr o0] [(.ref b1)])) rfl (hb hby d323) (n := 4) (by decide) (by decide) (by decide) (by decide)
  have K20 := KL.ofE E20
  have Ah4 := Ah3.trans hC20
  have f22 := (kExa K20 (kExa K12 f13))
  have f23 := (kFld K20 Q12_1 nw0)
  have f24 := (kFld K20 (kFld K12 Q3_1 (nwM 16 rfl (lt_ne lt_b1 Q3_0) (nwS (Or.inr (sn_8 hw)) nw0))) nw0)
  have f25 := (kArv K20 Q12_0 na0)
  have f26 := (kFld K20 (kFld K12 Q3_2 (nwM 16 rfl (lt_ne lt_b1 Q3_0) (nwS (Or.inr (sn_9 hw)) nw0))) nw0)
  have f27 := (kOld K20 (kOld K12 f19 (naGM 16 rfl (Nat.le_trans Z0 (Nat.le_trans K1.1 Q3_0)) (naS (P := fun w => n0 ≤ w.1) (Nat.le_trans Z0 ge_b1) na0))) na0)
  have sz_0_4 := (Nat.le_trans sz_0_3 K20.1)
  obtain ⟨_, T21, L21, X21, hQ21, st21⟩ := own_virtual X20 hx hZ20 hown20 (w128 hw) (w129 hw) (nfS hZ20 (w131 hw)) (w131 hw) (w130 hw) (w112 hw) (w132 hw) (by decide) (r34_append l Z a0 hw [] b1 c20 b20 (58 : Int32) kb20 i_2 b4_2_3 i_10 i_11 k4_2_3 h20 n0 (Nat.le_trans Z0 sz_0_4) f22 Ex20 Fv20 Ar20 sCS Fc20 f23 f24 f25 f26 f27 hp0 (Nat.le_trans Z0 (Nat.le_trans K1.1 Q3_0)) (lt_ne lt_b1 Q3_0) (Nat.le_trans Z0 ge_b1)) e20 f22 (W := 0) (by decide) (g := (mkF m 16 #[vr o0] [(.ref c20), (.ref b1)])) rfl hml.symm (argsL := [(.ref c20)]) (rest := []) (lenOf pd_21 rfl) rfl rfl (own_wr rfl rfl) (hb hby d324)
  obtain ⟨rfl, N21q, K21, Q21_0, Q21_1⟩ := hQ21
  have N21 := Fr.app N12 N21q
  have lt_b4_2_3 : b4_2_3 < T3.heap.size := Arv.lt Q3_3
  have Ck4 := own_chK K21 (naFM 16 rfl (CHr.safe hC20 (Nat.lt_of_lt_of_le lt_b4_2_3 K12.1) (Ck2.2 _ (Ck1.2 _ (Safe.new Q3_0)))) (naF (Safe.exa hZ20.alike f22 (by decide) (by decide)) na0)) Ah4.1
  have Ah5 := Ah4.trans Ck4.1
  have f29 := (kFld K21 (kFld K20 (kFld K12 (kFld K3 (kFld K1 F_o0_id nw0) (nwS (Or.inl (lt_ne lt_o0 ge_b1)) (nwS (Or.inl (lt_ne lt_o0 ge_b1)) nw0))) (nwM 16 rfl (lt_ne (Nat.lt_of_lt_of_le lt_o0 K1.1) Q3_0) (nwS (Or.inl (lt_ne lt_o0 ge_b1)) nw0))) nw0) (nwM 16 rfl (lt_ne (Nat.lt_of_lt_of_le lt_o0 K1.1) Q3_0) (nwS (Or.inl (lt_ne lt_o0 ge_b1)) nw0)))
  obtain ⟨T30, X30, e30, st30⟩ := getF X21 hx hZ20 hown20 (host := "") (Or.inl (w103 hw)) Via.refl rfl f29 (g := (mkF m 20 #[vr o0] [(.ref o0), (.ref b1)])) rfl rfl (hb hby d326)
  have f34 := (kExa K21 f22)
  have f35 := (kExa K21 (kExa K20 (kExa K12 (kExa K3 (kExa K1 E_o_28)))))
  have lt_o_28 : o_28 < h0.size := Exa.lt E_o_28
  have f36 := (kFld K21 (kFld K20 (kFld K12 (kFld K3 (kFld K1 F_o_28_value nw0) (nwS (Or.inl (lt_ne lt_o_28 ge_b1)) (nwS (Or.inl (lt_ne lt_o_28 ge_b1)) nw0))) (nwM 16 rfl (lt_ne (Nat.lt_of_lt_of_le lt_o_28 K1.1) Q3_0) (nwS (Or.inl (lt_ne lt_o_28 ge_b1)) nw0))) nw0) (nwM 16 rfl (lt_ne (Nat.lt_of_lt_of_le lt_o_28 K1.1) Q3_0) (nwS (Or.inl (lt_ne lt_o_28 ge_b1)) nw0)))
  have lt_o_31 : o_31 < h0.size := Arv.lt V_o_31
  have f37 := (kArv K21 (kArv K20 (kArv K12 (kArv K3 (kArv K1 V_o_31 na0) (naN (Ne.symm (lt_ne lt_o_31 ge_b1)) (naN (Ne.symm (lt_ne lt_o_31 ge_b1)) na0))) (naNM 16 rfl (Ne.symm (lt_ne (Nat.lt_of_lt_of_le lt_o_31 K1.1) Q3_0)) (naN (Ne.symm (lt_ne lt_o_31 ge_b1)) na0))) na0) (naNM 16 rfl (Ne.symm (lt_ne (Nat.lt_of_lt_of_le lt_o_31 K1.1) Q3_0)) (naN (Ne.symm (lt_ne lt_o_31 ge_b1)) na0)))
  have f38 := (kFld K21 (kFld K20 (kFld K12 (kFld K3 (kFld K1 F_o_28_coder nw0) (nwS (Or.inl (lt_ne lt_o_28 ge_b1)) (nwS (Or.inl (lt_ne lt_o_28 ge_b1)) nw0))) (nwM 16 rfl (lt_ne (Nat.lt_of_lt_of_le lt_o_28 K1.1) Q3_0) (nwS (Or.inl (lt_ne lt_o_28 ge_b1)) nw0))) nw0) (nwM 16 rfl (lt_ne (Nat.lt_of_lt_of_le lt_o_28 K1.1) Q3_0) (nwS (Or.inl (lt_ne lt_o_28 ge_b1)) nw0)))
  have f39 := (kFld K21 f24 (nwM 16 rfl (lt_ne lt_b1 Q3_0) (nwS (Or.inr (sn_8 hw)) nw0)))
  have f40 := (kFld K21 f26 (nwM 16 rfl (lt_ne lt_b1 Q3_0) (nwS (Or.inr (sn_9 hw)) nw0)))
  have f41 := (kOld K21 f27 (naGM 16 rfl (Nat.le_trans Z0 (Nat.le_trans K1.1 Q3_0)) (naS (P := fun w => n0 ≤ w.1) (Nat.le_trans Z0 ge_b1) na0)))
  have sz_0_5 := (Nat.le_trans sz_0_4 K21.1)
  obtain ⟨_, T33, L33, X33, hQ33, st33⟩ := own_virtual X30 hx hZ20 hown20 (w128 hw) (w129 hw) (nfS hZ20 (w131 hw)) (w131 hw) (w130 hw) (w112 hw) (w132 hw) (by decide) (r98_append l Z a0 hw [] b1 o_28 o_31 i_32 k_o_31 i_2 b4_2_3 i_10 i_11 (58 : Int32) k4_2_3 T21.heap n0 (Nat.le_trans Z0 sz_0_5) f34 f35 f36 f37 sCS f38 Q21_1 f39 Q21_0 f40 f41 hp0 (Nat.le_trans Z0 (Nat.le_trans K1.1 Q3_0)) (lt_ne lt_b1 Q3_0) (Nat.le_trans Z0 ge_b1)) e30 f34 (W := 0) (by decide) (g := (mkF m 23 #[vr o0] [(.ref o_28), (.ref b1)])) rfl hml.symm (argsL := [(.ref o_28)]) (rest := []) (lenOf pd_21 rfl) rfl rfl (own_wr rfl rfl) (hb hby d327)
  obtain ⟨rfl, N33q, K33, Q33_0, Q33_1⟩ := hQ33
  have N33 := Fr.app N21 N33q
  have Ck5 := own_chK K33 (naFM 16 rfl (Ck4.2 _ (CHr.safe hC20 (Nat.lt_of_lt_of_le lt_b4_2_3 K12.1) (Ck2.2 _ (Ck1.2 _ (Safe.new Q3_0))))) (naF (Safe.exa hZ20.alike f34 (by decide) (by decide)) na0)) Ah5.1
  have Ah6 := Ah5.trans Ck5.1
  have f43 := (kExa K33 f34)
  have f44 := (kFld K33 f39 (nwM 16 rfl (lt_ne lt_b1 Q3_0) (nwS (Or.inr (sn_8 hw)) nw0)))
  have f45 := (kFld K33 f40 (nwM 16 rfl (lt_ne lt_b1 Q3_0) (nwS (Or.inr (sn_9 hw)) nw0)))
  have f46 := (kOld K33 f41 (naGM 16 rfl (Nat.le_trans Z0 (Nat.le_trans K1.1 Q3_0)) (naS (P := fun w => n0 ≤ w.1) (Nat.le_trans Z0 ge_b1) na0)))
  have sz_0_6 := (Nat.le_trans sz_0_5 K33.1)
  obtain ⟨_, T42, L42, X42, hQ42, st42⟩ := own_virtual X33 hx hZ20 hown20 (w167 hw) (w168 hw) (nfS hZ20 (w170 hw)) (w170 hw) (w169 hw) (w112 hw) (w171 hw) (by decide) (r71_toString l Z a0 hw [] b1 b4_2_3 i_2 i_10 i_11 (58 : Int32) i_32 k4_2_3 T33.heap n0 (Nat.le_trans Z0 sz_0_6) f43 f44 Q33_1 sCS f45 Q33_0 f46 hp0) rfl f43 (W := 0) (by decide) (g := (mkF m 26 #[vr o0] [(.ref b1)])) rfl hml.symm (argsL := []) (rest := []) (lenOf pd_27 rfl) rfl rfl (own_wr rfl rfl) (hb hby d328)
  obtain ⟨b1_42, b2_5_12_7_8_42, k2_5_12_7_8_42, rfl, N42q, K42, Q42_0, Q42_1, Q42_2, Q42_3, Q42_4, Q42_5, Q42_6⟩ := hQ42
  have N42 := Fr.app N33 N42q
  have Ck6 := own_chK K42 na0 Ah6.1
  have Ah7 := Ah6.trans Ck6.1
  have C0 := (KL.refl h0 []).trans K1 na0
  have C1 := C0.trans K3 (naO (Or.inr ge_b1) (naO (Or.inr ge_b1) na0))
  have C2 := C1.trans K12 (naOM 16 rfl (Nat.le_trans K1.1 Q3_0) (naO (Or.inr ge_b1) na0))
  have C3 := C2.trans K20 na0
  have C4 := C3.trans K21 (naOM 16 rfl (Nat.le_trans K1.1 Q3_0) (naO (Or.inr ge_b1) na0))
  have C5 := C4.trans K33 (naOM 16 rfl (Nat.le_trans K1.1 Q3_0) (naO (Or.inr ge_b1) na0))
  have C6 := C5.trans K42 na0
  have sz_4_6 := (Nat.le_trans K21.1 K33.1)
  have sz_4_7 := (Nat.le_trans sz_4_6 K42.1)
  refine ⟨T42, _, some (.ref b1_42), _, _, X42, hS20, (by rw [show T42.heap = T42.heap from rfl]; exact (Nat.le_trans hk20 sz_4_7)), (fun h => by cases h <;> rfl), ?_, Ah7, hZ20, fun fs hr => ?_⟩
  · show Q_r93_toString Z o0 i_2 o_6 o_9 i_10 i_11 k_o_9 o_28 o_31 i_32 k_o_31 h0 n0 _ T42.heap _
    exact ⟨b1_42, b2_5_12_7_8_42, k2_5_12_7_8_42, rfl, N42, C6, (Nat.le_trans sz_0_6 Q42_0), (Nat.le_trans sz_0_6 Q42_1), Q42_2, Q42_3, Q42_4, Q42_5, Q42_6⟩
  · refine st1 _ ?_
    refine t_dup 4 X1.here hx (hb hby d223) rfl rfl ?_
    refine st3 _ ?_
    refine t_aloadN 8 X3.here hx (hb hby d242) rfl rfl rfl ?_
    refine st8 _ ?_
    refine st12 _ ?_
    refine st20 _ ?_
    refine st21 _ ?_
    refine t_aloadN 20 X21.here hx (hb hby d325) rfl rfl rfl ?_
    refine st30 _ ?_
    refine st33 _ ?_
    refine st42 _ ?_
    jvm_step X42.here [X42.here.top, hx, (hb hby d417), X42.method', hret, Value.isRef, FieldType.isReference]
    first | (intro acts; rw [hr _ acts rfl rfl rfl]) | rw [hr _ _ rfl rfl rfl]
    exact Steps.refl _
def Q_r104_equals (Z : State) (o0 o1 : Addr) (i_1 i_2 i_3 i_4 : Int32) (k_o0 : ClassId) (i_5 : Int32) (k_o1 : ClassId) (h0 : Heap) (n0 : Nat) (v : Option Value) (h : Heap) (L : List Loc) : Prop := v = some (.int 1) ∧ Fr n0 L ∧ h = h0
theorem ef_r104_equals (o0 o1 : Addr) (m : MethodId) : entryFrame m #[(.ref o0), (.ref o1)] 3 = mkF m 0 #[.val (.ref o0), .val (.ref o1), .unset] [] := by first | (simp [entryFrame, mkF, argsToLocals, Value.category]; done) | rfl
set_option maxRecDepth 65536 in
set_option maxHeartbeats 40000000 in
theorem r104_equals (l : Launch) (Z : State) (a0 : Array Value) (hw : HW Z a0) (ws : List Jvm.Cond) (o0 o1 : Addr) (i_1 i_2 i_3 i_4 : Int32) (k_o0 : ClassId) (i_5 : Int32) (k_o1 : ClassId) (h0 : Heap) (n0 : Nat) (Z0 : n0 ≤ h0.size) (V_o0 : Arv Z h0 o0 k_o0 .byte 4 [(.int i_1), (.int i_2), (.int i_3), (.int i_4)] z0) (V_o1 : Arv Z h0 o1 k_o1 .byte 4 [(.int i_1), (.int i_2), (.int i_5), (.int i_4)] z0) (hp0 : i_3 = i_5) :
    MF l Z y39_equals b40_ 3 (some .boolean) ws ⟨0, 0, 0, 0⟩ #[(.ref o0), (.ref o1)] h0 (Q_r104_equals Z o0 o1 i_1 i_2 i_3 i_4 k_o0 i_5 k_o1 h0 n0) := by
  refine own_body (plainFor_of_name pn_StringLatin1120) (ef_r104_equals o0 o1) (by decide) (by decide) ?_
  intro p e s m below meth c s₁ hx hby hml hown hnm hret hZ hh e0 X0
  have N0 := Fr.nil n0
  refine ⟨s₁, _, some (.int 1), X0, (fun h => by cases h <;> rfl), ?_, fun fs hr => ?_⟩
  · show Q_r104_equals Z o0 o1 i_1 i_2 i_3 i_4 k_o0 i_5 k_o1 h0 n0 _ s₁.heap _
    rw [e0]
    exact ⟨rfl, N0, rfl⟩
  · refine t_aloadN 1 X0.here hx (hb hby d439) rfl rfl rfl ?_
    refine own_arlen (pc' := 2) X0 hx hZ e0 V_o0 (hb hby d440) rfl ?_
    refine t_aloadN 3 X0.here hx (hb hby d441) rfl rfl rfl ?_
    refine own_arlen (pc' := 4) X0 hx hZ e0 V_o1 (hb hby d442) rfl ?_
    refine t_icmpNo 7 X0.here hx (hb hby d443) (by decide) rfl ?_
    refine t_iconst 8 (r := 0) X0.here hx (hb hby d444) (by decide) rfl ?_
    refine t_istoreN (pc' := 9) (L' := #[vr o0, vr o1, vi 0]) X0.here hx (hb hby d445) rfl rfl ?_
    refine t_iloadN 10 X0.here hx (hb hby d446) rfl rfl ?_
    refine t_aloadN 11 X0.here hx (hb hby d447) rfl rfl rfl ?_
    refine own_arlen (pc' := 12) X0 hx hZ e0 V_o0 (hb hby d448) rfl ?_
    refine t_icmpNo 15 X0.here hx (hb hby d449) (by decide) rfl ?_
    refine t_aloadN 16 X0.here hx (hb hby d450) rfl rfl rfl ?_
    refine t_iloadN 17 X0.here hx (hb hby d451) rfl rfl ?_
    refine own_aldB (pc' := 18) X0 hx hZ e0 V_o0 (j := 0) (v := (.int i_1)) (by decide) rfl (hb hby d452) rfl ?_
    refine t_aloadN 19 X0.here hx (hb hby d453) rfl rfl rfl ?_
    refine t_iloadN 20 X0.here hx (hb hby d454) rfl rfl ?_
    refine own_aldB (pc' := 21) X0 hx hZ e0 V_o1 (j := 0) (v := (.int i_1)) (by decide) rfl (hb hby d455) rfl ?_
    refine t_icmpYes (pc := 21) 26 X0.here hx (hb hby d456) (teq (rfl : i_1 = i_1)).1 (by decide) (by decide) ?_
    refine t_iinc (pc' := 29) (L' := #[vr o0, vr o1, vi 1]) X0.here hx (hb hby d457) rfl (by first | rfl | decide) rfl ?_
    refine t_goto (pc := 29) 9 X0.here hx (hb hby d458) (by decide) (by decide) ?_
    refine t_iloadN 10 X0.here hx (hb hby d446) rfl rfl ?_
    refine t_aloadN 11 X0.here hx (hb hby d447) rfl rfl rfl ?_
    refine own_arlen (pc' := 12) X0 hx hZ e0 V_o0 (hb hby d448) rfl ?_
    refine t_icmpNo 15 X0.here hx (hb hby d449) (by decide) rfl ?_
    refine t_aloadN 16 X0.here hx (hb hby d450) rfl rfl rfl ?_
    refine t_iloadN 17 X0.here hx (hb hby d451) rfl rfl ?_
    refine own_aldB (pc' := 18) X0 hx hZ e0 V_o0 (j := 1) (v := (.int i_2)) (by decide) rfl (hb hby d452) rfl ?_
    refine t_aloadN 19 X0.here hx (hb hby d453) rfl rfl rfl ?_
    refine t_iloadN 20 X0.here hx (hb hby d454) rfl rfl ?_
    refine own_aldB (pc' := 21) X0 hx hZ e0 V_o1 (j := 1) (v := (.int i_2)) (by decide) rfl (hb hby d455) rfl ?_
    refine t_icmpYes (pc := 21) 26 X0.here hx (hb hby d456) (teq (rfl : i_2 = i_2)).1 (by decide) (by decide) ?_
    refine t_iinc (pc' := 29) (L' := #[vr o0, vr o1, vi 2]) X0.here hx (hb hby d457) rfl (by first | rfl | decide) rfl ?_
    refine t_goto (pc := 29) 9 X0.here hx (hb hby d458) (by decide) (by decide) ?_
    refine t_iloadN 10 X0.here hx (hb hby d446) rfl rfl ?_
    refine t_aloadN 11 X0.here hx (hb hby d447) rfl rfl rfl ?_
    refine own_arlen (pc' := 12) X0 hx hZ e0 V_o0 (hb hby d448) rfl ?_
    refine t_icmpNo 15 X0.here hx (hb hby d449) (by decide) rfl ?_
    refine t_aloadN 16 X0.here hx (hb hby d450) rfl rfl rfl ?_
    refine t_iloadN 17 X0.here hx (hb hby d451) rfl rfl ?_
    refine own_aldB (pc' := 18) X0 hx hZ e0 V_o0 (j := 2) (v := (.int i_3)) (by decide) rfl (hb hby d452) rfl ?_
    refine t_aloadN 19 X0.here hx (hb hby d453) rfl rfl rfl ?_
    refine t_iloadN 20 X0.here hx (hb hby d454) rfl rfl ?_
    refine own_aldB (pc' := 21) X0 hx hZ e0 V_o1 (j := 2) (v := (.int i_5)) (by decide) rfl (hb hby d455) rfl ?_
    refine t_icmpYes (pc := 21) 26 X0.here hx (hb hby d456) (teq hp0).1 (by decide) (by decide) ?_
    refine t_iinc (pc' := 29) (L' := #[vr o0, vr o1, vi 3]) X0.here hx (hb hby d457) rfl (by first | rfl | decide) rfl ?_
    refine t_goto (pc := 29) 9 X0.here hx (hb hby d458) (by decide) (by decide) ?_
    refine t_iloadN 10 X0.here hx (hb hby d446) rfl rfl ?_
    refine t_aloadN 11 X0.here hx (hb hby d447) rfl rfl rfl ?_
    refine own_arlen (pc' := 12) X0 hx hZ e0 V_o0 (hb hby d448) rfl ?_
    refine t_icmpNo 15 X0.here hx (hb hby d449) (by decide) rfl ?_
    refine t_aloadN 16 X0.here hx (hb hby d450) rfl rfl rfl ?_
    refine t_iloadN 17 X0.here hx (hb hby d451) rfl rfl ?_
    refine own_aldB (pc' := 18) X0 hx hZ e0 V_o0 (j := 3) (v := (.int i_4)) (by decide) rfl (hb hby d452) rfl ?_
    refine t_aloadN 19 X0.here hx (hb hby d453) rfl rfl rfl ?_
    refine t_iloadN 20 X0.here hx (hb hby d454) rfl rfl ?_
    refine own_aldB (pc' := 21) X0 hx hZ e0 V_o1 (j := 3) (v := (.int i_4)) (by decide) rfl (hb hby d455) rfl ?_
    refine t_icmpYes (pc := 21) 26 X0.here hx (hb hby d456) (teq (rfl : i_4 = i_4)).1 (by decide) (by decide) ?_
    refine t_iinc (pc' := 29) (L' := #[vr o0, vr o1, vi 4]) X0.here hx (hb hby d457) rfl (by first | rfl | decide) rfl ?_
    refine t_goto (pc := 29) 9 X0.here hx (hb hby d458) (by decide) (by decide) ?_
    refine t_iloadN 10 X0.here hx (hb hby d446) rfl rfl ?_
    refine t_aloadN 11 X0.here hx (hb hby d447) rfl rfl rfl ?_
    refine own_arlen (pc' := 12) X0 hx hZ e0 V_o0 (hb hby d448) rfl ?_
    refine t_icmpYes (pc := 12) 32 X0.here hx (hb hby d449) (by decide) (by decide) (by decide) ?_
    refine t_iconst 33 (r := 1) X0.here hx (hb hby d459) (by decide) rfl ?_
    exact retN X0 hx (t := .boolean) hret (by simp) (hb hby d460) hr
def Q_r103_equals (Z : State) (o0 o1 : Addr) (i_3 : Int32) (o_7 o_9 : Addr) (i_11 i_12 i_13 i_14 : Int32) (k_o_7 : ClassId) (i_15 : Int32) (k_o_9 : ClassId) (h0 : Heap) (n0 : Nat) (v : Option Value) (h : Heap) (L : List Loc) : Prop := v = some (.int 1) ∧ Fr n0 L ∧ h = h0
theorem ef_r103_equals (o0 o1 : Addr) (m : MethodId) : entryFrame m #[(.ref o0), (.ref o1)] 3 = mkF m 0 #[.val (.ref o0), .val (.ref o1), .unset] [] := by first | (simp [entryFrame, mkF, argsToLocals, Value.category]; done) | rfl
set_option maxRecDepth 65536 in
set_option maxHeartbeats 40000000 in
theorem r103_equals (l : Launch) (Z : State) (a0 : Array Value) (hw : HW Z a0) (ws : List Jvm.Cond) (o0 o1 : Addr) (i_3 : Int32) (o_7 o_9 : Addr) (i_11 i_12 i_13 i_14 : Int32) (k_o_7 : ClassId) (i_15 : Int32) (k_o_9 : ClassId) (h0 : Heap) (n0 : Nat) (Z0 : n0 ≤ h0.size) (ne_o0_o1 : o0 ≠ o1) (E_o1 : Ex0 Z h0 o1) (sCS : SCS Z i_3) (O0 : Old Z n0 h0) (hp0 : ¬ (i_3 = (0 : Int32))) (F_o0_coder : Fd0 Z h0 o0 z0) (F_o1_coder : Fd0 Z h0 o1 z0) (F_o0_value : Fd1 Z h0 o0 (.ref o_7)) (F_o1_value : Fd1 Z h0 o1 (.ref o_9)) (V_o_7 : Arv Z h0 o_7 k_o_7 .byte 4 [(.int i_11), (.int i_12), (.int i_13), (.int i_14)] z0) (V_o_9 : Arv Z h0 o_9 k_o_9 .byte 4 [(.int i_11), (.int i_12), (.int i_15), (.int i_14)] z0) (hp1 : i_13 = i_15) :
    MF l Z y40_equals b39_ 3 (some .boolean) ws ⟨1, 0, 0, 14⟩ #[(.ref o0), (.ref o1)] h0 (Q_r103_equals Z o0 o1 i_3 o_7 o_9 i_11 i_12 i_13 i_14 k_o_7 i_15 k_o_9 h0 n0) := by
  refine own_body (plainFor_of_name pn_String564) (ef_r103_equals o0 o1) (by decide) (by decide) ?_
  intro p e s m below meth c s₁ hx hby hml hown hnm hret hZ hh e0 X0
  have N0 := Fr.nil n0
  obtain ⟨T1, X1, e1, st1⟩ := instY X0 hx hZ hown (w214 hw) e0 (Ins.self E_o1) (g := (mkF m 8 #[vr o0, vr o1, .unset] [(.ref o1)])) rfl rfl (hb hby d422)
  obtain ⟨T2, X2, e2, st2⟩ := castY X1 hx hZ hown (w214 hw) e1 (Ins.self E_o1) (g := (mkF m 15 #[vr o0, vr o1, .unset] [(.ref o1)])) rfl rfl (hb hby d425)
  obtain ⟨T4, X4, e4, st4⟩ := getS2 X2 hx hZ hown (host := "") (Or.inl (w18 hw)) Via.refl e2 (Sta.ext O0.2 sCS) (g := (mkF m 19 #[vr o0, vr o1, vr o1] [])) rfl (hb hby d427)
  obtain ⟨T5, X5, e5, st5⟩ := getF X4 hx hZ hown (host := "") (Or.inl (w30 hw)) Via.refl e4 F_o0_coder (g := (mkF m 26 #[vr o0, vr o1, vr o1] [(.ref o0)])) rfl rfl (hb hby d430)
  obtain ⟨T6, X6, e6, st6⟩ := getF X5 hx hZ hown (host := "") (Or.inl (w30 hw)) Via.refl e5 F_o1_coder (g := (mkF m 30 #[vr o0, vr o1, vr o1] [(.ref o1), z0])) rfl rfl (hb hby d432)
  obtain ⟨T8, X8, e8, st8⟩ := getF X6 hx hZ hown (host := "") (Or.inl (w32 hw)) Via.refl e6 F_o0_value (g := (mkF m 37 #[vr o0, vr o1, vr o1] [(.ref o0)])) rfl rfl (hb hby d435)
  obtain ⟨T10, X10, e10, st10⟩ := getF X8 hx hZ hown (host := "") (Or.inl (w32 hw)) Via.refl e8 F_o1_value (g := (mkF m 41 #[vr o0, vr o1, vr o1] [(.ref o1), (.ref o_7)])) rfl rfl (hb hby d437)
  obtain ⟨_, T16, L16, X16, hQ16, st16⟩ := own_static X10 hx hZ hown (w215 hw) (w216 hw) (w86 hw) (w217 hw) (by decide) (r104_equals l Z a0 hw [] o_7 o_9 i_11 i_12 i_13 i_14 k_o_7 i_15 k_o_9 h0 n0 Z0 V_o_7 V_o_9 hp1) e10 (W := 0) (by decide) (g := (mkF m 44 #[vr o0, vr o1, vr o1] [(.ref o_9), (.ref o_7)])) rfl hml.symm (argsL := [(.ref o_7), (.ref o_9)]) (rest := []) (lenOf pd_28 rfl) rfl rfl (own_wr rfl rfl) (hb hby d438)
  obtain ⟨rfl, N16q, e16⟩ := hQ16
  have N16 := Fr.app N0 N16q
  refine ⟨T16, _, some (.int 1), X16, (fun h => by cases h <;> rfl), ?_, fun fs hr => ?_⟩
  · show Q_r103_equals Z o0 o1 i_3 o_7 o_9 i_11 i_12 i_13 i_14 k_o_7 i_15 k_o_9 h0 n0 _ T16.heap _
    rw [e16]
    exact ⟨rfl, N16, rfl⟩
  · refine t_aloadN 1 X0.here hx (hb hby d418) rfl rfl rfl ?_
    refine t_aloadN 2 X0.here hx (hb hby d419) rfl rfl rfl ?_
    refine Jvm.RoadKit.acmp (g := (mkF m 2 #[vr o0, vr o1, .unset] [(.ref o1), (.ref o0)])) X0 hx rfl rfl rfl (pc0 := 2) (pc' := 7) (same := false) rfl (hb hby d420) rfl (decide_eq_false fun q => absurd (Value.ref.inj q) ne_o0_o1) (by decide) (by decide) ?_
    refine t_aloadN 8 X0.here hx (hb hby d421) rfl rfl rfl ?_
    refine st1 _ ?_
    refine t_ifNo 14 X1.here hx (hb hby d423) (by decide) rfl ?_
    refine t_aloadN 15 X1.here hx (hb hby d424) rfl rfl rfl ?_
    refine st2 _ ?_
    refine t_astoreN (pc' := 19) (L' := #[vr o0, vr o1, vr o1]) X2.here hx (hb hby d426) rfl rfl rfl ?_
    refine st4 _ ?_
    refine t_ifNo 25 X4.here hx (hb hby d428) ((if0 _ _).trans (feq hp0).1) rfl ?_
    refine t_aloadN 26 X4.here hx (hb hby d429) rfl rfl rfl ?_
    refine st5 _ ?_
    refine t_aloadN 30 X5.here hx (hb hby d431) rfl rfl rfl ?_
    refine st6 _ ?_
    refine t_icmpNo 36 X6.here hx (hb hby d433) (by decide) rfl ?_
    refine t_aloadN 37 X6.here hx (hb hby d434) rfl rfl rfl ?_
    refine st8 _ ?_
    refine t_aloadN 41 X8.here hx (hb hby d436) rfl rfl rfl ?_
    refine st10 _ ?_
    refine st16 _ ?_
    refine t_ifNo 50 X16.here hx (hb hby d461) (by decide) rfl ?_
    refine t_iconst 51 (r := 1) X16.here hx (hb hby d462) (by decide) rfl ?_
    refine t_goto (pc := 51) 55 X16.here hx (hb hby d463) (by decide) (by decide) ?_
    exact retN X16 hx (t := .boolean) hret (by simp) (hb hby d464) hr
theorem ef_law_ft (p0 p1 : Int32) (m : MethodId) : entryFrame m #[(.int p0), (.int p1)] maxLocals = mkF m 0 #[.val (.int p0), .val (.int p1), .unset, .unset, .unset, .unset, .unset, .unset, .unset, .unset, .unset, .unset, .unset] [] := by first | (simp [entryFrame, mkF, argsToLocals, Value.category, maxLocals]; done) | rfl
set_option maxRecDepth 65536 in
set_option maxHeartbeats 40000000 in
theorem law_ft (l : Launch) (Z : State) (a0 : Array Value) (hw : HW Z a0) (ws : List Jvm.Cond) (p0 p1 cs : Int32) (h0 : Heap) (n0 : Nat) (Z0 : n0 ≤ h0.size) (hcs : ¬ (cs = (0 : Int32))) (hp0 : ¬ (((own_u16 p0) &&& (1 : Int32)) = (0 : Int32))) (hp1 : ((own_u16 p1) &&& (1 : Int32)) = (0 : Int32)) (sCS : SCS Z cs) (O0 : Old Z n0 h0) :
    MetFree l x (head1 (Jvm.Cond.code x code maxLocals ret :: ws) room_1) (fun a U => a = #[(.int p0), (.int p1)] ∧ Z.Warmed39 U.vm ∧ U.heap = h0 ∧ CHv Z consts_1 U.vm h0 ∧ ∀ x ∈ ([] : List Addr), Safe Z consts_1 U.vm h0 x) (fun _ _ _ _ _ => True) (fun _ U o U' => ∃ v L, o = .returned v ∧ Q_law n0 v L ∧ CHr Z consts_1 U.vm U.heap U'.vm U'.heap ∧ ReturnedEndW U o U' L 48 3328) := by
  refine own_bodyH (k := 20) (n := 104) (y := x) (Q := fun v _ L => Q_law n0 v L) (own_EW hw) (plainFor_of_name pn_IdentifierToStringPinLaw460) (ef_law_ft p0 p1) (by decide) (by decide) ?_
  intro p e s m below meth c s₁ hx hby hml hown hnm hret hZ e0 hS0 hk0 X0 hC0 hSF0
  have N0 := Fr.nil n0
  obtain ⟨_, T1, L1, X1, hQ1, st1⟩ := own_static X0 hx hZ hown (w0 hw) (w1 hw) (w2 hw) (w3 hw) (by decide) (r_sys l Z a0 hw [] p0 h0 n0 Z0) e0 (W := 0) (by decide) (g := (mkF m 1 #[vi p0, vi p1, .unset, .unset, .unset, .unset, .unset, .unset, .unset, .unset, .unset, .unset, .unset] [(.int p0)])) rfl hml.symm (argsL := [(.int p0)]) (rest := []) (lenOf pd_0 rfl) rfl rfl (own_wr rfl rfl) (hb hby at_1)
  obtain ⟨rfl, N1q, e1⟩ := hQ1
  have N1 := Fr.app N0 N1q
  obtain ⟨_, T2, L2, X2, hQ2, st2⟩ := own_static X1 hx hZ hown (w0 hw) (w1 hw) (w2 hw) (w3 hw) (by decide) (r_sys l Z a0 hw [] (own_u8 p0) h0 n0 Z0) e1 (W := 0) (by decide) (g := (mkF m 9 #[vi p0, vi p1, vi ((own_sys p0)), .unset, .unset, .unset, .unset, .unset, .unset, .unset, .unset, .unset, .unset] [(.int (own_u8 p0))])) rfl hml.symm (argsL := [(.int (own_u8 p0))]) (rest := []) (lenOf pd_0 rfl) rfl rfl (own_wr rfl rfl) (hb hby at_9)
  obtain ⟨rfl, N2q, e2⟩ := hQ2
  have N2 := Fr.app N1 N2q
  obtain ⟨T3, h3, X3, e3, E3, A3, D3, -, st3⟩ := newO X2 hx hZ hown (w4 hw) (w5 hw) (w6 hw) e2 (g := (mkF m 69 #[vi p0, vi p1, vi ((own_sys p0)), vi ((own_sys (own_u8 p0))), vi 1, vi ((p1 &&& (255 : Int32))), vi (((own_u8 p1) &&& (255 : Int32))), vi 0, .unset, .unset, .unset, .unset, .unset] [])) rfl (hb hby at_69) (by decide) (by decide)
  obtain ⟨b3, g3⟩ : ∃ z, z = h0.size := ⟨_, rfl⟩
  rw [← g3] at A3 D3 st3
  have ge_b3 : h0.size ≤ b3 := Nat.le_of_eq g3.symm
  have K3 := KL.ofE E3
  have Ck0 := own_chK K3 na0 (CHr.refl hC0).1
  have Ah1 := (CHr.refl hC0).trans Ck0.1
  have F_b3_coder : Fd0 Z h3 b3 z0 := D3 (Or.inr (w31 hw)) (ty := .byte) (by decide)
  have F_b3_value : Fd1 Z h3 b3 .null := D3 (Or.inr (w33 hw)) (ty := (.array .byte)) (by decide)
  obtain ⟨T4, h4, k4, X4, e4, E4, A4, st4⟩ := newP (aty := .char) X3 hx hZ (w7 hw) e3 (g := (mkF m 74 #[vi p0, vi p1, vi ((own_sys p0)), vi ((own_sys (own_u8 p0))), vi 1, vi ((p1 &&& (255 : Int32))), vi (((own_u8 p1) &&& (255 : Int32))), vi 0, .unset, .unset, .unset, .unset, .unset] [(.int 2), (.ref b3), (.ref b3)])) rfl (hb hby at_74) rfl (by decide) (cap := 2) (by decide) (by decide) (by decide) (by decide)
  obtain ⟨b4, g4⟩ : ∃ z, z = h3.size := ⟨_, rfl⟩
  rw [← g4] at A4 st4
  have ge_b4 : h3.size ≤ b4 := Nat.le_of_eq g4.symm
  have K4 := KL.ofE E4
  have Ck1 := own_chK K4 na0 Ah1.1
  have Ah2 := Ah1.trans Ck1.1
  have V4 : Arv Z h4 b4 k4 .char 2 [z0, z0] z0 := (Arv.new A4 (by decide)).pad (pad_rep [] z0 2)
  obtain ⟨T5, h5, X5, e5, W5, V5, st5⟩ := own_astC X4 hx hZ e4 V4 (j := 0) (by decide) 0 rfl (Nat.le_of_ble_eq_true rfl) (g := (mkF m 79 #[vi p0, vi p1, vi ((own_sys p0)), vi ((own_sys (own_u8 p0))), vi 1, vi ((p1 &&& (255 : Int32))), vi (((own_u8 p1) &&& (255 : Int32))), vi 0, .unset, .unset, .unset, .unset, .unset] [(.int (own_sys p0)), z0, (.ref b4), (.ref b4), (.ref b3), (.ref b3)])) rfl rfl (hb hby at_79)
  rw [show (nar .char (own_sys p0)) = (own_sys p0) from (own_c2c (own_sysa _) (own_sysb _))] at V5
  have K5 := KL.ofW W5
  have Ck2 := own_chK K5 (naF (Ck1.2 _ (Safe.new ge_b4)) na0) Ah2.1
  have Ah3 := Ah2.trans Ck2.1
  replace V5 : Arv Z h5 b4 k4 .char 2 [(.int (own_sys p0)), z0] z0 := V5
  have N5 := Fr.snoc X5 N2 (Nat.le_trans Z0 (Nat.le_trans K3.1 ge_b4))
  obtain ⟨T6, h6, X6, e6, W6, V6, st6⟩ := own_astC X5 hx hZ e5 V5 (j := 1) (by decide) 1 rfl (Nat.le_of_ble_eq_true rfl) (g := (mkF m 83 #[vi p0, vi p1, vi ((own_sys p0)), vi ((own_sys (own_u8 p0))), vi 1, vi ((p1 &&& (255 : Int32))), vi (((own_u8 p1) &&& (255 : Int32))), vi 0, .unset, .unset, .unset, .unset, .unset] [(.int (own_sys (own_u8 p0))), (.int 1), (.ref b4), (.ref b4), (.ref b3), (.ref b3)])) rfl rfl (hb hby at_83)
  rw [show (nar .char (own_sys (own_u8 p0))) = (own_sys (own_u8 p0)) from (own_c2c (own_sysa _) (own_sysb _))] at V6
  have K6 := KL.ofW W6
  have Ck3 := own_chK K6 (naF (Ck2.2 _ (Ck1.2 _ (Safe.new ge_b4))) na0) Ah3.1
  have Ah4 := Ah3.trans Ck3.1
  replace V6 : Arv Z h6 b4 k4 .char 2 [(.int (own_sys p0)), (.int (own_sys (own_u8 p0)))] z0 := V6
  have N6 := Fr.snoc X6 N5 (Nat.le_trans Z0 (Nat.le_trans K3.1 ge_b4))
  have lt_b3 : b3 < h3.size := Exa.lt A3
  have f8 := (kFld K6 (kFld K5 (kFld K4 F_b3_coder nw0) (nwS (Or.inl (lt_ne lt_b3 ge_b4)) nw0)) (nwS (Or.inl (lt_ne lt_b3 ge_b4)) nw0))
  have f9 := (kExa K6 (kExa K5 (kExa K4 A3)))
  have f10 := (kFld K6 (kFld K5 (kFld K4 F_b3_value nw0) (nwS (Or.inl (lt_ne lt_b3 ge_b4)) nw0)) (nwS (Or.inl (lt_ne lt_b3 ge_b4)) nw0))
  have f11 := (kOld K6 (kOld K5 (kOld K4 (kOld K3 O0 na0) na0) (naS (P := fun w => n0 ≤ w.1) (Nat.le_trans Z0 (Nat.le_trans K3.1 ge_b4)) na0)) (naS (P := fun w => n0 ≤ w.1) (Nat.le_trans Z0 (Nat.le_trans K3.1 ge_b4)) na0))
  have sz_0_2 := (Nat.le_trans K3.1 K4.1)
  have sz_0_3 := (Nat.le_trans sz_0_2 K5.1)
  have sz_0_4 := (Nat.le_trans sz_0_3 K6.1)
  obtain ⟨_, T7, L7, X7, hQ7, st7⟩ := own_init X6 hx hZ rfl hown (w8 hw) (w9 hw) (w6 hw) (w10 hw) (by decide) (r57__init_ l Z a0 hw [] b3 b4 (own_sys p0) (own_sys (own_u8 p0)) k4 cs h6 n0 (Nat.le_trans Z0 sz_0_4) V6 sCS f8 f9 f10 f11 hcs (own_sysb _) (own_sysb _) (Nat.le_trans Z0 ge_b3)) e6 (W := 1) (by decide) (g := (mkF m 84 #[vi p0, vi p1, vi ((own_sys p0)), vi ((own_sys (own_u8 p0))), vi 1, vi ((p1 &&& (255 : Int32))), vi (((own_u8 p1) &&& (255 : Int32))), vi 0, .unset, .unset, .unset, .unset, .unset] [(.ref b4), (.ref b3), (.ref b3)])) rfl hml.symm (argsL := [(.ref b4)]) (rest := [(.ref b3)]) (lenOf pd_5 rfl) rfl rfl (own_wr rfl rfl) (hb hby at_84)
  obtain ⟨b1_6_4_7, k1_6_4_7, rfl, N7q, K7, Q7_0, Q7_1, Q7_2, Q7_3⟩ := hQ7
  have N7 := Fr.app N6 N7q
  have Ck4 := own_chK K7 (naF (Ck3.2 _ (Ck2.2 _ (Ck1.2 _ (Ck0.2 _ (Safe.new ge_b3))))) (naF (Ck3.2 _ (Ck2.2 _ (Ck1.2 _ (Ck0.2 _ (Safe.new ge_b3))))) na0)) Ah4.1
  have Ah5 := Ah4.trans Ck4.1
  obtain ⟨T13, h13, X13, e13, E13, A13, D13, -, st13⟩ := newO X7 hx hZ hown (w4 hw) (w5 hw) (w6 hw) rfl (g := (mkF m 147 #[vi p0, vi p1, vi ((own_sys p0)), vi ((own_sys (own_u8 p0))), vi 1, vi ((p1 &&& (255 : Int32))), vi (((own_u8 p1) &&& (255 : Int32))), vi 0, vr b3, .unset, .unset, .unset, .unset] [])) rfl (hb hby at_147) (by decide) (by decide)
  obtain ⟨b13, g13⟩ : ∃ z, z = T7.heap.size := ⟨_, rfl⟩
  rw [← g13] at A13 D13 st13
  have ge_b13 : T7.heap.size ≤ b13 := Nat.le_of_eq g13.symm
  have K13 := KL.ofE E13
  have Ck5 := own_chK K13 na0 Ah5.1
  have Ah6 := Ah5.trans Ck5.1
  have F_b13_coder : Fd0 Z h13 b13 z0 := D13 (Or.inr (w31 hw)) (ty := .byte) (by decide)
  have F_b13_value : Fd1 Z h13 b13 .null := D13 (Or.inr (w33 hw)) (ty := (.array .byte)) (by decide)
  obtain ⟨T14, h14, k14, X14, e14, E14, A14, st14⟩ := newP (aty := .char) X13 hx hZ (w7 hw) e13 (g := (mkF m 152 #[vi p0, vi p1, vi ((own_sys p0)), vi ((own_sys (own_u8 p0))), vi 1, vi ((p1 &&& (255 : Int32))), vi (((own_u8 p1) &&& (255 : Int32))), vi 0, vr b3, .unset, .unset, .unset, .unset] [(.int 1), (.ref b13), (.ref b13)])) rfl (hb hby at_152) rfl (by decide) (cap := 1) (by decide) (by decide) (by decide) (by decide)
  obtain ⟨b14, g14⟩ : ∃ z, z = h13.size := ⟨_, rfl⟩
  rw [← g14] at A14 st14
  have ge_b14 : h13.size ≤ b14 := Nat.le_of_eq g14.symm
  have K14 := KL.ofE E14
  have Ck6 := own_chK K14 na0 Ah6.1
  have Ah7 := Ah6.trans Ck6.1
  have V14 : Arv Z h14 b14 k14 .char 1 [z0] z0 := (Arv.new A14 (by decide)).pad (pad_rep [] z0 1)
  obtain ⟨T15, h15, X15, e15, W15, V15, st15⟩ := own_astC X14 hx hZ e14 V14 (j := 0) (by decide) 0 rfl (Nat.le_of_ble_eq_true rfl) (g := (mkF m 158 #[vi p0, vi p1, vi ((own_sys p0)), vi ((own_sys (own_u8 p0))), vi 1, vi ((p1 &&& (255 : Int32))), vi (((own_u8 p1) &&& (255 : Int32))), vi 0, vr b3, .unset, .unset, .unset, .unset] [(.int (p1 &&& (255 : Int32))), z0, (.ref b14), (.ref b14), (.ref b13), (.ref b13)])) rfl rfl (hb hby at_158)
  rw [show (nar .char (p1 &&& (255 : Int32))) = (p1 &&& (255 : Int32)) from (i2c_mask _)] at V15
  have sz_0_5 := (Nat.le_trans sz_0_4 K7.1)
  have sz_0_6 := (Nat.le_trans sz_0_5 K13.1)
  have K15 := KL.ofW W15
  have Ck7 := own_chK K15 (naF (Ck6.2 _ (Safe.new ge_b14)) na0) Ah7.1
  have Ah8 := Ah7.trans Ck7.1
  replace V15 : Arv Z h15 b14 k14 .char 1 [(.int (p1 &&& (255 : Int32)))] z0 := V15
  have N15 := Fr.snoc X15 N7 (Nat.le_trans Z0 (Nat.le_trans sz_0_6 ge_b14))
  have lt_b13 : b13 < h13.size := Exa.lt A13
  have f17 := (kFld K15 (kFld K14 F_b13_coder nw0) (nwS (Or.inl (lt_ne lt_b13 ge_b14)) nw0))
  have f18 := (kExa K15 (kExa K14 A13))
  have f19 := (kFld K15 (kFld K14 F_b13_value nw0) (nwS (Or.inl (lt_ne lt_b13 ge_b14)) nw0))
  have f20 := (kOld K15 (kOld K14 (kOld K13 (kOld K7 f11 (naS (P := fun w => n0 ≤ w.1) (Nat.le_trans Z0 ge_b3) (naS (P := fun w => n0 ≤ w.1) (Nat.le_trans Z0 ge_b3) na0))) na0) na0) (naS (P := fun w => n0 ≤ w.1) (Nat.le_trans Z0 (Nat.le_trans sz_0_6 ge_b14)) na0))
  have sz_0_7 := (Nat.le_trans sz_0_6 K14.1)
  have sz_0_8 := (Nat.le_trans sz_0_7 K15.1)
  obtain ⟨_, T16, L16, X16, hQ16, st16⟩ := own_init X15 hx hZ rfl hown (w8 hw) (w9 hw) (w6 hw) (w10 hw) (by decide) (r1__init_ l Z a0 hw [] b13 b14 (p1 &&& (255 : Int32)) k14 cs h15 n0 (Nat.le_trans Z0 sz_0_8) V15 sCS f17 f18 f19 f20 hcs (own_m255b _) (Nat.le_trans Z0 (Nat.le_trans sz_0_5 ge_b13))) e15 (W := 1) (by decide) (g := (mkF m 159 #[vi p0, vi p1, vi ((own_sys p0)), vi ((own_sys (own_u8 p0))), vi 1, vi ((p1 &&& (255 : Int32))), vi (((own_u8 p1) &&& (255 : Int32))), vi 0, vr b3, .unset, .unset, .unset, .unset] [(.ref b14), (.ref b13), (.ref b13)])) rfl hml.symm (argsL := [(.ref b14)]) (rest := [(.ref b13)]) (lenOf pd_5 rfl) rfl rfl (own_wr rfl rfl) (hb hby at_159)
  obtain ⟨b1_5_3_16, k1_5_3_16, rfl, N16q, K16, Q16_0, Q16_1, Q16_2, Q16_3⟩ := hQ16
  have N16 := Fr.app N15 N16q
  have Ck8 := own_chK K16 (naF (Ck7.2 _ (Ck6.2 _ (Ck5.2 _ (Safe.new ge_b13)))) (naF (Ck7.2 _ (Ck6.2 _ (Ck5.2 _ (Safe.new ge_b13)))) na0)) Ah8.1
  have Ah9 := Ah8.trans Ck8.1
  obtain ⟨T22, h22, k22, X22, e22, E22, A22, st22⟩ := newP (aty := .char) X16 hx hZ (w7 hw) rfl (g := (mkF m 165 #[vi p0, vi p1, vi ((own_sys p0)), vi ((own_sys (own_u8 p0))), vi 1, vi ((p1 &&& (255 : Int32))), vi (((own_u8 p1) &&& (255 : Int32))), vi 0, vr b3, vr b13, .unset, .unset, .unset] [(.int 4)])) rfl (hb hby at_165) rfl (by decide) (cap := 4) (by decide) (by decide) (by decide) (by decide)
  obtain ⟨b22, g22⟩ : ∃ z, z = T16.heap.size := ⟨_, rfl⟩
  rw [← g22] at A22 st22
  have ge_b22 : T16.heap.size ≤ b22 := Nat.le_of_eq g22.symm
  have K22 := KL.ofE E22
  have Ck9 := own_chK K22 na0 Ah9.1
  have Ah10 := Ah9.trans Ck9.1
  have V22 : Arv Z h22 b22 k22 .char 4 [z0, z0, z0, z0] z0 := (Arv.new A22 (by decide)).pad (pad_rep [] z0 4)
  obtain ⟨T23, h23, X23, e23, W23, V23, st23⟩ := own_astC X22 hx hZ e22 V22 (j := 0) (by decide) 0 rfl (Nat.le_of_ble_eq_true rfl) (g := (mkF m 170 #[vi p0, vi p1, vi ((own_sys p0)), vi ((own_sys (own_u8 p0))), vi 1, vi ((p1 &&& (255 : Int32))), vi (((own_u8 p1) &&& (255 : Int32))), vi 0, vr b3, vr b13, .unset, .unset, .unset] [(.int (own_sys p0)), z0, (.ref b22), (.ref b22)])) rfl rfl (hb hby at_170)
  rw [show (nar .char (own_sys p0)) = (own_sys p0) from (own_c2c (own_sysa _) (own_sysb _))] at V23
  have sz_0_9 := (Nat.le_trans sz_0_8 K16.1)
  have K23 := KL.ofW W23
  have Ck10 := own_chK K23 (naF (Ck9.2 _ (Safe.new ge_b22)) na0) Ah10.1
  have Ah11 := Ah10.trans Ck10.1
  replace V23 : Arv Z h23 b22 k22 .char 4 [(.int (own_sys p0)), z0, z0, z0] z0 := V23
  have N23 := Fr.snoc X23 N16 (Nat.le_trans Z0 (Nat.le_trans sz_0_9 ge_b22))
  obtain ⟨T24, h24, X24, e24, W24, V24, st24⟩ := own_astC X23 hx hZ e23 V23 (j := 1) (by decide) 1 rfl (Nat.le_of_ble_eq_true rfl) (g := (mkF m 174 #[vi p0, vi p1, vi ((own_sys p0)), vi ((own_sys (own_u8 p0))), vi 1, vi ((p1 &&& (255 : Int32))), vi (((own_u8 p1) &&& (255 : Int32))), vi 0, vr b3, vr b13, .unset, .unset, .unset] [(.int (own_sys (own_u8 p0))), (.int 1), (.ref b22), (.ref b22)])) rfl rfl (hb hby at_174)
  rw [show (nar .char (own_sys (own_u8 p0))) = (own_sys (own_u8 p0)) from (own_c2c (own_sysa _) (own_sysb _))] at V24
  have K24 := KL.ofW W24
  have Ck11 := own_chK K24 (naF (Ck10.2 _ (Ck9.2 _ (Safe.new ge_b22))) na0) Ah11.1
  have Ah12 := Ah11.trans Ck11.1
  replace V24 : Arv Z h24 b22 k22 .char 4 [(.int (own_sys p0)), (.int (own_sys (own_u8 p0))), z0, z0] z0 := V24
  have N24 := Fr.snoc X24 N23 (Nat.le_trans Z0 (Nat.le_trans sz_0_9 ge_b22))
  obtain ⟨T25, h25, X25, e25, W25, V25, st25⟩ := own_astC X24 hx hZ e24 V24 (j := 2) (by decide) 2 rfl (Nat.le_of_ble_eq_true rfl) (g := (mkF m 179 #[vi p0, vi p1, vi ((own_sys p0)), vi ((own_sys (own_u8 p0))), vi 1, vi ((p1 &&& (255 : Int32))), vi (((own_u8 p1) &&& (255 : Int32))), vi 0, vr b3, vr b13, .unset, .unset, .unset] [(.int 58), (.int 2), (.ref b22), (.ref b22)])) rfl rfl (hb hby at_179)
  rw [show (nar .char 58) = (58 : Int32) from (by decide : (nar .char 58) = (58 : Int32))] at V25
  have K25 := KL.ofW W25
  have Ck12 := own_chK K25 (naF (Ck11.2 _ (Ck10.2 _ (Ck9.2 _ (Safe.new ge_b22)))) na0) Ah12.1
  have Ah13 := Ah12.trans Ck12.1
  replace V25 : Arv Z h25 b22 k22 .char 4 [(.int (own_sys p0)), (.int (own_sys (own_u8 p0))), (.int 58), z0] z0 := V25
  have N25 := Fr.snoc X25 N24 (Nat.le_trans Z0 (Nat.le_trans sz_0_9 ge_b22))
  obtain ⟨T26, h26, X26, e26, W26, V26, st26⟩ := own_astC X25 hx hZ e25 V25 (j := 3) (by decide) 3 rfl (Nat.le_of_ble_eq_true rfl) (g := (mkF m 184 #[vi p0, vi p1, vi ((own_sys p0)), vi ((own_sys (own_u8 p0))), vi 1, vi ((p1 &&& (255 : Int32))), vi (((own_u8 p1) &&& (255 : Int32))), vi 0, vr b3, vr b13, .unset, .unset, .unset] [(.int (p1 &&& (255 : Int32))), (.int 3), (.ref b22), (.ref b22)])) rfl rfl (hb hby at_184)
  rw [show (nar .char (p1 &&& (255 : Int32))) = (p1 &&& (255 : Int32)) from (i2c_mask _)] at V26
  have K26 := KL.ofW W26
  have Ck13 := own_chK K26 (naF (Ck12.2 _ (Ck11.2 _ (Ck10.2 _ (Ck9.2 _ (Safe.new ge_b22))))) na0) Ah13.1
  have Ah14 := Ah13.trans Ck13.1
  replace V26 : Arv Z h26 b22 k22 .char 4 [(.int (own_sys p0)), (.int (own_sys (own_u8 p0))), (.int 58), (.int (p1 &&& (255 : Int32)))] z0 := V26
  have N26 := Fr.snoc X26 N25 (Nat.le_trans Z0 (Nat.le_trans sz_0_9 ge_b22))
  obtain ⟨T27, h27, X27, e27, E27, A27, D27, -, st27⟩ := newO X26 hx hZ hown (w34 hw) (w35 hw) (w36 hw) e26 (g := (mkF m 296 #[vi p0, vi p1, vi ((own_sys p0)), vi ((own_sys (own_u8 p0))), vi 1, vi ((p1 &&& (255 : Int32))), vi (((own_u8 p1) &&& (255 : Int32))), vi 0, vr b3, vr b13, vr b22, .unset, .unset] [])) rfl (hb hby at_296) (by decide) (by decide)
  obtain ⟨b27, g27⟩ : ∃ z, z = h26.size := ⟨_, rfl⟩
  rw [← g27] at A27 D27 st27
  have ge_b27 : h26.size ≤ b27 := Nat.le_of_eq g27.symm
  have K27 := KL.ofE E27
  have Ck14 := own_chK K27 na0 Ah14.1
  have Ah15 := Ah14.trans Ck14.1
  have F_b27_system : Fd2 Z h27 b27 .null := D27 (Or.inr (w102 hw)) (ty := (.object "java/lang/String")) (by decide)
  have F_b27_id : Fd3 Z h27 b27 .null := D27 (Or.inr (w104 hw)) (ty := (.object "java/lang/String")) (by decide)
  have f29 := (kExa K27 (kExa K26 (kExa K25 (kExa K24 (kExa K23 (kExa K22 (kExa K16 (kExa K15 (kExa K14 (kExa K13 (kExa K7 f9)))))))))))
  have sz_1_3 := (Nat.le_trans K4.1 K5.1)
  have sz_1_4 := (Nat.le_trans sz_1_3 K6.1)
  have sz_1_5 := (Nat.le_trans sz_1_4 K7.1)
  have sz_1_6 := (Nat.le_trans sz_1_5 K13.1)
  have sz_1_7 := (Nat.le_trans sz_1_6 K14.1)
  have sz_1_8 := (Nat.le_trans sz_1_7 K15.1)
  have sz_1_9 := (Nat.le_trans sz_1_8 K16.1)
  have f30 := (kFld K27 (kFld K26 (kFld K25 (kFld K24 (kFld K23 (kFld K22 (kFld K16 (kFld K15 (kFld K14 (kFld K13 Q7_2 nw0) nw0) (nwS (Or.inl (lt_ne (Nat.lt_of_lt_of_le lt_b3 sz_1_6) ge_b14)) nw0)) (nwS (Or.inl (lt_ne (Nat.lt_of_lt_of_le lt_b3 sz_1_5) ge_b13)) (nwS (Or.inl (lt_ne (Nat.lt_of_lt_of_le lt_b3 sz_1_5) ge_b13)) nw0))) nw0) (nwS (Or.inl (lt_ne (Nat.lt_of_lt_of_le lt_b3 sz_1_9) ge_b22)) nw0)) (nwS (Or.inl (lt_ne (Nat.lt_of_lt_of_le lt_b3 sz_1_9) ge_b22)) nw0)) (nwS (Or.inl (lt_ne (Nat.lt_of_lt_of_le lt_b3 sz_1_9) ge_b22)) nw0)) (nwS (Or.inl (lt_ne (Nat.lt_of_lt_of_le lt_b3 sz_1_9) ge_b22)) nw0)) nw0)
  have lt_b1_6_4_7 : b1_6_4_7 < T7.heap.size := Arv.lt Q7_3
  have sz_5_7 := (Nat.le_trans K13.1 K14.1)
  have sz_5_8 := (Nat.le_trans sz_5_7 K15.1)
  have sz_5_9 := (Nat.le_trans sz_5_8 K16.1)
  have f31 := (kArv K27 (kArv K26 (kArv K25 (kArv K24 (kArv K23 (kArv K22 (kArv K16 (kArv K15 (kArv K14 (kArv K13 Q7_3 na0) na0) (naN (Ne.symm (lt_ne (Nat.lt_of_lt_of_le lt_b1_6_4_7 K13.1) ge_b14)) na0)) (naN (Ne.symm (lt_ne lt_b1_6_4_7 ge_b13)) (naN (Ne.symm (lt_ne lt_b1_6_4_7 ge_b13)) na0))) na0) (naN (Ne.symm (lt_ne (Nat.lt_of_lt_of_le lt_b1_6_4_7 sz_5_9) ge_b22)) na0)) (naN (Ne.symm (lt_ne (Nat.lt_of_lt_of_le lt_b1_6_4_7 sz_5_9) ge_b22)) na0)) (naN (Ne.symm (lt_ne (Nat.lt_of_lt_of_le lt_b1_6_4_7 sz_5_9) ge_b22)) na0)) (naN (Ne.symm (lt_ne (Nat.lt_of_lt_of_le lt_b1_6_4_7 sz_5_9) ge_b22)) na0)) na0)
  have f32 := (kFld K27 (kFld K26 (kFld K25 (kFld K24 (kFld K23 (kFld K22 (kFld K16 (kFld K15 (kFld K14 (kFld K13 Q7_1 nw0) nw0) (nwS (Or.inl (lt_ne (Nat.lt_of_lt_of_le lt_b3 sz_1_6) ge_b14)) nw0)) (nwS (Or.inl (lt_ne (Nat.lt_of_lt_of_le lt_b3 sz_1_5) ge_b13)) (nwS (Or.inl (lt_ne (Nat.lt_of_lt_of_le lt_b3 sz_1_5) ge_b13)) nw0))) nw0) (nwS (Or.inl (lt_ne (Nat.lt_of_lt_of_le lt_b3 sz_1_9) ge_b22)) nw0)) (nwS (Or.inl (lt_ne (Nat.lt_of_lt_of_le lt_b3 sz_1_9) ge_b22)) nw0)) (nwS (Or.inl (lt_ne (Nat.lt_of_lt_of_le lt_b3 sz_1_9) ge_b22)) nw0)) (nwS (Or.inl (lt_ne (Nat.lt_of_lt_of_le lt_b3 sz_1_9) ge_b22)) nw0)) nw0)
  have f33 := (kOld K27 (kOld K26 (kOld K25 (kOld K24 (kOld K23 (kOld K22 (kOld K16 f20 (naS (P := fun w => n0 ≤ w.1) (Nat.le_trans Z0 (Nat.le_trans sz_0_5 ge_b13)) (naS (P := fun w => n0 ≤ w.1) (Nat.le_trans Z0 (Nat.le_trans sz_0_5 ge_b13)) na0))) na0) (naS (P := fun w => n0 ≤ w.1) (Nat.le_trans Z0 (Nat.le_trans sz_0_9 ge_b22)) na0)) (naS (P := fun w => n0 ≤ w.1) (Nat.le_trans Z0 (Nat.le_trans sz_0_9 ge_b22)) na0)) (naS (P := fun w => n0 ≤ w.1) (Nat.le_trans Z0 (Nat.le_trans sz_0_9 ge_b22)) na0)) (naS (P := fun w => n0 ≤ w.1) (Nat.le_trans Z0 (Nat.le_trans sz_0_9 ge_b22)) na0)) na0)
  have f34 := (kExa K27 (kExa K26 (kExa K25 (kExa K24 (kExa K23 (kExa K22 (kExa K16 f18)))))))
  have sz_6_8 := (Nat.le_trans K14.1 K15.1)
  have sz_6_9 := (Nat.le_trans sz_6_8 K16.1)
  have f35 := (kFld K27 (kFld K26 (kFld K25 (kFld K24 (kFld K23 (kFld K22 Q16_2 nw0) (nwS (Or.inl (lt_ne (Nat.lt_of_lt_of_le lt_b13 sz_6_9) ge_b22)) nw0)) (nwS (Or.inl (lt_ne (Nat.lt_of_lt_of_le lt_b13 sz_6_9) ge_b22)) nw0)) (nwS (Or.inl (lt_ne (Nat.lt_of_lt_of_le lt_b13 sz_6_9) ge_b22)) nw0)) (nwS (Or.inl (lt_ne (Nat.lt_of_lt_of_le lt_b13 sz_6_9) ge_b22)) nw0)) nw0)
  have lt_b1_5_3_16 : b1_5_3_16 < T16.heap.size := Arv.lt Q16_3
  have f36 := (kArv K27 (kArv K26 (kArv K25 (kArv K24 (kArv K23 (kArv K22 Q16_3 na0) (naN (Ne.symm (lt_ne lt_b1_5_3_16 ge_b22)) na0)) (naN (Ne.symm (lt_ne lt_b1_5_3_16 ge_b22)) na0)) (naN (Ne.symm (lt_ne lt_b1_5_3_16 ge_b22)) na0)) (naN (Ne.symm (lt_ne lt_b1_5_3_16 ge_b22)) na0)) na0)
  have sz_0_10 := (Nat.le_trans sz_0_9 K22.1)
  have sz_0_11 := (Nat.le_trans sz_0_10 K23.1)
  have sz_0_12 := (Nat.le_trans sz_0_11 K24.1)
  have sz_0_13 := (Nat.le_trans sz_0_12 K25.1)
  have sz_0_14 := (Nat.le_trans sz_0_13 K26.1)
  have sz_0_15 := (Nat.le_trans sz_0_14 K27.1)
  obtain ⟨_, T28, L28, X28, hS28, hk28, hZ28, hown28, hQ28, hC28, st28⟩ := own_Hinit X27 hx hZ rfl hown (w37 hw) (w38 hw) (w36 hw) (w39 hw) (by decide) (r87__init_ l Z a0 hw [] b27 b3 b13 b1_6_4_7 ((own_sys p0).toInt8.toInt32) ((own_sys (own_u8 p0)).toInt8.toInt32) k1_6_4_7 cs b1_5_3_16 ((p1 &&& (255 : Int32)).toInt8.toInt32) k1_5_3_16 h27 n0 (Nat.le_trans Z0 sz_0_15) f29 f30 f31 sCS f32 f33 hcs (own_sysn _) (own_sysn _) f34 f35 f36 F_b27_system A27 (Nat.le_trans Z0 (Nat.le_trans sz_0_14 ge_b27)) F_b27_id) e27 (W := 1) (by decide) (g := (mkF m 304 #[vi p0, vi p1, vi ((own_sys p0)), vi ((own_sys (own_u8 p0))), vi 1, vi ((p1 &&& (255 : Int32))), vi (((own_u8 p1) &&& (255 : Int32))), vi 0, vr b3, vr b13, vr b22, .unset, .unset] [(.ref b13), (.ref b3), (.ref b27), (.ref b27)])) rfl hml.symm (argsL := [(.ref b3), (.ref b13)]) (rest := [(.ref b27)]) (lenOf pd_15 rfl) rfl rfl (own_wr rfl rfl) (hb hby at_304) hS0 (Nat.le_trans hk0 sz_0_15) (own_EW hw) Ah15.1 sf0
  obtain ⟨rfl, N28q, K28, Q28_0, Q28_1⟩ := hQ28
  have N28 := Fr.app N26 N28q
  have Ah16 := Ah15.trans hC28
  have f38 := (kOld K28 f33 (naS (P := fun w => n0 ≤ w.1) (Nat.le_trans Z0 (Nat.le_trans sz_0_14 ge_b27)) (naS (P := fun w => n0 ≤ w.1) (Nat.le_trans Z0 (Nat.le_trans sz_0_14 ge_b27)) na0)))
  have f39 := (kExa K28 f29)
  have sz_1_10 := (Nat.le_trans sz_1_9 K22.1)
  have sz_1_11 := (Nat.le_trans sz_1_10 K23.1)
  have sz_1_12 := (Nat.le_trans sz_1_11 K24.1)
  have sz_1_13 := (Nat.le_trans sz_1_12 K25.1)
  have sz_1_14 := (Nat.le_trans sz_1_13 K26.1)
  have f40 := (kFld K28 f30 (nwS (Or.inl (lt_ne (Nat.lt_of_lt_of_le lt_b3 sz_1_14) ge_b27)) (nwS (Or.inl (lt_ne (Nat.lt_of_lt_of_le lt_b3 sz_1_14) ge_b27)) nw0)))
  have sz_5_10 := (Nat.le_trans sz_5_9 K22.1)
  have sz_5_11 := (Nat.le_trans sz_5_10 K23.1)
  have sz_5_12 := (Nat.le_trans sz_5_11 K24.1)
  have sz_5_13 := (Nat.le_trans sz_5_12 K25.1)
  have sz_5_14 := (Nat.le_trans sz_5_13 K26.1)
  have f41 := (kArv K28 f31 (naN (Ne.symm (lt_ne (Nat.lt_of_lt_of_le lt_b1_6_4_7 sz_5_14) ge_b27)) (naN (Ne.symm (lt_ne (Nat.lt_of_lt_of_le lt_b1_6_4_7 sz_5_14) ge_b27)) na0)))
  have f42 := (kFld K28 f32 (nwS (Or.inl (lt_ne (Nat.lt_of_lt_of_le lt_b3 sz_1_14) ge_b27)) (nwS (Or.inl (lt_ne (Nat.lt_of_lt_of_le lt_b3 sz_1_14) ge_b27)) nw0)))
  have f43 := (kExa K28 f34)
  have sz_6_10 := (Nat.le_trans sz_6_9 K22.1)
  have sz_6_11 := (Nat.le_trans sz_6_10 K23.1)
  have sz_6_12 := (Nat.le_trans sz_6_11 K24.1)
  have sz_6_13 := (Nat.le_trans sz_6_12 K25.1)
  have sz_6_14 := (Nat.le_trans sz_6_13 K26.1)
  have f44 := (kFld K28 f35 (nwS (Or.inl (lt_ne (Nat.lt_of_lt_of_le lt_b13 sz_6_14) ge_b27)) (nwS (Or.inl (lt_ne (Nat.lt_of_lt_of_le lt_b13 sz_6_14) ge_b27)) nw0)))
  have sz_9_11 := (Nat.le_trans K22.1 K23.1)
  have sz_9_12 := (Nat.le_trans sz_9_11 K24.1)
  have sz_9_13 := (Nat.le_trans sz_9_12 K25.1)
  have sz_9_14 := (Nat.le_trans sz_9_13 K26.1)
  have f45 := (kArv K28 f36 (naN (Ne.symm (lt_ne (Nat.lt_of_lt_of_le lt_b1_5_3_16 sz_9_14) ge_b27)) (naN (Ne.symm (lt_ne (Nat.lt_of_lt_of_le lt_b1_5_3_16 sz_9_14) ge_b27)) na0)))
  have f46 := (kFld K28 (kFld K27 (kFld K26 (kFld K25 (kFld K24 (kFld K23 (kFld K22 Q16_1 nw0) (nwS (Or.inl (lt_ne (Nat.lt_of_lt_of_le lt_b13 sz_6_9) ge_b22)) nw0)) (nwS (Or.inl (lt_ne (Nat.lt_of_lt_of_le lt_b13 sz_6_9) ge_b22)) nw0)) (nwS (Or.inl (lt_ne (Nat.lt_of_lt_of_le lt_b13 sz_6_9) ge_b22)) nw0)) (nwS (Or.inl (lt_ne (Nat.lt_of_lt_of_le lt_b13 sz_6_9) ge_b22)) nw0)) nw0) (nwS (Or.inl (lt_ne (Nat.lt_of_lt_of_le lt_b13 sz_6_14) ge_b27)) (nwS (Or.inl (lt_ne (Nat.lt_of_lt_of_le lt_b13 sz_6_14) ge_b27)) nw0)))
  have sz_0_16 := (Nat.le_trans sz_0_15 K28.1)
  have f47 := (kExa K28 A27)
  obtain ⟨_, T37, L37, X37, hS37, hk37, hZ37, hown37, hQ37, hC37, st37⟩ := own_Hvirtual X28 hx hZ28 hown28 (w105 hw) (w106 hw) (nfS hZ28 (w108 hw)) (w108 hw) (w107 hw) (w36 hw) (w109 hw) (by decide) (r93_toString l Z a0 hw [] b27 cs b3 b1_6_4_7 ((own_sys p0).toInt8.toInt32) ((own_sys (own_u8 p0)).toInt8.toInt32) k1_6_4_7 b13 b1_5_3_16 ((p1 &&& (255 : Int32)).toInt8.toInt32) k1_5_3_16 T28.heap n0 (Nat.le_trans Z0 sz_0_16) sCS f38 hcs Q28_0 f39 f40 f41 f42 Q28_1 f43 f44 f45 f46) rfl f47 (W := 0) (by decide) (g := (mkF m 311 #[vi p0, vi p1, vi ((own_sys p0)), vi ((own_sys (own_u8 p0))), vi 1, vi ((p1 &&& (255 : Int32))), vi (((own_u8 p1) &&& (255 : Int32))), vi 0, vr b3, vr b13, vr b22, vr b27, .unset] [(.ref b27)])) rfl hml.symm (argsL := []) (rest := []) (lenOf pd_27 rfl) rfl rfl (own_wr rfl rfl) (hb hby at_311) hS28 hk28 (own_EW hw) Ah16.1 sf0
  obtain ⟨b1_42_37, b2_5_12_7_8_42_37, k2_5_12_7_8_42_37, rfl, N37q, K37, Q37_0, Q37_1, Q37_2, Q37_3, Q37_4, Q37_5, Q37_6⟩ := hQ37
  have N37 := Fr.app N28 N37q
  have Ah17 := Ah16.trans hC37
  obtain ⟨T50, h50, X50, e50, E50, A50, D50, -, st50⟩ := newO X37 hx hZ37 hown37 (w4 hw) (w5 hw) (w6 hw) rfl (g := (mkF m 318 #[vi p0, vi p1, vi ((own_sys p0)), vi ((own_sys (own_u8 p0))), vi 1, vi ((p1 &&& (255 : Int32))), vi (((own_u8 p1) &&& (255 : Int32))), vi 0, vr b3, vr b13, vr b22, vr b27, vr b1_42_37] [(.ref b1_42_37)])) rfl (hb hby at_318) (by decide) (by decide)
  obtain ⟨b50, g50⟩ : ∃ z, z = T37.heap.size := ⟨_, rfl⟩
  rw [← g50] at A50 D50 st50
  have ge_b50 : T37.heap.size ≤ b50 := Nat.le_of_eq g50.symm
  have K50 := KL.ofE E50
  have Ck17 := own_chK K50 na0 Ah17.1
  have Ah18 := Ah17.trans Ck17.1
  have F_b50_coder : Fd0 Z h50 b50 z0 := D50 (Or.inr (w31 hw)) (ty := .byte) (by decide)
  have F_b50_value : Fd1 Z h50 b50 .null := D50 (Or.inr (w33 hw)) (ty := (.array .byte)) (by decide)
  have lt_b22 : b22 < h22.size := Arv.lt V22
  have sz_10_12 := (Nat.le_trans K23.1 K24.1)
  have sz_10_13 := (Nat.le_trans sz_10_12 K25.1)
  have sz_10_14 := (Nat.le_trans sz_10_13 K26.1)
  have f52 := (kArv K50 (kArv K37 (kArv K28 (kArv K27 V26 na0) (naN (Ne.symm (lt_ne (Nat.lt_of_lt_of_le lt_b22 sz_10_14) ge_b27)) (naN (Ne.symm (lt_ne (Nat.lt_of_lt_of_le lt_b22 sz_10_14) ge_b27)) na0))) na0) na0)
  have f53 := (kOld K50 (kOld K37 f38 na0) na0)
  have sz_0_17 := (Nat.le_trans sz_0_16 K37.1)
  have sz_0_18 := (Nat.le_trans sz_0_17 K50.1)
  obtain ⟨_, T51, L51, X51, hQ51, st51⟩ := own_init X50 hx hZ37 rfl hown37 (w8 hw) (w9 hw) (w6 hw) (w10 hw) (by decide) (r80__init_ l Z a0 hw [] b50 b22 (own_sys p0) (own_sys (own_u8 p0)) (58 : Int32) (p1 &&& (255 : Int32)) k22 cs h50 n0 (Nat.le_trans Z0 sz_0_18) f52 sCS F_b50_coder A50 F_b50_value f53 hcs (own_sysb _) (own_sysb _) (by decide) (own_m255b _) (Nat.le_trans Z0 (Nat.le_trans sz_0_17 ge_b50))) e50 (W := 2) (by decide) (g := (mkF m 324 #[vi p0, vi p1, vi ((own_sys p0)), vi ((own_sys (own_u8 p0))), vi 1, vi ((p1 &&& (255 : Int32))), vi (((own_u8 p1) &&& (255 : Int32))), vi 0, vr b3, vr b13, vr b22, vr b27, vr b1_42_37] [(.ref b22), (.ref b50), (.ref b50), (.ref b1_42_37)])) rfl hml.symm (argsL := [(.ref b22)]) (rest := [(.ref b50), (.ref b1_42_37)]) (lenOf pd_5 rfl) rfl rfl (own_wr rfl rfl) (hb hby at_324)
  obtain ⟨b1_8_6_51, k1_8_6_51, rfl, N51q, K51, Q51_0, Q51_1, Q51_2, Q51_3⟩ := hQ51
  have N51 := Fr.app N37 N51q
  have Ck18 := own_chK K51 (naF (Ck17.2 _ (Safe.new ge_b50)) (naF (Ck17.2 _ (Safe.new ge_b50)) na0)) Ah18.1
  have Ah19 := Ah18.trans Ck18.1
  have lt_b1_42_37 : b1_42_37 < T37.heap.size := Exa.lt Q37_3
  have f56 := (kExa K51 A50)
  have f57 := (kOld K51 f53 (naS (P := fun w => n0 ≤ w.1) (Nat.le_trans Z0 (Nat.le_trans sz_0_17 ge_b50)) (naS (P := fun w => n0 ≤ w.1) (Nat.le_trans Z0 (Nat.le_trans sz_0_17 ge_b50)) na0)))
  have f58 := (kFld K51 (kFld K50 Q37_4 nw0) (nwS (Or.inl (lt_ne lt_b1_42_37 ge_b50)) (nwS (Or.inl (lt_ne lt_b1_42_37 ge_b50)) nw0)))
  have f59 := (kFld K51 (kFld K50 Q37_5 nw0) (nwS (Or.inl (lt_ne lt_b1_42_37 ge_b50)) (nwS (Or.inl (lt_ne lt_b1_42_37 ge_b50)) nw0)))
  have lt_b2_5_12_7_8_42_37 : b2_5_12_7_8_42_37 < T37.heap.size := Arv.lt Q37_6
  have f60 := (kArv K51 (kArv K50 Q37_6 na0) (naN (Ne.symm (lt_ne lt_b2_5_12_7_8_42_37 ge_b50)) (naN (Ne.symm (lt_ne lt_b2_5_12_7_8_42_37 ge_b50)) na0)))
  have sz_0_19 := (Nat.le_trans sz_0_18 K51.1)
  have f61 := (kExa K51 (kExa K50 Q37_3))
  obtain ⟨_, T55, L55, X55, hQ55, st55⟩ := own_virtual X51 hx hZ37 hown37 (w209 hw) (w210 hw) (nfS hZ37 (w212 hw)) (w212 hw) (w211 hw) (w6 hw) (w213 hw) (by decide) (r103_equals l Z a0 hw [] b1_42_37 b50 cs b2_5_12_7_8_42_37 b1_8_6_51 ((own_sys p0).toInt8.toInt32) ((own_sys (own_u8 p0)).toInt8.toInt32) (58 : Int32) ((p1 &&& (255 : Int32)).toInt8.toInt32) k2_5_12_7_8_42_37 ((58 : Int32).toInt8.toInt32) k1_8_6_51 T51.heap n0 (Nat.le_trans Z0 sz_0_19) (lt_ne lt_b1_42_37 ge_b50) f56 sCS f57 hcs f58 Q51_1 f59 Q51_2 f60 Q51_3 (by decide)) rfl f61 (W := 0) (by decide) (g := (mkF m 327 #[vi p0, vi p1, vi ((own_sys p0)), vi ((own_sys (own_u8 p0))), vi 1, vi ((p1 &&& (255 : Int32))), vi (((own_u8 p1) &&& (255 : Int32))), vi 0, vr b3, vr b13, vr b22, vr b27, vr b1_42_37] [(.ref b50), (.ref b1_42_37)])) rfl hml.symm (argsL := [(.ref b50)]) (rest := []) (lenOf pd_29 rfl) rfl rfl (own_wr rfl rfl) (hb hby at_327)
  obtain ⟨rfl, N55q, e55⟩ := hQ55
  have N55 := Fr.app N51 N55q
  have sz_17_19 := (Nat.le_trans K50.1 K51.1)
  refine ⟨T55, _, some (.int 1), _, _, X55, hS37, (by rw [e55]; exact (Nat.le_trans hk37 sz_17_19)), (fun h => by cases h <;> rfl), ?_, (by rw [e55]; exact Ah19), hZ37, fun fs hr => ?_⟩
  · show Q_law n0 _ _
    exact ⟨rfl, N55⟩
  · refine t_iloadN 1 X0.here hx (hb hby at_0) rfl rfl ?_
    refine st1 _ ?_
    refine t_istoreN (pc' := 5) (L' := #[vi p0, vi p1, vi ((own_sys p0)), .unset, .unset, .unset, .unset, .unset, .unset, .unset, .unset, .unset, .unset]) X1.here hx (hb hby at_4) rfl rfl ?_
    refine t_iloadN 6 X1.here hx (hb hby at_5) rfl rfl ?_
    refine t_bipush 8 (r := 8) X1.here hx (hb hby at_6) (by decide) rfl ?_
    refine t_iushr 9 (r := (own_u8 p0)) X1.here hx (hb hby at_8) (Eq.refl (own_u8 p0)) rfl ?_
    refine st2 _ ?_
    refine t_istoreN (pc' := 13) (L' := #[vi p0, vi p1, vi ((own_sys p0)), vi ((own_sys (own_u8 p0))), .unset, .unset, .unset, .unset, .unset, .unset, .unset, .unset, .unset]) X2.here hx (hb hby at_12) rfl rfl ?_
    refine t_iloadN 14 X2.here hx (hb hby at_13) rfl rfl ?_
    refine t_bipush 16 (r := 16) X2.here hx (hb hby at_14) (by decide) rfl ?_
    refine t_iushr 17 (r := (own_u16 p0)) X2.here hx (hb hby at_16) (Eq.refl (own_u16 p0)) rfl ?_
    refine t_iconst 18 (r := 1) X2.here hx (hb hby at_17) (by decide) rfl ?_
    refine t_iand 19 X2.here hx (hb hby at_18) rfl rfl ?_
    refine t_ifNo 22 X2.here hx (hb hby at_19) ((if0 _ _).trans (feq hp0).1) rfl ?_
    refine t_iconst 23 (r := 1) X2.here hx (hb hby at_22) (by decide) rfl ?_
    refine t_goto (pc := 23) 27 X2.here hx (hb hby at_23) (by decide) (by decide) ?_
    refine t_istore (pc' := 29) (L' := #[vi p0, vi p1, vi ((own_sys p0)), vi ((own_sys (own_u8 p0))), vi 1, .unset, .unset, .unset, .unset, .unset, .unset, .unset, .unset]) X2.here hx (hb hby at_27) rfl rfl ?_
    refine t_iloadN 30 X2.here hx (hb hby at_29) rfl rfl ?_
    refine t_sipush 33 (r := 255) X2.here hx (hb hby at_30) (by decide) rfl ?_
    refine t_iand 34 X2.here hx (hb hby at_33) rfl rfl ?_
    refine t_i2c 35 (r := (p1 &&& (255 : Int32))) X2.here hx (hb hby at_34) (i2c_mask _) rfl ?_
    refine t_istore (pc' := 37) (L' := #[vi p0, vi p1, vi ((own_sys p0)), vi ((own_sys (own_u8 p0))), vi 1, vi ((p1 &&& (255 : Int32))), .unset, .unset, .unset, .unset, .unset, .unset, .unset]) X2.here hx (hb hby at_35) rfl rfl ?_
    refine t_iloadN 38 X2.here hx (hb hby at_37) rfl rfl ?_
    refine t_bipush 40 (r := 8) X2.here hx (hb hby at_38) (by decide) rfl ?_
    refine t_iushr 41 (r := (own_u8 p1)) X2.here hx (hb hby at_40) (Eq.refl (own_u8 p1)) rfl ?_
    refine t_sipush 44 (r := 255) X2.here hx (hb hby at_41) (by decide) rfl ?_
    refine t_iand 45 X2.here hx (hb hby at_44) rfl rfl ?_
    refine t_i2c 46 (r := ((own_u8 p1) &&& (255 : Int32))) X2.here hx (hb hby at_45) (i2c_mask _) rfl ?_
    refine t_istore (pc' := 48) (L' := #[vi p0, vi p1, vi ((own_sys p0)), vi ((own_sys (own_u8 p0))), vi 1, vi ((p1 &&& (255 : Int32))), vi (((own_u8 p1) &&& (255 : Int32))), .unset, .unset, .unset, .unset, .unset, .unset]) X2.here hx (hb hby at_46) rfl rfl ?_
    refine t_iloadN 49 X2.here hx (hb hby at_48) rfl rfl ?_
    refine t_bipush 51 (r := 16) X2.here hx (hb hby at_49) (by decide) rfl ?_
    refine t_iushr 52 (r := (own_u16 p1)) X2.here hx (hb hby at_51) (Eq.refl (own_u16 p1)) rfl ?_
    refine t_iconst 53 (r := 1) X2.here hx (hb hby at_52) (by decide) rfl ?_
    refine t_iand 54 X2.here hx (hb hby at_53) rfl rfl ?_
    refine t_ifYes (pc := 54) 61 X2.here hx (hb hby at_54) ((if0 _ _).trans (teq hp1).1) (by decide) (by decide) ?_
    refine t_iconst 62 (r := 0) X2.here hx (hb hby at_61) (by decide) rfl ?_
    refine t_istore (pc' := 64) (L' := #[vi p0, vi p1, vi ((own_sys p0)), vi ((own_sys (own_u8 p0))), vi 1, vi ((p1 &&& (255 : Int32))), vi (((own_u8 p1) &&& (255 : Int32))), vi 0, .unset, .unset, .unset, .unset, .unset]) X2.here hx (hb hby at_62) rfl rfl ?_
    refine t_iload 66 X2.here hx (hb hby at_64) rfl rfl ?_
    refine t_ifNo 69 X2.here hx (hb hby at_66) (by decide) rfl ?_
    refine st3 _ ?_
    refine t_dup 73 X3.here hx (hb hby at_72) rfl rfl ?_
    refine t_iconst 74 (r := 2) X3.here hx (hb hby at_73) (by decide) rfl ?_
    refine st4 _ ?_
    refine t_dup 77 X4.here hx (hb hby at_76) rfl rfl ?_
    refine t_iconst 78 (r := 0) X4.here hx (hb hby at_77) (by decide) rfl ?_
    refine t_iloadN 79 X4.here hx (hb hby at_78) rfl rfl ?_
    refine st5 _ ?_
    refine t_dup 81 X5.here hx (hb hby at_80) rfl rfl ?_
    refine t_iconst 82 (r := 1) X5.here hx (hb hby at_81) (by decide) rfl ?_
    refine t_iloadN 83 X5.here hx (hb hby at_82) rfl rfl ?_
    refine st6 _ ?_
    refine st7 _ ?_
    refine t_astore (pc' := 89) (L' := #[vi p0, vi p1, vi ((own_sys p0)), vi ((own_sys (own_u8 p0))), vi 1, vi ((p1 &&& (255 : Int32))), vi (((own_u8 p1) &&& (255 : Int32))), vi 0, vr b3, .unset, .unset, .unset, .unset]) X7.here hx (hb hby at_87) rfl rfl rfl ?_
    refine t_iload 91 X7.here hx (hb hby at_89) rfl rfl ?_
    refine t_ifYes (pc := 91) 147 X7.here hx (hb hby at_91) (by decide) (by decide) (by decide) ?_
    refine st13 _ ?_
    refine t_dup 151 X13.here hx (hb hby at_150) rfl rfl ?_
    refine t_iconst 152 (r := 1) X13.here hx (hb hby at_151) (by decide) rfl ?_
    refine st14 _ ?_
    refine t_dup 155 X14.here hx (hb hby at_154) rfl rfl ?_
    refine t_iconst 156 (r := 0) X14.here hx (hb hby at_155) (by decide) rfl ?_
    refine t_iload 158 X14.here hx (hb hby at_156) rfl rfl ?_
    refine st15 _ ?_
    refine st16 _ ?_
    refine t_astore (pc' := 164) (L' := #[vi p0, vi p1, vi ((own_sys p0)), vi ((own_sys (own_u8 p0))), vi 1, vi ((p1 &&& (255 : Int32))), vi (((own_u8 p1) &&& (255 : Int32))), vi 0, vr b3, vr b13, .unset, .unset, .unset]) X16.here hx (hb hby at_162) rfl rfl rfl ?_
    refine t_iconst 165 (r := 4) X16.here hx (hb hby at_164) (by decide) rfl ?_
    refine st22 _ ?_
    refine t_dup 168 X22.here hx (hb hby at_167) rfl rfl ?_
    refine t_iconst 169 (r := 0) X22.here hx (hb hby at_168) (by decide) rfl ?_
    refine t_iloadN 170 X22.here hx (hb hby at_169) rfl rfl ?_
    refine st23 _ ?_
    refine t_dup 172 X23.here hx (hb hby at_171) rfl rfl ?_
    refine t_iconst 173 (r := 1) X23.here hx (hb hby at_172) (by decide) rfl ?_
    refine t_iloadN 174 X23.here hx (hb hby at_173) rfl rfl ?_
    refine st24 _ ?_
    refine t_dup 176 X24.here hx (hb hby at_175) rfl rfl ?_
    refine t_iconst 177 (r := 2) X24.here hx (hb hby at_176) (by decide) rfl ?_
    refine t_bipush 179 (r := 58) X24.here hx (hb hby at_177) (by decide) rfl ?_
    refine st25 _ ?_
    refine t_dup 181 X25.here hx (hb hby at_180) rfl rfl ?_
    refine t_iconst 182 (r := 3) X25.here hx (hb hby at_181) (by decide) rfl ?_
    refine t_iload 184 X25.here hx (hb hby at_182) rfl rfl ?_
    refine st26 _ ?_
    refine t_astore (pc' := 187) (L' := #[vi p0, vi p1, vi ((own_sys p0)), vi ((own_sys (own_u8 p0))), vi 1, vi ((p1 &&& (255 : Int32))), vi (((own_u8 p1) &&& (255 : Int32))), vi 0, vr b3, vr b13, vr b22, .unset, .unset]) X26.here hx (hb hby at_185) rfl rfl rfl ?_
    refine t_goto (pc := 187) 296 X26.here hx (hb hby at_187) (by decide) (by decide) ?_
    refine st27 _ ?_
    refine t_dup 300 X27.here hx (hb hby at_299) rfl rfl ?_
    refine t_aload 302 X27.here hx (hb hby at_300) rfl rfl rfl ?_
    refine t_aload 304 X27.here hx (hb hby at_302) rfl rfl rfl ?_
    refine st28 _ ?_
    refine t_astore (pc' := 309) (L' := #[vi p0, vi p1, vi ((own_sys p0)), vi ((own_sys (own_u8 p0))), vi 1, vi ((p1 &&& (255 : Int32))), vi (((own_u8 p1) &&& (255 : Int32))), vi 0, vr b3, vr b13, vr b22, vr b27, .unset]) X28.here hx (hb hby at_307) rfl rfl rfl ?_
    refine t_aload 311 X28.here hx (hb hby at_309) rfl rfl rfl ?_
    refine st37 _ ?_
    refine t_astore (pc' := 316) (L' := #[vi p0, vi p1, vi ((own_sys p0)), vi ((own_sys (own_u8 p0))), vi 1, vi ((p1 &&& (255 : Int32))), vi (((own_u8 p1) &&& (255 : Int32))), vi 0, vr b3, vr b13, vr b22, vr b27, vr b1_42_37]) X37.here hx (hb hby at_314) rfl rfl rfl ?_
    refine t_aload 318 X37.here hx (hb hby at_316) rfl rfl rfl ?_
    refine st50 _ ?_
    refine t_dup 322 X50.here hx (hb hby at_321) rfl rfl ?_
    refine t_aload 324 X50.here hx (hb hby at_322) rfl rfl rfl ?_
    refine st51 _ ?_
    refine st55 _ ?_
    exact retN X55 hx (t := .boolean) hret (by simp) (hb hby at_330) hr
def WS_r105__init_ (Z : State) (o0 : Addr) : List (Addr × Nat) := [(o0, (sl2 Z)), (o0, (sl3 Z))]
def Q_r105__init_ (Z : State) (o0 o1 o2 o_6 : Addr) (i_7 i_8 : Int32) (k_o_6 : ClassId) (i_13 : Int32) (o_17 : Addr) (i_18 i_19 : Int32) (k_o_17 : ClassId) (h0 : Heap) (n0 : Nat) (v : Option Value) (h : Heap) (L : List Loc) : Prop := v = none ∧ Fr n0 L ∧ KL h0 h (WS_r105__init_ Z o0) ∧ Fd2 Z h o0 (.ref o1) ∧ Fd3 Z h o0 (.ref o2)
theorem ef_r105__init_ (o0 o1 o2 : Addr) (m : MethodId) : entryFrame m #[(.ref o0), (.ref o1), (.ref o2)] 3 = mkF m 0 #[.val (.ref o0), .val (.ref o1), .val (.ref o2)] [] := by first | (simp [entryFrame, mkF, argsToLocals, Value.category]; done) | rfl
set_option maxRecDepth 65536 in
set_option maxHeartbeats 40000000 in
theorem r105__init_ (l : Launch) (Z : State) (a0 : Array Value) (hw : HW Z a0) (ws : List Jvm.Cond) (o0 o1 o2 o_6 : Addr) (i_7 i_8 : Int32) (k_o_6 : ClassId) (i_13 : Int32) (o_17 : Addr) (i_18 i_19 : Int32) (k_o_17 : ClassId) (h0 : Heap) (n0 : Nat) (Z0 : n0 ≤ h0.size) (E_o1 : Ex0 Z h0 o1) (F_o1_value : Fd1 Z h0 o1 (.ref o_6)) (V_o_6 : Arv Z h0 o_6 k_o_6 .byte 2 [(.int i_7), (.int i_8)] z0) (sCS : SCS Z i_13) (F_o1_coder : Fd0 Z h0 o1 z0) (O0 : Old Z n0 h0) (hp0 : ¬ (i_13 = (0 : Int32))) (hp1 : ¬ (i_7 = (58 : Int32))) (hp2 : ¬ (i_8 = (58 : Int32))) (E_o2 : Ex0 Z h0 o2) (F_o2_value : Fd1 Z h0 o2 (.ref o_17)) (V_o_17 : Arv Z h0 o_17 k_o_17 .byte 2 [(.int i_18), (.int i_19)] z0) (F_o0_system : Fd2 Z h0 o0 .null) (E_o0 : Ex1 Z h0 o0) (g_o0 : n0 ≤ o0) (F_o0_id : Fd3 Z h0 o0 .null) :
    OMH l Z consts_1 [] y19__init_ b6_ 3 none ws ⟨4, 4, 40, 59⟩ #[(.ref o0), (.ref o1), (.ref o2)] h0 (Q_r105__init_ Z o0 o1 o2 o_6 i_7 i_8 k_o_6 i_13 o_17 i_18 i_19 k_o_17 h0 n0) := by
  refine own_bodyH (k := 4) (n := 40) (own_EW hw) (plainFor_of_name pn_Identifier44) (ef_r105__init_ o0 o1 o2) (by decide) (by decide) ?_
  intro p e s m below meth c s₁ hx hby hml hown hnm hret hZ e0 hS0 hk0 X0 hC0 hSF0
  have N0 := Fr.nil n0
  obtain ⟨_, T1, L1, X1, hQ1, st1⟩ := own_init X0 hx hZ rfl hown (w40 hw) (w41 hw) (w43 hw) (w44 hw) (by decide) (r7__init_ l Z a0 hw [] o0 h0 n0 Z0) e0 (W := 0) (by decide) (g := (mkF m 1 #[vr o0, vr o1, vr o2] [(.ref o0)])) rfl hml.symm (argsL := []) (rest := []) (lenOf pd_6 rfl) rfl rfl (own_wr rfl rfl) (hb hby d87)
  obtain ⟨rfl, N1q, e1⟩ := hQ1
  have N1 := Fr.app N0 N1q
  obtain ⟨c2, T2, h2, k2, b2, kb2, X2, e2, E2, hS2, hk2, hZ2, hown2, Ex2, Fc2, Fv2, Ar2, lta2, ltb2, hC2, Lt2, hne2, st2⟩ := ldcCH X1 hx hZ hown (w46 hw) (own_wS hw) e1 hS0 hk0 (own_EW hw) (by decide) (CHr.refl hC0).1 (vs := [(.int 115), (.int 121), (.int 115), (.int 116), (.int 101), (.int 109)]) (z := 6) ⟨by decide, rfl⟩ (by decide) rfl (g := (mkF m 5 #[vr o0, vr o1, vr o2] [(.ref o1)])) rfl (hb hby d92) (n := 24) (by decide) (by decide) (by decide) (by decide)
  have K2 := KL.ofE E2
  have Ah1 := (CHr.refl hC0).trans hC2
  obtain ⟨_, T3, L3, X3, hQ3, st3⟩ := own_static X2 hx hZ2 hown2 (w49 hw) (w50 hw) (w51 hw) (w52 hw) (by decide) (r8_requireNonNull l Z a0 hw [] o1 c2 h2 n0 (Nat.le_trans Z0 K2.1)) e2 (W := 0) (by decide) (g := (mkF m 7 #[vr o0, vr o1, vr o2] [(.ref c2), (.ref o1)])) rfl hml.symm (argsL := [(.ref o1), (.ref c2)]) (rest := []) (lenOf pd_7 rfl) rfl rfl (own_wr rfl rfl) (hb hby d93)
  obtain ⟨rfl, N3q, e3⟩ := hQ3
  have N3 := Fr.app N1 N3q
  obtain ⟨c4, T4, h4, k4, b4, kb4, X4, e4, E4, hS4, hk4, hZ4, hown4, Ex4, Fc4, Fv4, Ar4, lta4, ltb4, hC4, Lt4, hne4, st4⟩ := ldcCH X3 hx hZ2 hown2 (w53 hw) (own_wS hw) e3 hS2 hk2 (own_EW hw) (by decide) Ah1.1 (vs := [(.int 105), (.int 100)]) (z := 2) ⟨by decide, rfl⟩ (by decide) rfl (g := (mkF m 12 #[vr o0, vr o1, vr o2] [(.ref o2)])) rfl (hb hby d100) (n := 8) (by decide) (by decide) (by decide) (by decide)
  have K4 := KL.ofE E4
  have Ah2 := Ah1.trans hC4
  have sz_0_2 := (Nat.le_trans K2.1 K4.1)
  obtain ⟨_, T5, L5, X5, hQ5, st5⟩ := own_static X4 hx hZ4 hown4 (w49 hw) (w50 hw) (w51 hw) (w52 hw) (by decide) (r8_requireNonNull l Z a0 hw [] o2 c4 h4 n0 (Nat.le_trans Z0 sz_0_2)) e4 (W := 0) (by decide) (g := (mkF m 14 #[vr o0, vr o1, vr o2] [(.ref c4), (.ref o2)])) rfl hml.symm (argsL := [(.ref o2), (.ref c4)]) (rest := []) (lenOf pd_7 rfl) rfl rfl (own_wr rfl rfl) (hb hby d101)
  obtain ⟨rfl, N5q, e5⟩ := hQ5
  have N5 := Fr.app N3 N5q
  have f10 := (kFld K4 (kFld K2 F_o1_value nw0) nw0)
  have f11 := (kArv K4 (kArv K2 V_o_6 na0) na0)
  have f12 := (kExa K4 (kExa K2 E_o1))
  obtain ⟨_, T9, L9, X9, hQ9, st9⟩ := own_virtual X5 hx hZ4 hown4 (w54 hw) (w55 hw) (nfS hZ4 (w57 hw)) (w57 hw) (w56 hw) (w6 hw) (w58 hw) (by decide) (r63_isEmpty l Z a0 hw [] o1 o_6 i_7 i_8 k_o_6 h4 n0 (Nat.le_trans Z0 sz_0_2) f10 f11) e5 f12 (W := 0) (by decide) (g := (mkF m 19 #[vr o0, vr o1, vr o2] [(.ref o1)])) rfl hml.symm (argsL := []) (rest := []) (lenOf pd_8 rfl) rfl rfl (own_wr rfl rfl) (hb hby d104)
  obtain ⟨rfl, N9q, e9⟩ := hQ9
  have N9 := Fr.app N5 N9q
  have f15 := (kFld K4 (kFld K2 F_o1_coder nw0) nw0)
  have f16 := (kOld K4 (kOld K2 O0 na0) na0)
  obtain ⟨_, T14, L14, X14, hQ14, st14⟩ := own_virtual X9 hx hZ4 hown4 (w59 hw) (w60 hw) (nfS hZ4 (w62 hw)) (w62 hw) (w61 hw) (w6 hw) (w63 hw) (by decide) (r88_indexOf l Z a0 hw [] o1 i_13 o_6 i_7 i_8 k_o_6 h4 n0 (Nat.le_trans Z0 sz_0_2) f12 sCS f15 f10 f11 f16 hp0 hp1 hp2) e9 f12 (W := 0) (by decide) (g := (mkF m 28 #[vr o0, vr o1, vr o2] [(.int 58), (.ref o1)])) rfl hml.symm (argsL := [(.int 58)]) (rest := []) (lenOf pd_14 rfl) rfl rfl (own_wr rfl rfl) (hb hby d114)
  obtain ⟨rfl, N14q, e14⟩ := hQ14
  have N14 := Fr.app N9 N14q
  have f21 := (kFld K4 (kFld K2 F_o2_value nw0) nw0)
  have f22 := (kArv K4 (kArv K2 V_o_17 na0) na0)
  have f23 := (kExa K4 (kExa K2 E_o2))
  obtain ⟨_, T20, L20, X20, hQ20, st20⟩ := own_virtual X14 hx hZ4 hown4 (w54 hw) (w55 hw) (nfS hZ4 (w57 hw)) (w57 hw) (w56 hw) (w6 hw) (w58 hw) (by decide) (r63_isEmpty l Z a0 hw [] o2 o_17 i_18 i_19 k_o_17 h4 n0 (Nat.le_trans Z0 sz_0_2) f21 f22) e14 f23 (W := 0) (by decide) (g := (mkF m 67 #[vr o0, vr o1, vr o2] [(.ref o2)])) rfl hml.symm (argsL := []) (rest := []) (lenOf pd_8 rfl) rfl rfl (own_wr rfl rfl) (hb hby d213)
  obtain ⟨rfl, N20q, e20⟩ := hQ20
  have N20 := Fr.app N14 N20q
  have f24 := (kFld K4 (kFld K2 F_o0_system nw0) nw0)
  have f25 := (kExa K4 (kExa K2 E_o0))
  obtain ⟨T26, h26, X26, e26, W26, st26⟩ := putF X20 hx hZ4 hown4 (host := "") (Or.inl (w101 hw)) Via.refl e20 f24 f25 (Or.inr ⟨(w102 hw), rfl, hnm⟩) (w35 hw) (ty := (.object "java/lang/String")) (by decide) rfl rfl (g := (mkF m 85 #[vr o0, vr o1, vr o2] [(.ref o1), (.ref o0)])) rfl rfl (hb hby d217)
  have K26 := KL.ofW W26
  have Ck2 := own_chK K26 (naF (Safe.exa hZ4.alike f25 (by decide) (by decide)) na0) Ah2.1
  have Ah3 := Ah2.trans Ck2.1
  have Fw26 : Fd2 Z h26 o0 (.ref o1) := Fld.same W26 f24
  have N26 := Fr.snoc X26 N20 g_o0
  have f27 := (kFld K26 (kFld K4 (kFld K2 F_o0_id nw0) nw0) (nwS (Or.inr (sn_2 hw)) nw0))
  have f28 := (kExa K26 f25)
  obtain ⟨T29, h29, X29, e29, W29, st29⟩ := putF X26 hx hZ4 hown4 (host := "") (Or.inl (w103 hw)) Via.refl e26 f27 f28 (Or.inr ⟨(w104 hw), rfl, hnm⟩) (w35 hw) (ty := (.object "java/lang/String")) (by decide) rfl rfl (g := (mkF m 90 #[vr o0, vr o1, vr o2] [(.ref o2), (.ref o0)])) rfl rfl (hb hby d220)
  have K29 := KL.ofW W29
  have Ck3 := own_chK K29 (naF (Safe.exa hZ4.alike f28 (by decide) (by decide)) na0) Ah3.1
  have Ah4 := Ah3.trans Ck3.1
  have Fw29 : Fd3 Z h29 o0 (.ref o2) := Fld.same W29 f27
  have N29 := Fr.snoc X29 N26 g_o0
  have C0 := (KL.refl h0 (WS_r105__init_ Z o0)).trans K2 na0
  have C1 := C0.trans K4 na0
  have C2 := C1.trans K26 (naO (own_mi 0 rfl) na0)
  have C3 := C2.trans K29 (naO (own_mi 1 rfl) na0)
  have f30 := (kFld K29 Fw26 (nwS (Or.inr (sn_3 hw)) nw0))
  have sz_2_4 := (Nat.le_trans K26.1 K29.1)
  refine ⟨T29, _, none, _, _, X29, hS4, (by rw [e29]; exact (Nat.le_trans hk4 sz_2_4)), (fun h => by cases h <;> rfl), ?_, (by rw [e29]; exact Ah4), hZ4, fun fs hr => ?_⟩
  · show Q_r105__init_ Z o0 o1 o2 o_6 i_7 i_8 k_o_6 i_13 o_17 i_18 i_19 k_o_17 h0 n0 _ T29.heap _
    rw [e29]
    exact ⟨rfl, N29, C3, f30, Fw29⟩
  · refine t_aloadN 1 X0.here hx (hb hby d86) rfl rfl rfl ?_
    refine st1 _ ?_
    refine t_aloadN 5 X1.here hx (hb hby d91) rfl rfl rfl ?_
    refine st2 _ ?_
    refine st3 _ ?_
    refine t_pop 11 X3.here hx (hb hby d98) rfl rfl ?_
    refine t_aloadN 12 X3.here hx (hb hby d99) rfl rfl rfl ?_
    refine st4 _ ?_
    refine st5 _ ?_
    refine t_pop 18 X5.here hx (hb hby d102) rfl rfl ?_
    refine t_aloadN 19 X5.here hx (hb hby d103) rfl rfl rfl ?_
    refine st9 _ ?_
    refine t_ifNo 25 X9.here hx (hb hby d111) (by decide) rfl ?_
    refine t_aloadN 26 X9.here hx (hb hby d112) rfl rfl rfl ?_
    refine t_bipush 28 (r := 58) X9.here hx (hb hby d113) (by decide) rfl ?_
    refine st14 _ ?_
    refine t_ifYes (pc := 31) 66 X14.here hx (hb hby d211) (by decide) (by decide) (by decide) ?_
    refine t_aloadN 67 X14.here hx (hb hby d212) rfl rfl rfl ?_
    refine st20 _ ?_
    refine t_ifYes (pc := 70) 83 X20.here hx (hb hby d214) (by decide) (by decide) (by decide) ?_
    refine t_aloadN 84 X20.here hx (hb hby d215) rfl rfl rfl ?_
    refine t_aloadN 85 X20.here hx (hb hby d216) rfl rfl rfl ?_
    refine st26 _ ?_
    refine t_aloadN 89 X26.here hx (hb hby d218) rfl rfl rfl ?_
    refine t_aloadN 90 X26.here hx (hb hby d219) rfl rfl rfl ?_
    refine st29 _ ?_
    exact X29.returnOut hx hret (hb hby d221) hr
def Q_r109_ensureCapacityInternal (Z : State) (o0 o_1 : Addr) (i_3 i_4 i_5 : Int32) (k_o_1 : ClassId) (h0 : Heap) (n0 : Nat) (v : Option Value) (h : Heap) (L : List Loc) : Prop := v = none ∧ Fr n0 L ∧ h = h0
theorem ef_r109_ensureCapacityInternal (o0 : Addr) (m : MethodId) : entryFrame m #[(.ref o0), (.int 5)] 3 = mkF m 0 #[.val (.ref o0), .val (.int 5), .unset] [] := by first | (simp [entryFrame, mkF, argsToLocals, Value.category]; done) | rfl
set_option maxRecDepth 65536 in
set_option maxHeartbeats 40000000 in
theorem r109_ensureCapacityInternal (l : Launch) (Z : State) (a0 : Array Value) (hw : HW Z a0) (ws : List Jvm.Cond) (o0 o_1 : Addr) (i_3 i_4 i_5 : Int32) (k_o_1 : ClassId) (h0 : Heap) (n0 : Nat) (Z0 : n0 ≤ h0.size) (F_o0_value : Fd4 Z h0 o0 (.ref o_1)) (V_o_1 : Arv Z h0 o_1 k_o_1 .byte 16 [(.int i_3), (.int i_4), (.int i_5), z0, z0, z0, z0, z0, z0, z0, z0, z0, z0, z0, z0, z0] z0) (F_o0_coder : Fd5 Z h0 o0 z0) :
    MF l Z y22_ensureCapacityInternal b25_ 3 none ws ⟨0, 0, 0, 0⟩ #[(.ref o0), (.int 5)] h0 (Q_r109_ensureCapacityInternal Z o0 o_1 i_3 i_4 i_5 k_o_1 h0 n0) := by
  refine own_body (plainFor_of_name pn_AbstractStringBuilder101) (ef_r109_ensureCapacityInternal o0) (by decide) (by decide) ?_
  intro p e s m below meth c s₁ hx hby hml hown hnm hret hZ hh e0 X0
  have N0 := Fr.nil n0
  obtain ⟨T2, X2, e2, st2⟩ := getF X0 hx hZ hown (host := "") (Or.inl (w124 hw)) Via.refl e0 F_o0_value (g := (mkF m 1 #[vr o0, vi 5, .unset] [(.ref o0)])) rfl rfl (hb hby d260)
  obtain ⟨T6, X6, e6, st6⟩ := getF X2 hx hZ hown (host := "") (Or.inl (w126 hw)) Via.refl e2 F_o0_coder (g := (mkF m 6 #[vr o0, vi 5, .unset] [(.ref o0), (.int 16)])) rfl rfl (hb hby d263)
  refine ⟨T6, _, none, X6, (fun h => by cases h <;> rfl), ?_, fun fs hr => ?_⟩
  · show Q_r109_ensureCapacityInternal Z o0 o_1 i_3 i_4 i_5 k_o_1 h0 n0 _ T6.heap _
    rw [e6]
    exact ⟨rfl, N0, rfl⟩
  · refine t_aloadN 1 X0.here hx (hb hby d259) rfl rfl rfl ?_
    refine st2 _ ?_
    refine own_arlen (pc' := 5) X2 hx hZ e2 V_o_1 (hb hby d261) rfl ?_
    refine t_aloadN 6 X2.here hx (hb hby d262) rfl rfl rfl ?_
    refine st6 _ ?_
    refine t_ishr 10 (r := 16) X6.here hx (hb hby d264) (by decide : ((16 : Int32) >>> ((0 : Int32) &&& 31)) = (16 : Int32)) rfl ?_
    refine t_istoreN (pc' := 11) (L' := #[vr o0, vi 5, vi 16]) X6.here hx (hb hby d265) rfl rfl ?_
    refine t_iloadN 12 X6.here hx (hb hby d266) rfl rfl ?_
    refine t_iloadN 13 X6.here hx (hb hby d267) rfl rfl ?_
    refine t_isub 14 (r := (-11 : Int32)) X6.here hx (hb hby d268) (by decide : ((5 : Int32) - (16 : Int32)) = (-11 : Int32)) rfl ?_
    refine t_ifYes (pc := 14) 38 X6.here hx (hb hby d269) (by decide) (by decide) (by decide) ?_
    exact X6.returnOut hx hret (hb hby d270) hr
def WS_r111_getBytes (Z : State) (o1 : Addr) : List (Addr × Nat) := [(o1, 0), (o1, 1), (o1, 2), (o1, 3), (o1, 4), (o1, 5), (o1, 6), (o1, 7), (o1, 8), (o1, 9), (o1, 10), (o1, 11), (o1, 12), (o1, 13), (o1, 14), (o1, 15)]
def Q_r111_getBytes (Z : State) (o0 o1 : Addr) (i_1 : Int32) (o_3 : Addr) (i_6 i_7 : Int32) (k_o_3 : ClassId) (i_8 i_9 i_10 : Int32) (k_o1 : ClassId) (h0 : Heap) (n0 : Nat) (v : Option Value) (h : Heap) (L : List Loc) : Prop := v = none ∧ Fr n0 L ∧ KL h0 h (WS_r111_getBytes Z o1) ∧ Arv Z h o1 k_o1 .byte 16 [(.int i_8), (.int i_9), (.int i_10), (.int i_6), (.int i_7), z0, z0, z0, z0, z0, z0, z0, z0, z0, z0, z0] z0
theorem ef_r111_getBytes (o0 o1 : Addr) (m : MethodId) : entryFrame m #[(.ref o0), (.ref o1), (.int 3), (.int 0)] 4 = mkF m 0 #[.val (.ref o0), .val (.ref o1), .val (.int 3), .val (.int 0)] [] := by first | (simp [entryFrame, mkF, argsToLocals, Value.category]; done) | rfl
set_option maxRecDepth 65536 in
set_option maxHeartbeats 40000000 in
theorem r111_getBytes (l : Launch) (Z : State) (a0 : Array Value) (hw : HW Z a0) (ws : List Jvm.Cond) (o0 o1 : Addr) (i_1 : Int32) (o_3 : Addr) (i_6 i_7 : Int32) (k_o_3 : ClassId) (i_8 i_9 i_10 : Int32) (k_o1 : ClassId) (h0 : Heap) (n0 : Nat) (Z0 : n0 ≤ h0.size) (E_o0 : Ex0 Z h0 o0) (sCS : SCS Z i_1) (F_o0_coder : Fd0 Z h0 o0 z0) (O0 : Old Z n0 h0) (hp0 : ¬ (i_1 = (0 : Int32))) (F_o0_value : Fd1 Z h0 o0 (.ref o_3)) (V_o_3 : Arv Z h0 o_3 k_o_3 .byte 2 [(.int i_6), (.int i_7)] z0) (V_o1 : Arv Z h0 o1 k_o1 .byte 16 [(.int i_8), (.int i_9), (.int i_10), z0, z0, z0, z0, z0, z0, z0, z0, z0, z0, z0, z0, z0] z0) (g_o1 : n0 ≤ o1) :
    MF l Z y24_getBytes b28_ 4 none ws ⟨1, 0, 0, 18⟩ #[(.ref o0), (.ref o1), (.int 3), z0] h0 (Q_r111_getBytes Z o0 o1 i_1 o_3 i_6 i_7 k_o_3 i_8 i_9 i_10 k_o1 h0 n0) := by
  refine own_body (plainFor_of_name pn_String564) (ef_r111_getBytes o0 o1) (by decide) (by decide) ?_
  intro p e s m below meth c s₁ hx hby hml hown hnm hret hZ hh e0 X0
  have N0 := Fr.nil n0
  obtain ⟨_, T2, L2, X2, hQ2, st2⟩ := own_virtual X0 hx hZ hown (w79 hw) (w80 hw) (nfS hZ (w82 hw)) (w82 hw) (w81 hw) (w6 hw) (w83 hw) (by decide) (r14_coder l Z a0 hw [] o0 i_1 h0 n0 Z0 sCS O0 hp0 F_o0_coder) e0 E_o0 (W := 0) (by decide) (g := (mkF m 1 #[vr o0, vr o1, vi 3, vi 0] [(.ref o0)])) rfl hml.symm (argsL := []) (rest := []) (lenOf pd_9 rfl) rfl rfl (own_wr rfl rfl) (hb hby d295)
  obtain ⟨rfl, N2q, e2⟩ := hQ2
  have N2 := Fr.app N0 N2q
  obtain ⟨T4, X4, e4, st4⟩ := getF X2 hx hZ hown (host := "") (Or.inl (w32 hw)) Via.refl e2 F_o0_value (g := (mkF m 9 #[vr o0, vr o1, vi 3, vi 0] [(.ref o0)])) rfl rfl (hb hby d299)
  obtain ⟨T5, X5, e5, st5⟩ := getF X4 hx hZ hown (host := "") (Or.inl (w32 hw)) Via.refl e4 F_o0_value (g := (mkF m 18 #[vr o0, vr o1, vi 3, vi 0] [(.ref o0), (.int 3), (.ref o1), z0, (.ref o_3)])) rfl rfl (hb hby d306)
  obtain ⟨T11, h11, L11, X11, e11, N11, Kp11, V11, st11⟩ := cpA X5 hx hZ hown (w162 hw) (w165 hw) (w163 hw) (w164 hw) e5 (us := [(.int i_6), (.int i_7)]) V_o_3 V_o1 (Or.inl ⟨rfl, rfl⟩) (by decide) (by decide) (by decide) (by decide) (by decide) rfl (by first | decide | exact Nat.le_of_ble_eq_true rfl) N2 g_o1 (g := (mkF m 22 #[vr o0, vr o1, vi 3, vi 0] [(.int 2), (.int 3), (.ref o1), z0, (.ref o_3)])) rfl hml.symm rfl (hb hby d308) (by decide) (W := 0) (own_wr rfl rfl) (by decide)
  have K11 : KL h0 h11 [(o1, 0), (o1, 1), (o1, 2), (o1, 3), (o1, 4), (o1, 5), (o1, 6), (o1, 7), (o1, 8), (o1, 9), (o1, 10), (o1, 11), (o1, 12), (o1, 13), (o1, 14), (o1, 15)] := own_kcp Kp11 V_o1 (n := 16) rfl ⟨_, rfl⟩
  replace V11 : Arv Z h11 o1 k_o1 .byte 16 [(.int i_8), (.int i_9), (.int i_10), (.int i_6), (.int i_7), z0, z0, z0, z0, z0, z0, z0, z0, z0, z0, z0] z0 := V11
  have C0 := (KL.refl h0 (WS_r111_getBytes Z o1)).trans K11 (naO (own_mi 0 rfl) (naO (own_mi 1 rfl) (naO (own_mi 2 rfl) (naO (own_mi 3 rfl) (naO (own_mi 4 rfl) (naO (own_mi 5 rfl) (naO (own_mi 6 rfl) (naO (own_mi 7 rfl) (naO (own_mi 8 rfl) (naO (own_mi 9 rfl) (naO (own_mi 10 rfl) (naO (own_mi 11 rfl) (naO (own_mi 12 rfl) (naO (own_mi 13 rfl) (naO (own_mi 14 rfl) (naO (own_mi 15 rfl) na0))))))))))))))))
  refine ⟨T11, _, none, X11, (fun h => by cases h <;> rfl), ?_, fun fs hr => ?_⟩
  · show Q_r111_getBytes Z o0 o1 i_1 o_3 i_6 i_7 k_o_3 i_8 i_9 i_10 k_o1 h0 n0 _ T11.heap _
    rw [e11]
    exact ⟨rfl, N11, C0, V11⟩
  · refine t_aloadN 1 X0.here hx (hb hby d294) rfl rfl rfl ?_
    refine st2 _ ?_
    refine t_iloadN 5 X2.here hx (hb hby d296) rfl rfl ?_
    refine t_icmpNo 8 X2.here hx (hb hby d297) (by decide) rfl ?_
    refine t_aloadN 9 X2.here hx (hb hby d298) rfl rfl rfl ?_
    refine st4 _ ?_
    refine t_iconst 13 (r := 0) X4.here hx (hb hby d300) (by decide) rfl ?_
    refine t_aloadN 14 X4.here hx (hb hby d301) rfl rfl rfl ?_
    refine t_iloadN 15 X4.here hx (hb hby d302) rfl rfl ?_
    refine t_iloadN 16 X4.here hx (hb hby d303) rfl rfl ?_
    refine t_ishl 17 (r := 3) X4.here hx (hb hby d304) (by decide : ((3 : Int32) <<< ((0 : Int32) &&& 31)) = (3 : Int32)) rfl ?_
    refine t_aloadN 18 X4.here hx (hb hby d305) rfl rfl rfl ?_
    refine st5 _ ?_
    refine own_arlen (pc' := 22) X5 hx hZ e5 V_o_3 (hb hby d307) rfl ?_
    refine st11 _ ?_
    refine t_goto (pc := 25) 43 X11.here hx (hb hby d309) (by decide) (by decide) ?_
    exact X11.returnOut hx hret (hb hby d310) hr
def WS_r110_putStringAt (Z : State) (o_3 : Addr) : List (Addr × Nat) := [(o_3, 0), (o_3, 1), (o_3, 2), (o_3, 3), (o_3, 4), (o_3, 5), (o_3, 6), (o_3, 7), (o_3, 8), (o_3, 9), (o_3, 10), (o_3, 11), (o_3, 12), (o_3, 13), (o_3, 14), (o_3, 15)]
def Q_r110_putStringAt (Z : State) (o0 o2 : Addr) (i_1 : Int32) (o_3 o_6 : Addr) (i_7 i_8 : Int32) (k_o_6 : ClassId) (i_9 i_10 i_11 : Int32) (k_o_3 : ClassId) (h0 : Heap) (n0 : Nat) (v : Option Value) (h : Heap) (L : List Loc) : Prop := v = none ∧ Fr n0 L ∧ KL h0 h (WS_r110_putStringAt Z o_3) ∧ Arv Z h o_3 k_o_3 .byte 16 [(.int i_9), (.int i_10), (.int i_11), (.int i_7), (.int i_8), z0, z0, z0, z0, z0, z0, z0, z0, z0, z0, z0] z0
theorem ef_r110_putStringAt (o0 o2 : Addr) (m : MethodId) : entryFrame m #[(.ref o0), (.int 3), (.ref o2)] 3 = mkF m 0 #[.val (.ref o0), .val (.int 3), .val (.ref o2)] [] := by first | (simp [entryFrame, mkF, argsToLocals, Value.category]; done) | rfl
set_option maxRecDepth 65536 in
set_option maxHeartbeats 40000000 in
theorem r110_putStringAt (l : Launch) (Z : State) (a0 : Array Value) (hw : HW Z a0) (ws : List Jvm.Cond) (o0 o2 : Addr) (i_1 : Int32) (o_3 o_6 : Addr) (i_7 i_8 : Int32) (k_o_6 : ClassId) (i_9 i_10 i_11 : Int32) (k_o_3 : ClassId) (h0 : Heap) (n0 : Nat) (Z0 : n0 ≤ h0.size) (E_o0 : Ex2 Z h0 o0) (sCS : SCS Z i_1) (F_o0_coder : Fd5 Z h0 o0 z0) (E_o2 : Ex0 Z h0 o2) (F_o2_coder : Fd0 Z h0 o2 z0) (O0 : Old Z n0 h0) (hp0 : ¬ (i_1 = (0 : Int32))) (F_o0_value : Fd4 Z h0 o0 (.ref o_3)) (F_o2_value : Fd1 Z h0 o2 (.ref o_6)) (V_o_6 : Arv Z h0 o_6 k_o_6 .byte 2 [(.int i_7), (.int i_8)] z0) (V_o_3 : Arv Z h0 o_3 k_o_3 .byte 16 [(.int i_9), (.int i_10), (.int i_11), z0, z0, z0, z0, z0, z0, z0, z0, z0, z0, z0, z0, z0] z0) (g_o_3 : n0 ≤ o_3) :
    MF l Z y25_putStringAt b26_ 3 none ws ⟨2, 0, 0, 33⟩ #[(.ref o0), (.int 3), (.ref o2)] h0 (Q_r110_putStringAt Z o0 o2 i_1 o_3 o_6 i_7 i_8 k_o_6 i_9 i_10 i_11 k_o_3 h0 n0) := by
  refine own_body (plainFor_of_name pn_AbstractStringBuilder101) (ef_r110_putStringAt o0 o2) (by decide) (by decide) ?_
  intro p e s m below meth c s₁ hx hby hml hown hnm hret hZ hh e0 X0
  have N0 := Fr.nil n0
  obtain ⟨_, T2, L2, X2, hQ2, st2⟩ := own_private X0 hx hZ hown (w151 hw) (w152 hw) (w144 hw) rfl (w153 hw) (w120 hw) (w155 hw) (by decide) (r27_inflateIfNeededFor l Z a0 hw [] o0 o2 i_1 h0 n0 Z0 sCS O0 hp0 F_o0_coder E_o2 F_o2_coder) e0 E_o0 (W := 0) (by decide) (g := (mkF m 2 #[vr o0, vi 3, vr o2] [(.ref o2), (.ref o0)])) rfl hml.symm (argsL := [(.ref o2)]) (rest := []) (lenOf pd_17 rfl) rfl rfl (own_wr rfl rfl) (hb hby d278)
  obtain ⟨rfl, N2q, e2⟩ := hQ2
  have N2 := Fr.app N0 N2q
  obtain ⟨T4, X4, e4, st4⟩ := getF X2 hx hZ hown (host := "") (Or.inl (w124 hw)) Via.refl e2 F_o0_value (g := (mkF m 7 #[vr o0, vi 3, vr o2] [(.ref o0), (.ref o2)])) rfl rfl (hb hby d289)
  obtain ⟨T5, X5, e5, st5⟩ := getF X4 hx hZ hown (host := "") (Or.inl (w126 hw)) Via.refl e4 F_o0_coder (g := (mkF m 12 #[vr o0, vi 3, vr o2] [(.ref o0), (.int 3), (.ref o_3), (.ref o2)])) rfl rfl (hb hby d292)
  obtain ⟨_, T12, L12, X12, hQ12, st12⟩ := own_virtual X5 hx hZ hown (w157 hw) (w158 hw) (nfS hZ (w160 hw)) (w160 hw) (w159 hw) (w6 hw) (w161 hw) (by decide) (r111_getBytes l Z a0 hw [] o2 o_3 i_1 o_6 i_7 i_8 k_o_6 i_9 i_10 i_11 k_o_3 h0 n0 Z0 E_o2 sCS F_o2_coder O0 hp0 F_o2_value V_o_6 V_o_3 g_o_3) e5 E_o2 (W := 0) (by decide) (g := (mkF m 15 #[vr o0, vi 3, vr o2] [z0, (.int 3), (.ref o_3), (.ref o2)])) rfl hml.symm (argsL := [(.ref o_3), (.int 3), z0]) (rest := []) (lenOf pd_18 rfl) rfl rfl (own_wr rfl rfl) (hb hby d293)
  obtain ⟨rfl, N12q, K12, Q12_0⟩ := hQ12
  have N12 := Fr.app N2 N12q
  have C0 := (KL.refl h0 (WS_r110_putStringAt Z o_3)).trans K12 (naO (own_mi 0 rfl) (naO (own_mi 1 rfl) (naO (own_mi 2 rfl) (naO (own_mi 3 rfl) (naO (own_mi 4 rfl) (naO (own_mi 5 rfl) (naO (own_mi 6 rfl) (naO (own_mi 7 rfl) (naO (own_mi 8 rfl) (naO (own_mi 9 rfl) (naO (own_mi 10 rfl) (naO (own_mi 11 rfl) (naO (own_mi 12 rfl) (naO (own_mi 13 rfl) (naO (own_mi 14 rfl) (naO (own_mi 15 rfl) na0))))))))))))))))
  refine ⟨T12, _, none, X12, (fun h => by cases h <;> rfl), ?_, fun fs hr => ?_⟩
  · show Q_r110_putStringAt Z o0 o2 i_1 o_3 o_6 i_7 i_8 k_o_6 i_9 i_10 i_11 k_o_3 h0 n0 _ T12.heap _
    exact ⟨rfl, N12, C0, Q12_0⟩
  · refine t_aloadN 1 X0.here hx (hb hby d276) rfl rfl rfl ?_
    refine t_aloadN 2 X0.here hx (hb hby d277) rfl rfl rfl ?_
    refine st2 _ ?_
    refine t_aloadN 6 X2.here hx (hb hby d287) rfl rfl rfl ?_
    refine t_aloadN 7 X2.here hx (hb hby d288) rfl rfl rfl ?_
    refine st4 _ ?_
    refine t_iloadN 11 X4.here hx (hb hby d290) rfl rfl ?_
    refine t_aloadN 12 X4.here hx (hb hby d291) rfl rfl rfl ?_
    refine st5 _ ?_
    refine st12 _ ?_
    exact X12.returnOut hx hret (hb hby d311) hr
def WS_r108_append (Z : State) (o0 o_7 : Addr) : List (Addr × Nat) := [(o_7, 0), (o_7, 1), (o_7, 2), (o_7, 3), (o_7, 4), (o_7, 5), (o_7, 6), (o_7, 7), (o_7, 8), (o_7, 9), (o_7, 10), (o_7, 11), (o_7, 12), (o_7, 13), (o_7, 14), (o_7, 15), (o0, (sl6 Z))]
def Q_r108_append (Z : State) (o0 o1 o_1 : Addr) (i_2 i_3 : Int32) (k_o_1 : ClassId) (i_4 : Int32) (o_7 : Addr) (i_8 i_9 i_10 : Int32) (k_o_7 : ClassId) (h0 : Heap) (n0 : Nat) (v : Option Value) (h : Heap) (L : List Loc) : Prop := v = some (.ref o0) ∧ Fr n0 L ∧ KL h0 h (WS_r108_append Z o0 o_7) ∧ Arv Z h o_7 k_o_7 .byte 16 [(.int i_8), (.int i_9), (.int i_10), (.int i_2), (.int i_3), z0, z0, z0, z0, z0, z0, z0, z0, z0, z0, z0] z0 ∧ Fd6 Z h o0 (.int 5)
theorem ef_r108_append (o0 o1 : Addr) (m : MethodId) : entryFrame m #[(.ref o0), (.ref o1)] 3 = mkF m 0 #[.val (.ref o0), .val (.ref o1), .unset] [] := by first | (simp [entryFrame, mkF, argsToLocals, Value.category]; done) | rfl
set_option maxRecDepth 65536 in
set_option maxHeartbeats 40000000 in
theorem r108_append (l : Launch) (Z : State) (a0 : Array Value) (hw : HW Z a0) (ws : List Jvm.Cond) (o0 o1 o_1 : Addr) (i_2 i_3 : Int32) (k_o_1 : ClassId) (i_4 : Int32) (o_7 : Addr) (i_8 i_9 i_10 : Int32) (k_o_7 : ClassId) (h0 : Heap) (n0 : Nat) (Z0 : n0 ≤ h0.size) (E_o1 : Ex0 Z h0 o1) (F_o1_value : Fd1 Z h0 o1 (.ref o_1)) (V_o_1 : Arv Z h0 o_1 k_o_1 .byte 2 [(.int i_2), (.int i_3)] z0) (sCS : SCS Z i_4) (F_o1_coder : Fd0 Z h0 o1 z0) (O0 : Old Z n0 h0) (hp0 : ¬ (i_4 = (0 : Int32))) (F_o0_count : Fd6 Z h0 o0 (.int 3)) (E_o0 : Ex2 Z h0 o0) (F_o0_value : Fd4 Z h0 o0 (.ref o_7)) (V_o_7 : Arv Z h0 o_7 k_o_7 .byte 16 [(.int i_8), (.int i_9), (.int i_10), z0, z0, z0, z0, z0, z0, z0, z0, z0, z0, z0, z0, z0] z0) (F_o0_coder : Fd5 Z h0 o0 z0) (g_o_7 : n0 ≤ o_7) (ne_o0_o_7 : o0 ≠ o_7) (g_o0 : n0 ≤ o0) :
    MF l Z y26_append b24_ 3 (some (.object "java/lang/AbstractStringBuilder")) ws ⟨3, 0, 0, 47⟩ #[(.ref o0), (.ref o1)] h0 (Q_r108_append Z o0 o1 o_1 i_2 i_3 k_o_1 i_4 o_7 i_8 i_9 i_10 k_o_7 h0 n0) := by
  refine own_body (plainFor_of_name pn_AbstractStringBuilder101) (ef_r108_append o0 o1) (by decide) (by decide) ?_
  intro p e s m below meth c s₁ hx hby hml hown hnm hret hZ hh e0 X0
  have N0 := Fr.nil n0
  obtain ⟨_, T5, L5, X5, hQ5, st5⟩ := own_virtual X0 hx hZ hown (w138 hw) (w75 hw) (nfS hZ (w77 hw)) (w77 hw) (w76 hw) (w6 hw) (w78 hw) (by decide) (r67_length l Z a0 hw [] o1 o_1 i_2 i_3 k_o_1 i_4 h0 n0 Z0 F_o1_value V_o_1 E_o1 sCS F_o1_coder O0 hp0) e0 E_o1 (W := 0) (by decide) (g := (mkF m 10 #[vr o0, vr o1, .unset] [(.ref o1)])) rfl hml.symm (argsL := []) (rest := []) (lenOf pd_10 rfl) rfl rfl (own_wr rfl rfl) (hb hby d251)
  obtain ⟨rfl, N5q, e5⟩ := hQ5
  have N5 := Fr.app N0 N5q
  obtain ⟨T6, X6, e6, st6⟩ := getF X5 hx hZ hown (host := "") (Or.inl (w139 hw)) Via.refl e5 F_o0_count (g := (mkF m 16 #[vr o0, vr o1, vi 2] [(.ref o0), (.ref o0)])) rfl rfl (hb hby d255)
  obtain ⟨_, T11, L11, X11, hQ11, st11⟩ := own_private X6 hx hZ hown (w141 hw) (w142 hw) (w144 hw) rfl (w143 hw) (w120 hw) (w145 hw) (by decide) (r109_ensureCapacityInternal l Z a0 hw [] o0 o_7 i_8 i_9 i_10 k_o_7 h0 n0 Z0 F_o0_value V_o_7 F_o0_coder) e6 E_o0 (W := 0) (by decide) (g := (mkF m 21 #[vr o0, vr o1, vi 2] [(.int 5), (.ref o0)])) rfl hml.symm (argsL := [(.int 5)]) (rest := []) (lenOf pd_16 rfl) rfl rfl (own_wr rfl rfl) (hb hby d258)
  obtain ⟨rfl, N11q, e11⟩ := hQ11
  have N11 := Fr.app N5 N11q
  obtain ⟨T12, X12, e12, st12⟩ := getF X11 hx hZ hown (host := "") (Or.inl (w139 hw)) Via.refl e11 F_o0_count (g := (mkF m 26 #[vr o0, vr o1, vi 2] [(.ref o0), (.ref o0)])) rfl rfl (hb hby d273)
  obtain ⟨_, T13, L13, X13, hQ13, st13⟩ := own_private X12 hx hZ hown (w146 hw) (w147 hw) (w144 hw) rfl (w148 hw) (w120 hw) (w150 hw) (by decide) (r110_putStringAt l Z a0 hw [] o0 o1 i_4 o_7 o_1 i_2 i_3 k_o_1 i_8 i_9 i_10 k_o_7 h0 n0 Z0 E_o0 sCS F_o0_coder E_o1 F_o1_coder O0 hp0 F_o0_value F_o1_value V_o_1 V_o_7 g_o_7) e12 E_o0 (W := 0) (by decide) (g := (mkF m 30 #[vr o0, vr o1, vi 2] [(.ref o1), (.int 3), (.ref o0)])) rfl hml.symm (argsL := [(.int 3), (.ref o1)]) (rest := []) (lenOf pd_19 rfl) rfl rfl (own_wr rfl rfl) (hb hby d275)
  obtain ⟨rfl, N13q, K13, Q13_0⟩ := hQ13
  have N13 := Fr.app N11 N13q
  have f14 := (kFld K13 F_o0_count (nwB 16 rfl ne_o0_o_7))
  obtain ⟨T15, X15, e15, st15⟩ := getF X13 hx hZ hown (host := "") (Or.inl (w139 hw)) Via.refl rfl f14 (g := (mkF m 35 #[vr o0, vr o1, vi 2] [(.ref o0), (.ref o0)])) rfl rfl (hb hby d314)
  have f16 := (kExa K13 E_o0)
  obtain ⟨T17, h17, X17, e17, W17, st17⟩ := putF X15 hx hZ hown (host := "") (Or.inl (w139 hw)) Via.refl e15 f14 f16 (Or.inl (w140 hw)) (w111 hw) (ty := .int) (by decide) rfl rfl (g := (mkF m 40 #[vr o0, vr o1, vi 2] [(.int 5), (.ref o0)])) rfl rfl (hb hby d317)
  have K17 := KL.ofW W17
  have Fw17 : Fd6 Z h17 o0 (.int 5) := Fld.same W17 f14
  have N17 := Fr.snoc X17 N13 g_o0
  have C0 := (KL.refl h0 (WS_r108_append Z o0 o_7)).trans K13 (naO (own_mi 0 rfl) (naO (own_mi 1 rfl) (naO (own_mi 2 rfl) (naO (own_mi 3 rfl) (naO (own_mi 4 rfl) (naO (own_mi 5 rfl) (naO (own_mi 6 rfl) (naO (own_mi 7 rfl) (naO (own_mi 8 rfl) (naO (own_mi 9 rfl) (naO (own_mi 10 rfl) (naO (own_mi 11 rfl) (naO (own_mi 12 rfl) (naO (own_mi 13 rfl) (naO (own_mi 14 rfl) (naO (own_mi 15 rfl) na0))))))))))))))))
  have C1 := C0.trans K17 (naO (own_mi 16 rfl) na0)
  have f18 := (kArv K17 Q13_0 (naN ne_o0_o_7 na0))
  refine ⟨T17, _, some (.ref o0), X17, (fun h => by cases h <;> rfl), ?_, fun fs hr => ?_⟩
  · show Q_r108_append Z o0 o1 o_1 i_2 i_3 k_o_1 i_4 o_7 i_8 i_9 i_10 k_o_7 h0 n0 _ T17.heap _
    rw [e17]
    exact ⟨rfl, N17, C1, f18, Fw17⟩
  · refine t_aloadN 1 X0.here hx (hb hby d248) rfl rfl rfl ?_
    refine t_ifnonnullYes (pc := 1) 9 X0.here hx (hb hby d249) (by decide) (by decide) ?_
    refine t_aloadN 10 X0.here hx (hb hby d250) rfl rfl rfl ?_
    refine st5 _ ?_
    refine t_istoreN (pc' := 14) (L' := #[vr o0, vr o1, vi 2]) X5.here hx (hb hby d252) rfl rfl ?_
    refine t_aloadN 15 X5.here hx (hb hby d253) rfl rfl rfl ?_
    refine t_aloadN 16 X5.here hx (hb hby d254) rfl rfl rfl ?_
    refine st6 _ ?_
    refine t_iloadN 20 X6.here hx (hb hby d256) rfl rfl ?_
    refine t_iadd 21 (r := 5) X6.here hx (hb hby d257) (by decide : ((3 : Int32) + (2 : Int32)) = (5 : Int32)) rfl ?_
    refine st11 _ ?_
    refine t_aloadN 25 X11.here hx (hb hby d271) rfl rfl rfl ?_
    refine t_aloadN 26 X11.here hx (hb hby d272) rfl rfl rfl ?_
    refine st12 _ ?_
    refine t_aloadN 30 X12.here hx (hb hby d274) rfl rfl rfl ?_
    refine st13 _ ?_
    refine t_aloadN 34 X13.here hx (hb hby d312) rfl rfl rfl ?_
    refine t_dup 35 X13.here hx (hb hby d313) rfl rfl ?_
    refine st15 _ ?_
    refine t_iloadN 39 X15.here hx (hb hby d315) rfl rfl ?_
    refine t_iadd 40 (r := 5) X15.here hx (hb hby d316) (by decide : ((3 : Int32) + (2 : Int32)) = (5 : Int32)) rfl ?_
    refine st17 _ ?_
    refine t_aloadN 44 X17.here hx (hb hby d318) rfl rfl rfl ?_
    jvm_step X17.here [X17.here.top, hx, (hb hby d319), X17.method', hret, Value.isRef, FieldType.isReference]
    first | (intro acts; rw [hr _ acts rfl rfl rfl]) | rw [hr _ _ rfl rfl rfl]
    exact Steps.refl _
def WS_r107_append (Z : State) (o0 o_5 : Addr) : List (Addr × Nat) := [(o_5, 0), (o_5, 1), (o_5, 2), (o_5, 3), (o_5, 4), (o_5, 5), (o_5, 6), (o_5, 7), (o_5, 8), (o_5, 9), (o_5, 10), (o_5, 11), (o_5, 12), (o_5, 13), (o_5, 14), (o_5, 15), (o0, (sl6 Z))]
def Q_r107_append (Z : State) (o0 o1 o_1 : Addr) (i_2 i_3 : Int32) (k_o_1 : ClassId) (i_4 : Int32) (o_5 : Addr) (i_6 i_7 i_8 : Int32) (k_o_5 : ClassId) (h0 : Heap) (n0 : Nat) (v : Option Value) (h : Heap) (L : List Loc) : Prop := v = some (.ref o0) ∧ Fr n0 L ∧ KL h0 h (WS_r107_append Z o0 o_5) ∧ Arv Z h o_5 k_o_5 .byte 16 [(.int i_6), (.int i_7), (.int i_8), (.int i_2), (.int i_3), z0, z0, z0, z0, z0, z0, z0, z0, z0, z0, z0] z0 ∧ Fd6 Z h o0 (.int 5)
theorem ef_r107_append (o0 o1 : Addr) (m : MethodId) : entryFrame m #[(.ref o0), (.ref o1)] 2 = mkF m 0 #[.val (.ref o0), .val (.ref o1)] [] := by first | (simp [entryFrame, mkF, argsToLocals, Value.category]; done) | rfl
set_option maxRecDepth 65536 in
set_option maxHeartbeats 40000000 in
theorem r107_append (l : Launch) (Z : State) (a0 : Array Value) (hw : HW Z a0) (ws : List Jvm.Cond) (o0 o1 o_1 : Addr) (i_2 i_3 : Int32) (k_o_1 : ClassId) (i_4 : Int32) (o_5 : Addr) (i_6 i_7 i_8 : Int32) (k_o_5 : ClassId) (h0 : Heap) (n0 : Nat) (Z0 : n0 ≤ h0.size) (E_o0 : Ex2 Z h0 o0) (E_o1 : Ex0 Z h0 o1) (F_o1_value : Fd1 Z h0 o1 (.ref o_1)) (V_o_1 : Arv Z h0 o_1 k_o_1 .byte 2 [(.int i_2), (.int i_3)] z0) (sCS : SCS Z i_4) (F_o1_coder : Fd0 Z h0 o1 z0) (F_o0_count : Fd6 Z h0 o0 (.int 3)) (F_o0_value : Fd4 Z h0 o0 (.ref o_5)) (V_o_5 : Arv Z h0 o_5 k_o_5 .byte 16 [(.int i_6), (.int i_7), (.int i_8), z0, z0, z0, z0, z0, z0, z0, z0, z0, z0, z0, z0, z0] z0) (F_o0_coder : Fd5 Z h0 o0 z0) (O0 : Old Z n0 h0) (hp0 : ¬ (i_4 = (0 : Int32))) (g_o_5 : n0 ≤ o_5) (ne_o0_o_5 : o0 ≠ o_5) (g_o0 : n0 ≤ o0) :
    MF l Z y27_append b23_ 2 (some (.object "java/lang/StringBuilder")) ws ⟨4, 0, 0, 61⟩ #[(.ref o0), (.ref o1)] h0 (Q_r107_append Z o0 o1 o_1 i_2 i_3 k_o_1 i_4 o_5 i_6 i_7 i_8 k_o_5 h0 n0) := by
  refine own_body (plainFor_of_name pn_StringBuilder278) (ef_r107_append o0 o1) (by decide) (by decide) ?_
  intro p e s m below meth c s₁ hx hby hml hown hnm hret hZ hh e0 X0
  have N0 := Fr.nil n0
  obtain ⟨_, T9, L9, X9, hQ9, st9⟩ := own_super X0 hx hZ hown (w133 hw) (w134 hw) (w144 hw) rfl (w135 hw) (by decide) (w120 hw) (w137 hw) (by decide) (r108_append l Z a0 hw [] o0 o1 o_1 i_2 i_3 k_o_1 i_4 o_5 i_6 i_7 i_8 k_o_5 h0 n0 Z0 E_o1 F_o1_value V_o_1 sCS F_o1_coder O0 hp0 F_o0_count E_o0 F_o0_value V_o_5 F_o0_coder g_o_5 ne_o0_o_5 g_o0) e0 E_o0 (W := 0) (by decide) (g := (mkF m 2 #[vr o0, vr o1] [(.ref o1), (.ref o0)])) rfl hml.symm (argsL := [(.ref o1)]) (rest := []) (lenOf pd_20 rfl) rfl rfl (own_wr rfl rfl) (hb hby d247)
  obtain ⟨rfl, N9q, K9, Q9_0, Q9_1⟩ := hQ9
  have N9 := Fr.app N0 N9q
  have C0 := (KL.refl h0 (WS_r107_append Z o0 o_5)).trans K9 (naO (own_mi 0 rfl) (naO (own_mi 1 rfl) (naO (own_mi 2 rfl) (naO (own_mi 3 rfl) (naO (own_mi 4 rfl) (naO (own_mi 5 rfl) (naO (own_mi 6 rfl) (naO (own_mi 7 rfl) (naO (own_mi 8 rfl) (naO (own_mi 9 rfl) (naO (own_mi 10 rfl) (naO (own_mi 11 rfl) (naO (own_mi 12 rfl) (naO (own_mi 13 rfl) (naO (own_mi 14 rfl) (naO (own_mi 15 rfl) (naO (own_mi 16 rfl) na0)))))))))))))))))
  refine ⟨T9, _, some (.ref o0), X9, (fun h => by cases h <;> rfl), ?_, fun fs hr => ?_⟩
  · show Q_r107_append Z o0 o1 o_1 i_2 i_3 k_o_1 i_4 o_5 i_6 i_7 i_8 k_o_5 h0 n0 _ T9.heap _
    exact ⟨rfl, N9, C0, Q9_0, Q9_1⟩
  · refine t_aloadN 1 X0.here hx (hb hby d245) rfl rfl rfl ?_
    refine t_aloadN 2 X0.here hx (hb hby d246) rfl rfl rfl ?_
    refine st9 _ ?_
    refine t_pop 6 X9.here hx (hb hby d320) rfl rfl ?_
    refine t_aloadN 7 X9.here hx (hb hby d321) rfl rfl rfl ?_
    jvm_step X9.here [X9.here.top, hx, (hb hby d322), X9.method', hret, Value.isRef, FieldType.isReference]
    first | (intro acts; rw [hr _ acts rfl rfl rfl]) | rw [hr _ _ rfl rfl rfl]
    exact Steps.refl _
def Q_r116_length (Z : State) (o0 : Addr) (h0 : Heap) (n0 : Nat) (v : Option Value) (h : Heap) (L : List Loc) : Prop := v = some (.int 5) ∧ Fr n0 L ∧ h = h0
theorem ef_r116_length (o0 : Addr) (m : MethodId) : entryFrame m #[(.ref o0)] 1 = mkF m 0 #[.val (.ref o0)] [] := by first | (simp [entryFrame, mkF, argsToLocals, Value.category]; done) | rfl
set_option maxRecDepth 65536 in
set_option maxHeartbeats 40000000 in
theorem r116_length (l : Launch) (Z : State) (a0 : Array Value) (hw : HW Z a0) (ws : List Jvm.Cond) (o0 : Addr) (h0 : Heap) (n0 : Nat) (Z0 : n0 ≤ h0.size) (F_o0_count : Fd6 Z h0 o0 (.int 5)) :
    MF l Z y29_length b34_ 1 (some .int) ws ⟨0, 0, 0, 0⟩ #[(.ref o0)] h0 (Q_r116_length Z o0 h0 n0) := by
  refine own_body (plainFor_of_name pn_AbstractStringBuilder101) (ef_r116_length o0) (by decide) (by decide) ?_
  intro p e s m below meth c s₁ hx hby hml hown hnm hret hZ hh e0 X0
  have N0 := Fr.nil n0
  obtain ⟨T1, X1, e1, st1⟩ := getF X0 hx hZ hown (host := "") (Or.inl (w139 hw)) Via.refl e0 F_o0_count (g := (mkF m 1 #[vr o0] [(.ref o0)])) rfl rfl (hb hby d350)
  refine ⟨T1, _, some (.int 5), X1, (fun h => by cases h <;> rfl), ?_, fun fs hr => ?_⟩
  · show Q_r116_length Z o0 h0 n0 _ T1.heap _
    rw [e1]
    exact ⟨rfl, N0, rfl⟩
  · refine t_aloadN 1 X0.here hx (hb hby d349) rfl rfl rfl ?_
    refine st1 _ ?_
    exact retI X1 hx hret (hb hby d351) hr
def Q_r115_length (Z : State) (o0 : Addr) (h0 : Heap) (n0 : Nat) (v : Option Value) (h : Heap) (L : List Loc) : Prop := v = some (.int 5) ∧ Fr n0 L ∧ h = h0
theorem ef_r115_length (o0 : Addr) (m : MethodId) : entryFrame m #[(.ref o0)] 1 = mkF m 0 #[.val (.ref o0)] [] := by first | (simp [entryFrame, mkF, argsToLocals, Value.category]; done) | rfl
set_option maxRecDepth 65536 in
set_option maxHeartbeats 40000000 in
theorem r115_length (l : Launch) (Z : State) (a0 : Array Value) (hw : HW Z a0) (ws : List Jvm.Cond) (o0 : Addr) (h0 : Heap) (n0 : Nat) (Z0 : n0 ≤ h0.size) (E_o0 : Ex2 Z h0 o0) (F_o0_count : Fd6 Z h0 o0 (.int 5)) :
    MF l Z y30_length b33_ 1 (some .int) ws ⟨1, 0, 0, 12⟩ #[(.ref o0)] h0 (Q_r115_length Z o0 h0 n0) := by
  refine own_body (plainFor_of_name pn_StringBuilder278) (ef_r115_length o0) (by decide) (by decide) ?_
  intro p e s m below meth c s₁ hx hby hml hown hnm hret hZ hh e0 X0
  have N0 := Fr.nil n0
  obtain ⟨_, T1, L1, X1, hQ1, st1⟩ := own_super X0 hx hZ hown (w190 hw) (w186 hw) (w144 hw) rfl (w135 hw) (by decide) (w120 hw) (w191 hw) (by decide) (r116_length l Z a0 hw [] o0 h0 n0 Z0 F_o0_count) e0 E_o0 (W := 0) (by decide) (g := (mkF m 1 #[vr o0] [(.ref o0)])) rfl hml.symm (argsL := []) (rest := []) (lenOf pd_10 rfl) rfl rfl (own_wr rfl rfl) (hb hby d348)
  obtain ⟨rfl, N1q, e1⟩ := hQ1
  have N1 := Fr.app N0 N1q
  refine ⟨T1, _, some (.int 5), X1, (fun h => by cases h <;> rfl), ?_, fun fs hr => ?_⟩
  · show Q_r115_length Z o0 h0 n0 _ T1.heap _
    rw [e1]
    exact ⟨rfl, N1, rfl⟩
  · refine t_aloadN 1 X0.here hx (hb hby d347) rfl rfl rfl ?_
    refine st1 _ ?_
    exact retI X1 hx hret (hb hby d352) hr
def Q_r119_checkLength (Z : State)  (h0 : Heap) (n0 : Nat) (v : Option Value) (h : Heap) (L : List Loc) : Prop := v = none ∧ Fr n0 L ∧ h = h0
theorem ef_r119_checkLength (m : MethodId) : entryFrame m #[(.int 0), (.int 5)] 2 = mkF m 0 #[.val (.int 0), .val (.int 5)] [] := by first | (simp [entryFrame, mkF, argsToLocals, Value.category]; done) | rfl
set_option maxRecDepth 65536 in
set_option maxHeartbeats 40000000 in
theorem r119_checkLength (l : Launch) (Z : State) (a0 : Array Value) (hw : HW Z a0) (ws : List Jvm.Cond)  (h0 : Heap) (n0 : Nat) (Z0 : n0 ≤ h0.size) :
    MF l Z y32_checkLength b38_ 2 none ws ⟨0, 0, 0, 0⟩ #[z0, (.int 5)] h0 (Q_r119_checkLength Z  h0 n0) := by
  refine own_body (plainFor_of_name pn_Arrays587) (ef_r119_checkLength) (by decide) (by decide) ?_
  intro p e s m below meth c s₁ hx hby hml hown hnm hret hZ hh e0 X0
  have N0 := Fr.nil n0
  refine ⟨s₁, _, none, X0, (fun h => by cases h <;> rfl), ?_, fun fs hr => ?_⟩
  · show Q_r119_checkLength Z  h0 n0 _ s₁.heap _
    rw [e0]
    exact ⟨rfl, N0, rfl⟩
  · refine t_iloadN 1 X0.here hx (hb hby d386) rfl rfl ?_
    refine t_iloadN 2 X0.here hx (hb hby d387) rfl rfl ?_
    refine t_icmpYes (pc := 2) 37 X0.here hx (hb hby d388) (by decide) (by decide) (by decide) ?_
    exact X0.returnOut hx hret (hb hby d389) hr
def Q_r120_min (Z : State)  (h0 : Heap) (n0 : Nat) (v : Option Value) (h : Heap) (L : List Loc) : Prop := v = some (.int 5) ∧ Fr n0 L ∧ h = h0
theorem ef_r120_min (m : MethodId) : entryFrame m #[(.int 16), (.int 5)] 2 = mkF m 0 #[.val (.int 16), .val (.int 5)] [] := by first | (simp [entryFrame, mkF, argsToLocals, Value.category]; done) | rfl
set_option maxRecDepth 65536 in
set_option maxHeartbeats 40000000 in
theorem r120_min (l : Launch) (Z : State) (a0 : Array Value) (hw : HW Z a0) (ws : List Jvm.Cond)  (h0 : Heap) (n0 : Nat) (Z0 : n0 ≤ h0.size) :
    MF l Z y14_min b18_ 2 (some .int) ws ⟨0, 0, 0, 0⟩ #[(.int 16), (.int 5)] h0 (Q_r120_min Z  h0 n0) := by
  refine own_body (Jvm.Free.JP.mathPlain rfl (by decide +kernel)) (ef_r120_min) (by decide) (by decide) ?_
  intro p e s m below meth c s₁ hx hby hml hown hnm hret hZ hh e0 X0
  have N0 := Fr.nil n0
  refine ⟨s₁, _, some (.int 5), X0, (fun h => by cases h <;> rfl), ?_, fun fs hr => ?_⟩
  · show Q_r120_min Z  h0 n0 _ s₁.heap _
    rw [e0]
    exact ⟨rfl, N0, rfl⟩
  · refine t_iloadN 1 X0.here hx (hb hby d175) rfl rfl ?_
    refine t_iloadN 2 X0.here hx (hb hby d176) rfl rfl ?_
    refine t_icmpYes (pc := 2) 9 X0.here hx (hb hby d177) (by decide) (by decide) (by decide) ?_
    refine t_iloadN 10 X0.here hx (hb hby d407) rfl rfl ?_
    exact retI X0 hx hret (hb hby d180) hr
def Q_r118_copyOfRangeByte (Z : State) (o0 : Addr) (i_3 i_4 i_5 i_6 i_7 : Int32) (k_o0 : ClassId) (h0 : Heap) (n0 : Nat) (v : Option Value) (h : Heap) (L : List Loc) : Prop := ∃ b2 : Addr, ∃ k2 : ClassId, v = some (.ref b2) ∧ Fr n0 L ∧ KL h0 h [] ∧ h0.size ≤ b2 ∧ Arv Z h b2 k2 .byte 5 [(.int i_3), (.int i_4), (.int i_5), (.int i_6), (.int i_7)] z0
theorem ef_r118_copyOfRangeByte (o0 : Addr) (m : MethodId) : entryFrame m #[(.ref o0), (.int 0), (.int 5)] 5 = mkF m 0 #[.val (.ref o0), .val (.int 0), .val (.int 5), .unset, .unset] [] := by first | (simp [entryFrame, mkF, argsToLocals, Value.category]; done) | rfl
set_option maxRecDepth 65536 in
set_option maxHeartbeats 40000000 in
theorem r118_copyOfRangeByte (l : Launch) (Z : State) (a0 : Array Value) (hw : HW Z a0) (ws : List Jvm.Cond) (o0 : Addr) (i_3 i_4 i_5 i_6 i_7 : Int32) (k_o0 : ClassId) (h0 : Heap) (n0 : Nat) (Z0 : n0 ≤ h0.size) (V_o0 : Arv Z h0 o0 k_o0 .byte 16 [(.int i_3), (.int i_4), (.int i_5), (.int i_6), (.int i_7), z0, z0, z0, z0, z0, z0, z0, z0, z0, z0, z0] z0) :
    MF l Z y33_copyOfRangeByte b37_ 5 (some (.array .byte)) ws ⟨1, 1, 5, 18⟩ #[(.ref o0), z0, (.int 5)] h0 (Q_r118_copyOfRangeByte Z o0 i_3 i_4 i_5 i_6 i_7 k_o0 h0 n0) := by
  refine own_body (plainFor_of_name pn_Arrays587) (ef_r118_copyOfRangeByte o0) (by decide) (by decide) ?_
  intro p e s m below meth c s₁ hx hby hml hown hnm hret hZ hh e0 X0
  have N0 := Fr.nil n0
  obtain ⟨_, T1, L1, X1, hQ1, st1⟩ := own_static X0 hx hZ hown (w204 hw) (w205 hw) (w199 hw) (w206 hw) (by decide) (r119_checkLength l Z a0 hw []  h0 n0 Z0) e0 (W := 0) (by decide) (g := (mkF m 2 #[vr o0, vi 0, vi 5, .unset, .unset] [(.int 5), z0])) rfl hml.symm (argsL := [z0, (.int 5)]) (rest := []) (lenOf pd_23 rfl) rfl rfl (own_wr rfl rfl) (hb hby d385)
  obtain ⟨rfl, N1q, e1⟩ := hQ1
  have N1 := Fr.app N0 N1q
  obtain ⟨T2, h2, k2, X2, e2, E2, A2, st2⟩ := newP (aty := .byte) X1 hx hZ (w23 hw) e1 (g := (mkF m 10 #[vr o0, vi 0, vi 5, vi 5, .unset] [(.int 5)])) rfl (hb hby d395) rfl (by decide) (cap := 5) (by decide) (by decide) (by decide) (by decide)
  obtain ⟨b2, g2⟩ : ∃ z, z = h0.size := ⟨_, rfl⟩
  rw [← g2] at A2 st2
  have ge_b2 : h0.size ≤ b2 := Nat.le_of_eq g2.symm
  have K2 := KL.ofE E2
  have V2 : Arv Z h2 b2 k2 .byte 5 [z0, z0, z0, z0, z0] z0 := (Arv.new A2 (by decide)).pad (pad_rep [] z0 5)
  have f8 := (kArv K2 V_o0 na0)
  obtain ⟨_, T9, L9, X9, hQ9, st9⟩ := own_static X2 hx hZ hown (w207 hw) (w96 hw) (w93 hw) (w97 hw) (by decide) (r120_min l Z a0 hw []  h2 n0 (Nat.le_trans Z0 K2.1)) e2 (W := 4) (by decide) (g := (mkF m 24 #[vr o0, vi 0, vi 5, vi 5, vr b2] [(.int 5), (.int 16), z0, (.ref b2), z0, (.ref o0)])) rfl hml.symm (argsL := [(.int 16), (.int 5)]) (rest := [z0, (.ref b2), z0, (.ref o0)]) (lenOf pd_12 rfl) rfl rfl (own_wr rfl rfl) (hb hby d406)
  obtain ⟨rfl, N9q, e9⟩ := hQ9
  have N9 := Fr.app N1 N9q
  obtain ⟨T10, h10, L10, X10, e10, N10, Kp10, V10, st10⟩ := cpA X9 hx hZ hown (w208 hw) (w165 hw) (w163 hw) (w164 hw) e9 (us := [(.int i_3), (.int i_4), (.int i_5), (.int i_6), (.int i_7)]) f8 V2 (Or.inl ⟨rfl, rfl⟩) (by decide) (by decide) (by decide) (by decide) (by decide) rfl (by first | decide | exact Nat.le_of_ble_eq_true rfl) N9 (Nat.le_trans Z0 ge_b2) (g := (mkF m 27 #[vr o0, vi 0, vi 5, vi 5, vr b2] [(.int 5), z0, (.ref b2), z0, (.ref o0)])) rfl hml.symm rfl (hb hby d408) (by decide) (W := 0) (own_wr rfl rfl) (by decide)
  have K10 : KL h2 h10 [(b2, 0), (b2, 1), (b2, 2), (b2, 3), (b2, 4)] := own_kcp Kp10 V2 (n := 5) rfl ⟨_, rfl⟩
  replace V10 : Arv Z h10 b2 k2 .byte 5 [(.int i_3), (.int i_4), (.int i_5), (.int i_6), (.int i_7)] z0 := V10
  have C0 := (KL.refl h0 []).trans K2 na0
  have C1 := C0.trans K10 (naOM 5 rfl ge_b2 na0)
  refine ⟨T10, _, some (.ref b2), X10, (fun h => by cases h <;> rfl), ?_, fun fs hr => ?_⟩
  · show Q_r118_copyOfRangeByte Z o0 i_3 i_4 i_5 i_6 i_7 k_o0 h0 n0 _ T10.heap _
    rw [e10]
    exact ⟨b2, k2, rfl, N10, C1, ge_b2, V10⟩
  · refine t_iloadN 1 X0.here hx (hb hby d383) rfl rfl ?_
    refine t_iloadN 2 X0.here hx (hb hby d384) rfl rfl ?_
    refine st1 _ ?_
    refine t_iloadN 6 X1.here hx (hb hby d390) rfl rfl ?_
    refine t_iloadN 7 X1.here hx (hb hby d391) rfl rfl ?_
    refine t_isub 8 (r := 5) X1.here hx (hb hby d392) (by decide : ((5 : Int32) - (0 : Int32)) = (5 : Int32)) rfl ?_
    refine t_istoreN (pc' := 9) (L' := #[vr o0, vi 0, vi 5, vi 5, .unset]) X1.here hx (hb hby d393) rfl rfl ?_
    refine t_iloadN 10 X1.here hx (hb hby d394) rfl rfl ?_
    refine st2 _ ?_
    refine t_astore (pc' := 14) (L' := #[vr o0, vi 0, vi 5, vi 5, vr b2]) X2.here hx (hb hby d396) rfl rfl rfl ?_
    refine t_aloadN 15 X2.here hx (hb hby d397) rfl rfl rfl ?_
    refine t_iloadN 16 X2.here hx (hb hby d398) rfl rfl ?_
    refine t_aload 18 X2.here hx (hb hby d399) rfl rfl rfl ?_
    refine t_iconst 19 (r := 0) X2.here hx (hb hby d400) (by decide) rfl ?_
    refine t_aloadN 20 X2.here hx (hb hby d401) rfl rfl rfl ?_
    refine own_arlen (pc' := 21) X2 hx hZ e2 f8 (hb hby d402) rfl ?_
    refine t_iloadN 22 X2.here hx (hb hby d403) rfl rfl ?_
    refine t_isub 23 (r := 16) X2.here hx (hb hby d404) (by decide : ((16 : Int32) - (0 : Int32)) = (16 : Int32)) rfl ?_
    refine t_iloadN 24 X2.here hx (hb hby d405) rfl rfl ?_
    refine st9 _ ?_
    refine st10 _ ?_
    refine t_aload 32 X10.here hx (hb hby d409) rfl rfl rfl ?_
    jvm_step X10.here [X10.here.top, hx, (hb hby d410), X10.method', hret, Value.isRef, FieldType.isReference]
    first | (intro acts; rw [hr _ acts rfl rfl rfl]) | rw [hr _ _ rfl rfl rfl]
    exact Steps.refl _
def Q_r117_copyOfRange (Z : State) (o0 : Addr) (i_1 i_2 i_3 i_4 i_5 : Int32) (k_o0 : ClassId) (h0 : Heap) (n0 : Nat) (v : Option Value) (h : Heap) (L : List Loc) : Prop := ∃ b2_6 : Addr, ∃ k2_6 : ClassId, v = some (.ref b2_6) ∧ Fr n0 L ∧ KL h0 h [] ∧ h0.size ≤ b2_6 ∧ Arv Z h b2_6 k2_6 .byte 5 [(.int i_1), (.int i_2), (.int i_3), (.int i_4), (.int i_5)] z0
theorem ef_r117_copyOfRange (o0 : Addr) (m : MethodId) : entryFrame m #[(.ref o0), (.int 0), (.int 5)] 3 = mkF m 0 #[.val (.ref o0), .val (.int 0), .val (.int 5)] [] := by first | (simp [entryFrame, mkF, argsToLocals, Value.category]; done) | rfl
set_option maxRecDepth 65536 in
set_option maxHeartbeats 40000000 in
theorem r117_copyOfRange (l : Launch) (Z : State) (a0 : Array Value) (hw : HW Z a0) (ws : List Jvm.Cond) (o0 : Addr) (i_1 i_2 i_3 i_4 i_5 : Int32) (k_o0 : ClassId) (h0 : Heap) (n0 : Nat) (Z0 : n0 ≤ h0.size) (V_o0 : Arv Z h0 o0 k_o0 .byte 16 [(.int i_1), (.int i_2), (.int i_3), (.int i_4), (.int i_5), z0, z0, z0, z0, z0, z0, z0, z0, z0, z0, z0] z0) :
    MF l Z y34_copyOfRange b36_ 3 (some (.array .byte)) ws ⟨2, 1, 5, 34⟩ #[(.ref o0), z0, (.int 5)] h0 (Q_r117_copyOfRange Z o0 i_1 i_2 i_3 i_4 i_5 k_o0 h0 n0) := by
  refine own_body (plainFor_of_name pn_Arrays587) (ef_r117_copyOfRange o0) (by decide) (by decide) ?_
  intro p e s m below meth c s₁ hx hby hml hown hnm hret hZ hh e0 X0
  have N0 := Fr.nil n0
  obtain ⟨_, T6, L6, X6, hQ6, st6⟩ := own_static X0 hx hZ hown (w201 hw) (w202 hw) (w199 hw) (w203 hw) (by decide) (r118_copyOfRangeByte l Z a0 hw [] o0 i_1 i_2 i_3 i_4 i_5 k_o0 h0 n0 Z0 V_o0) e0 (W := 0) (by decide) (g := (mkF m 13 #[vr o0, vi 0, vi 5] [(.int 5), z0, (.ref o0)])) rfl hml.symm (argsL := [(.ref o0), z0, (.int 5)]) (rest := []) (lenOf pd_24 rfl) rfl rfl (own_wr rfl rfl) (hb hby d382)
  obtain ⟨b2_6, k2_6, rfl, N6q, K6, Q6_0, Q6_1⟩ := hQ6
  have N6 := Fr.app N0 N6q
  have C0 := (KL.refl h0 []).trans K6 na0
  refine ⟨T6, _, some (.ref b2_6), X6, (fun h => by cases h <;> rfl), ?_, fun fs hr => ?_⟩
  · show Q_r117_copyOfRange Z o0 i_1 i_2 i_3 i_4 i_5 k_o0 h0 n0 _ T6.heap _
    exact ⟨b2_6, k2_6, rfl, N6, C0, Q6_0, Q6_1⟩
  · refine t_iloadN 1 X0.here hx (hb hby d373) rfl rfl ?_
    refine t_ifNo 4 X0.here hx (hb hby d374) (by decide) rfl ?_
    refine t_iloadN 5 X0.here hx (hb hby d375) rfl rfl ?_
    refine t_aloadN 6 X0.here hx (hb hby d376) rfl rfl rfl ?_
    refine own_arlen (pc' := 7) X0 hx hZ e0 V_o0 (hb hby d377) rfl ?_
    refine t_icmpNo 10 X0.here hx (hb hby d378) (by decide) rfl ?_
    refine t_aloadN 11 X0.here hx (hb hby d379) rfl rfl rfl ?_
    refine t_iloadN 12 X0.here hx (hb hby d380) rfl rfl ?_
    refine t_iloadN 13 X0.here hx (hb hby d381) rfl rfl ?_
    refine st6 _ ?_
    jvm_step X6.here [X6.here.top, hx, (hb hby d411), X6.method', hret, Value.isRef, FieldType.isReference]
    first | (intro acts; rw [hr _ acts rfl rfl rfl]) | rw [hr _ _ rfl rfl rfl]
    exact Steps.refl _
def WS_r114__init_ (Z : State) (o0 : Addr) : List (Addr × Nat) := [(o0, (sl0 Z)), (o0, (sl1 Z))]
def Q_r114__init_ (Z : State) (o0 o1 o_2 : Addr) (i_5 i_8 i_9 i_10 i_11 i_12 : Int32) (k_o_2 : ClassId) (h0 : Heap) (n0 : Nat) (v : Option Value) (h : Heap) (L : List Loc) : Prop := ∃ b2_6_13 : Addr, ∃ k2_6_13 : ClassId, v = none ∧ Fr n0 L ∧ KL h0 h (WS_r114__init_ Z o0) ∧ h0.size ≤ b2_6_13 ∧ Fd0 Z h o0 z0 ∧ Fd1 Z h o0 (.ref b2_6_13) ∧ Arv Z h b2_6_13 k2_6_13 .byte 5 [(.int i_8), (.int i_9), (.int i_10), (.int i_11), (.int i_12)] z0
theorem ef_r114__init_ (o0 o1 : Addr) (m : MethodId) : entryFrame m #[(.ref o0), (.ref o1), .null] 5 = mkF m 0 #[.val (.ref o0), .val (.ref o1), .val .null, .unset, .unset] [] := by first | (simp [entryFrame, mkF, argsToLocals, Value.category]; done) | rfl
set_option maxRecDepth 65536 in
set_option maxHeartbeats 40000000 in
theorem r114__init_ (l : Launch) (Z : State) (a0 : Array Value) (hw : HW Z a0) (ws : List Jvm.Cond) (o0 o1 o_2 : Addr) (i_5 i_8 i_9 i_10 i_11 i_12 : Int32) (k_o_2 : ClassId) (h0 : Heap) (n0 : Nat) (Z0 : n0 ≤ h0.size) (E_o1 : Ex2 Z h0 o1) (F_o1_value : Fd4 Z h0 o1 (.ref o_2)) (F_o1_count : Fd6 Z h0 o1 (.int 5)) (sCS : SCS Z i_5) (F_o1_coder : Fd5 Z h0 o1 z0) (O0 : Old Z n0 h0) (hp0 : ¬ (i_5 = (0 : Int32))) (F_o0_coder : Fd0 Z h0 o0 z0) (E_o0 : Ex0 Z h0 o0) (g_o0 : n0 ≤ o0) (V_o_2 : Arv Z h0 o_2 k_o_2 .byte 16 [(.int i_8), (.int i_9), (.int i_10), (.int i_11), (.int i_12), z0, z0, z0, z0, z0, z0, z0, z0, z0, z0, z0] z0) (ne_o0_o_2 : o0 ≠ o_2) (F_o0_value : Fd1 Z h0 o0 .null) :
    MF l Z y35__init_ b31_ 5 none ws ⟨3, 1, 5, 49⟩ #[(.ref o0), (.ref o1), .null] h0 (Q_r114__init_ Z o0 o1 o_2 i_5 i_8 i_9 i_10 i_11 i_12 k_o_2 h0 n0) := by
  refine own_body (plainFor_of_name pn_String564) (ef_r114__init_ o0 o1) (by decide) (by decide) ?_
  intro p e s m below meth c s₁ hx hby hml hown hnm hret hZ hh e0 X0
  have N0 := Fr.nil n0
  obtain ⟨T1, X1, e1, st1⟩ := initO X0 hx hZ hown (w15 hw) (w16 hw) (w17 hw) e0 (g := (mkF m 1 #[vr o0, vr o1, .val .null, .unset, .unset] [(.ref o0)])) rfl hml.symm rfl (hb hby d338) (by decide) (W := 0) (own_wr rfl rfl) (by decide)
  obtain ⟨_, T3, L3, X3, hQ3, st3⟩ := own_virtual X1 hx hZ hown (w179 hw) (w180 hw) (nfS hZ (w182 hw)) (w182 hw) (w181 hw) (w120 hw) (w183 hw) (by decide) (r42_getValue l Z a0 hw [] o1 o_2 h0 n0 Z0 F_o1_value) e1 E_o1 (W := 0) (by decide) (g := (mkF m 5 #[vr o0, vr o1, .val .null, .unset, .unset] [(.ref o1)])) rfl hml.symm (argsL := []) (rest := []) (lenOf pd_22 rfl) rfl rfl (own_wr rfl rfl) (hb hby d340)
  obtain ⟨rfl, N3q, e3⟩ := hQ3
  have N3 := Fr.app N0 N3q
  obtain ⟨_, T4, L4, X4, hQ4, st4⟩ := own_virtual X3 hx hZ hown (w184 hw) (w185 hw) (own_nf (args := #[]) (mvT hZ (w144 hw)) rfl) (w187 hw) (w188 hw) (w112 hw) (w189 hw) (by decide) (r115_length l Z a0 hw [] o1 h0 n0 Z0 E_o1 F_o1_count) e3 E_o1 (W := 0) (by decide) (g := (mkF m 10 #[vr o0, vr o1, .val .null, vr o_2, .unset] [(.ref o1)])) rfl hml.symm (argsL := []) (rest := []) (lenOf pd_10 rfl) rfl rfl (own_wr rfl rfl) (hb hby d346)
  obtain ⟨rfl, N4q, e4⟩ := hQ4
  have N4 := Fr.app N3 N4q
  obtain ⟨_, T6, L6, X6, hQ6, st6⟩ := own_virtual X4 hx hZ hown (w192 hw) (w193 hw) (nfS hZ (w195 hw)) (w195 hw) (w194 hw) (w120 hw) (w196 hw) (by decide) (r45_isLatin1 l Z a0 hw [] o1 i_5 h0 n0 Z0 sCS O0 hp0 F_o1_coder) e4 E_o1 (W := 0) (by decide) (g := (mkF m 16 #[vr o0, vr o1, .val .null, vr o_2, vi 5] [(.ref o1)])) rfl hml.symm (argsL := []) (rest := []) (lenOf pd_8 rfl) rfl rfl (own_wr rfl rfl) (hb hby d355)
  obtain ⟨rfl, N6q, e6⟩ := hQ6
  have N6 := Fr.app N4 N6q
  obtain ⟨T7, h7, X7, e7, W7, st7⟩ := putF X6 hx hZ hown (host := "") (Or.inl (w30 hw)) Via.refl e6 F_o0_coder E_o0 (Or.inr ⟨(w31 hw), rfl, hnm⟩) (w5 hw) (ty := .byte) (by decide) (by decide) (by decide) (g := (mkF m 24 #[vr o0, vr o1, .val .null, vr o_2, vi 5] [z0, (.ref o0)])) rfl rfl (hb hby d367)
  have K7 := KL.ofW W7
  have Fw7 : Fd0 Z h7 o0 z0 := Fld.same W7 F_o0_coder
  have N7 := Fr.snoc X7 N6 g_o0
  have f14 := (kArv K7 V_o_2 (naN ne_o0_o_2 na0))
  obtain ⟨_, T13, L13, X13, hQ13, st13⟩ := own_static X7 hx hZ hown (w197 hw) (w198 hw) (w199 hw) (w200 hw) (by decide) (r117_copyOfRange l Z a0 hw [] o_2 i_8 i_9 i_10 i_11 i_12 k_o_2 h7 n0 (Nat.le_trans Z0 K7.1) f14) e7 (W := 1) (by decide) (g := (mkF m 32 #[vr o0, vr o1, .val .null, vr o_2, vi 5] [(.int 5), z0, (.ref o_2), (.ref o0)])) rfl hml.symm (argsL := [(.ref o_2), z0, (.int 5)]) (rest := [(.ref o0)]) (lenOf pd_24 rfl) rfl rfl (own_wr rfl rfl) (hb hby d372)
  obtain ⟨b2_6_13, k2_6_13, rfl, N13q, K13, Q13_0, Q13_1⟩ := hQ13
  have N13 := Fr.app N7 N13q
  have f16 := (kFld K13 (kFld K7 F_o0_value (nwS (Or.inr (sn_0 hw)) nw0)) nw0)
  have f17 := (kExa K13 (kExa K7 E_o0))
  obtain ⟨T18, h18, X18, e18, W18, st18⟩ := putF X13 hx hZ hown (host := "") (Or.inl (w32 hw)) Via.refl rfl f16 f17 (Or.inr ⟨(w33 hw), rfl, hnm⟩) (w5 hw) (ty := (.array .byte)) (by decide) rfl rfl (g := (mkF m 35 #[vr o0, vr o1, .val .null, vr o_2, vi 5] [(.ref b2_6_13), (.ref o0)])) rfl rfl (hb hby d412)
  have K18 := KL.ofW W18
  have Fw18 : Fd1 Z h18 o0 (.ref b2_6_13) := Fld.same W18 f16
  have N18 := Fr.snoc X18 N13 g_o0
  have C0 := (KL.refl h0 (WS_r114__init_ Z o0)).trans K7 (naO (own_mi 0 rfl) na0)
  have C1 := C0.trans K13 na0
  have C2 := C1.trans K18 (naO (own_mi 1 rfl) na0)
  have f19 := (kFld K18 (kFld K13 Fw7 nw0) (nwS (Or.inr (sn_1 hw)) nw0))
  have lt_o0 : o0 < h0.size := Fld.lt F_o0_coder
  have f20 := (kArv K18 Q13_1 (naN (lt_ne (Nat.lt_of_lt_of_le lt_o0 K7.1) Q13_0) na0))
  refine ⟨T18, _, none, X18, (fun h => by cases h <;> rfl), ?_, fun fs hr => ?_⟩
  · show Q_r114__init_ Z o0 o1 o_2 i_5 i_8 i_9 i_10 i_11 i_12 k_o_2 h0 n0 _ T18.heap _
    rw [e18]
    exact ⟨b2_6_13, k2_6_13, rfl, N18, C2, (Nat.le_trans K7.1 Q13_0), f19, Fw18, f20⟩
  · refine t_aloadN 1 X0.here hx (hb hby d337) rfl rfl rfl ?_
    refine st1 _ ?_
    refine t_aloadN 5 X1.here hx (hb hby d339) rfl rfl rfl ?_
    refine st3 _ ?_
    refine t_astoreN (pc' := 9) (L' := #[vr o0, vr o1, .val .null, vr o_2, .unset]) X3.here hx (hb hby d344) rfl rfl rfl ?_
    refine t_aloadN 10 X3.here hx (hb hby d345) rfl rfl rfl ?_
    refine st4 _ ?_
    refine t_istore (pc' := 15) (L' := #[vr o0, vr o1, .val .null, vr o_2, vi 5]) X4.here hx (hb hby d353) rfl rfl ?_
    refine t_aloadN 16 X4.here hx (hb hby d354) rfl rfl rfl ?_
    refine st6 _ ?_
    refine t_ifNo 22 X6.here hx (hb hby d364) (by decide) rfl ?_
    refine t_aloadN 23 X6.here hx (hb hby d365) rfl rfl rfl ?_
    refine t_iconst 24 (r := 0) X6.here hx (hb hby d366) (by decide) rfl ?_
    refine st7 _ ?_
    refine t_aloadN 28 X7.here hx (hb hby d368) rfl rfl rfl ?_
    refine t_aloadN 29 X7.here hx (hb hby d369) rfl rfl rfl ?_
    refine t_iconst 30 (r := 0) X7.here hx (hb hby d370) (by decide) rfl ?_
    refine t_iload 32 X7.here hx (hb hby d371) rfl rfl ?_
    refine st13 _ ?_
    refine st18 _ ?_
    refine t_goto (pc := 38) 97 X18.here hx (hb hby d413) (by decide) (by decide) ?_
    exact X18.returnOut hx hret (hb hby d414) hr
def WS_r113__init_ (Z : State) (o0 : Addr) : List (Addr × Nat) := [(o0, (sl0 Z)), (o0, (sl1 Z))]
def Q_r113__init_ (Z : State) (o0 o1 o_1 : Addr) (i_2 i_3 i_4 i_5 i_6 i_7 : Int32) (k_o_1 : ClassId) (h0 : Heap) (n0 : Nat) (v : Option Value) (h : Heap) (L : List Loc) : Prop := ∃ b2_6_13_8 : Addr, ∃ k2_6_13_8 : ClassId, v = none ∧ Fr n0 L ∧ KL h0 h (WS_r113__init_ Z o0) ∧ h0.size ≤ b2_6_13_8 ∧ Fd0 Z h o0 z0 ∧ Fd1 Z h o0 (.ref b2_6_13_8) ∧ Arv Z h b2_6_13_8 k2_6_13_8 .byte 5 [(.int i_3), (.int i_4), (.int i_5), (.int i_6), (.int i_7)] z0
theorem ef_r113__init_ (o0 o1 : Addr) (m : MethodId) : entryFrame m #[(.ref o0), (.ref o1)] 2 = mkF m 0 #[.val (.ref o0), .val (.ref o1)] [] := by first | (simp [entryFrame, mkF, argsToLocals, Value.category]; done) | rfl
set_option maxRecDepth 65536 in
set_option maxHeartbeats 40000000 in
theorem r113__init_ (l : Launch) (Z : State) (a0 : Array Value) (hw : HW Z a0) (ws : List Jvm.Cond) (o0 o1 o_1 : Addr) (i_2 i_3 i_4 i_5 i_6 i_7 : Int32) (k_o_1 : ClassId) (h0 : Heap) (n0 : Nat) (Z0 : n0 ≤ h0.size) (E_o1 : Ex2 Z h0 o1) (F_o1_value : Fd4 Z h0 o1 (.ref o_1)) (F_o1_count : Fd6 Z h0 o1 (.int 5)) (sCS : SCS Z i_2) (F_o1_coder : Fd5 Z h0 o1 z0) (F_o0_coder : Fd0 Z h0 o0 z0) (E_o0 : Ex0 Z h0 o0) (V_o_1 : Arv Z h0 o_1 k_o_1 .byte 16 [(.int i_3), (.int i_4), (.int i_5), (.int i_6), (.int i_7), z0, z0, z0, z0, z0, z0, z0, z0, z0, z0, z0] z0) (F_o0_value : Fd1 Z h0 o0 .null) (O0 : Old Z n0 h0) (hp0 : ¬ (i_2 = (0 : Int32))) (g_o0 : n0 ≤ o0) (ne_o0_o_1 : o0 ≠ o_1) :
    MF l Z y36__init_ b30_ 2 none ws ⟨4, 1, 5, 65⟩ #[(.ref o0), (.ref o1)] h0 (Q_r113__init_ Z o0 o1 o_1 i_2 i_3 i_4 i_5 i_6 i_7 k_o_1 h0 n0) := by
  refine own_body (plainFor_of_name pn_String564) (ef_r113__init_ o0 o1) (by decide) (by decide) ?_
  intro p e s m below meth c s₁ hx hby hml hown hnm hret hZ hh e0 X0
  have N0 := Fr.nil n0
  obtain ⟨_, T8, L8, X8, hQ8, st8⟩ := own_init X0 hx hZ rfl hown (w176 hw) (w177 hw) (w6 hw) (w178 hw) (by decide) (r114__init_ l Z a0 hw [] o0 o1 o_1 i_2 i_3 i_4 i_5 i_6 i_7 k_o_1 h0 n0 Z0 E_o1 F_o1_value F_o1_count sCS F_o1_coder O0 hp0 F_o0_coder E_o0 g_o0 V_o_1 ne_o0_o_1 F_o0_value) e0 (W := 0) (by decide) (g := (mkF m 3 #[vr o0, vr o1] [.null, (.ref o1), (.ref o0)])) rfl hml.symm (argsL := [(.ref o1), .null]) (rest := []) (lenOf pd_25 rfl) rfl rfl (own_wr rfl rfl) (hb hby d336)
  obtain ⟨b2_6_13_8, k2_6_13_8, rfl, N8q, K8, Q8_0, Q8_1, Q8_2, Q8_3⟩ := hQ8
  have N8 := Fr.app N0 N8q
  have C0 := (KL.refl h0 (WS_r113__init_ Z o0)).trans K8 (naO (own_mi 0 rfl) (naO (own_mi 1 rfl) na0))
  refine ⟨T8, _, none, X8, (fun h => by cases h <;> rfl), ?_, fun fs hr => ?_⟩
  · show Q_r113__init_ Z o0 o1 o_1 i_2 i_3 i_4 i_5 i_6 i_7 k_o_1 h0 n0 _ T8.heap _
    exact ⟨b2_6_13_8, k2_6_13_8, rfl, N8, C0, Q8_0, Q8_1, Q8_2, Q8_3⟩
  · refine t_aloadN 1 X0.here hx (hb hby d333) rfl rfl rfl ?_
    refine t_aloadN 2 X0.here hx (hb hby d334) rfl rfl rfl ?_
    refine t_aconst_null 3 X0.here hx (hb hby d335) rfl ?_
    refine st8 _ ?_
    exact X8.returnOut hx hret (hb hby d415) hr
def Q_r112_toString (Z : State) (o0 o_2 : Addr) (i_3 i_4 i_5 i_6 i_7 i_8 : Int32) (k_o_2 : ClassId) (h0 : Heap) (n0 : Nat) (v : Option Value) (h : Heap) (L : List Loc) : Prop := ∃ b1 : Addr, ∃ b2_6_13_8_9 : Addr, ∃ k2_6_13_8_9 : ClassId, v = some (.ref b1) ∧ Fr n0 L ∧ KL h0 h [] ∧ h0.size ≤ b1 ∧ h0.size ≤ b2_6_13_8_9 ∧ b1 ≠ b2_6_13_8_9 ∧ Ex0 Z h b1 ∧ Fd0 Z h b1 z0 ∧ Fd1 Z h b1 (.ref b2_6_13_8_9) ∧ Arv Z h b2_6_13_8_9 k2_6_13_8_9 .byte 5 [(.int i_4), (.int i_5), (.int i_6), (.int i_7), (.int i_8)] z0
theorem ef_r112_toString (o0 : Addr) (m : MethodId) : entryFrame m #[(.ref o0)] 1 = mkF m 0 #[.val (.ref o0)] [] := by first | (simp [entryFrame, mkF, argsToLocals, Value.category]; done) | rfl
set_option maxRecDepth 65536 in
set_option maxHeartbeats 40000000 in
theorem r112_toString (l : Launch) (Z : State) (a0 : Array Value) (hw : HW Z a0) (ws : List Jvm.Cond) (o0 o_2 : Addr) (i_3 i_4 i_5 i_6 i_7 i_8 : Int32) (k_o_2 : ClassId) (h0 : Heap) (n0 : Nat) (Z0 : n0 ≤ h0.size) (E_o0 : Ex2 Z h0 o0) (F_o0_value : Fd4 Z h0 o0 (.ref o_2)) (F_o0_count : Fd6 Z h0 o0 (.int 5)) (sCS : SCS Z i_3) (F_o0_coder : Fd5 Z h0 o0 z0) (V_o_2 : Arv Z h0 o_2 k_o_2 .byte 16 [(.int i_4), (.int i_5), (.int i_6), (.int i_7), (.int i_8), z0, z0, z0, z0, z0, z0, z0, z0, z0, z0, z0] z0) (O0 : Old Z n0 h0) (hp0 : ¬ (i_3 = (0 : Int32))) :
    MF l Z y37_toString b29_ 1 (some (.object "java/lang/String")) ws ⟨5, 2, 9, 79⟩ #[(.ref o0)] h0 (Q_r112_toString Z o0 o_2 i_3 i_4 i_5 i_6 i_7 i_8 k_o_2 h0 n0) := by
  refine own_body (plainFor_of_name pn_StringBuilder278) (ef_r112_toString o0) (by decide) (by decide) ?_
  intro p e s m below meth c s₁ hx hby hml hown hnm hret hZ hh e0 X0
  have N0 := Fr.nil n0
  obtain ⟨T1, h1, X1, e1, E1, A1, D1, -, st1⟩ := newO X0 hx hZ hown (w172 hw) (w5 hw) (w6 hw) e0 (g := (mkF m 0 #[vr o0] [])) rfl (hb hby d329) (by decide) (by decide)
  obtain ⟨b1, g1⟩ : ∃ z, z = h0.size := ⟨_, rfl⟩
  rw [← g1] at A1 D1 st1
  have ge_b1 : h0.size ≤ b1 := Nat.le_of_eq g1.symm
  have K1 := KL.ofE E1
  have F_b1_coder : Fd0 Z h1 b1 z0 := D1 (Or.inr (w31 hw)) (ty := .byte) (by decide)
  have F_b1_value : Fd1 Z h1 b1 .null := D1 (Or.inr (w33 hw)) (ty := (.array .byte)) (by decide)
  have f10 := (kExa K1 E_o0)
  have f11 := (kFld K1 F_o0_value nw0)
  have f12 := (kFld K1 F_o0_count nw0)
  have f13 := (kFld K1 F_o0_coder nw0)
  have f14 := (kArv K1 V_o_2 na0)
  have f15 := (kOld K1 O0 na0)
  have lt_o_2 : o_2 < h0.size := Arv.lt V_o_2
  obtain ⟨_, T9, L9, X9, hQ9, st9⟩ := own_init X1 hx hZ rfl hown (w173 hw) (w174 hw) (w6 hw) (w175 hw) (by decide) (r113__init_ l Z a0 hw [] b1 o0 o_2 i_3 i_4 i_5 i_6 i_7 i_8 k_o_2 h1 n0 (Nat.le_trans Z0 K1.1) f10 f11 f12 sCS f13 F_b1_coder A1 f14 F_b1_value f15 hp0 (Nat.le_trans Z0 ge_b1) (Ne.symm (lt_ne lt_o_2 ge_b1))) e1 (W := 1) (by decide) (g := (mkF m 5 #[vr o0] [(.ref o0), (.ref b1), (.ref b1)])) rfl hml.symm (argsL := [(.ref o0)]) (rest := [(.ref b1)]) (lenOf pd_26 rfl) rfl rfl (own_wr rfl rfl) (hb hby d332)
  obtain ⟨b2_6_13_8_9, k2_6_13_8_9, rfl, N9q, K9, Q9_0, Q9_1, Q9_2, Q9_3⟩ := hQ9
  have N9 := Fr.app N0 N9q
  have C0 := (KL.refl h0 []).trans K1 na0
  have C1 := C0.trans K9 (naO (Or.inr ge_b1) (naO (Or.inr ge_b1) na0))
  have lt_b1 : b1 < h1.size := Exa.lt A1
  have f17 := (kExa K9 A1)
  refine ⟨T9, _, some (.ref b1), X9, (fun h => by cases h <;> rfl), ?_, fun fs hr => ?_⟩
  · show Q_r112_toString Z o0 o_2 i_3 i_4 i_5 i_6 i_7 i_8 k_o_2 h0 n0 _ T9.heap _
    exact ⟨b1, b2_6_13_8_9, k2_6_13_8_9, rfl, N9, C1, ge_b1, (Nat.le_trans K1.1 Q9_0), (lt_ne lt_b1 Q9_0), f17, Q9_1, Q9_2, Q9_3⟩
  · refine st1 _ ?_
    refine t_dup 4 X1.here hx (hb hby d330) rfl rfl ?_
    refine t_aloadN 5 X1.here hx (hb hby d331) rfl rfl rfl ?_
    refine st9 _ ?_
    jvm_step X9.here [X9.here.top, hx, (hb hby d416), X9.method', hret, Value.isRef, FieldType.isReference]
    first | (intro acts; rw [hr _ acts rfl rfl rfl]) | rw [hr _ _ rfl rfl rfl]
    exact Steps.refl _
def Q_r106_toString (Z : State) (o0 : Addr) (i_2 : Int32) (o_6 o_9 : Addr) (i_10 i_11 : Int32) (k_o_9 : ClassId) (o_28 o_31 : Addr) (i_32 i_33 : Int32) (k_o_31 : ClassId) (h0 : Heap) (n0 : Nat) (v : Option Value) (h : Heap) (L : List Loc) : Prop := ∃ b1_43 : Addr, ∃ b2_6_13_8_9_43 : Addr, ∃ k2_6_13_8_9_43 : ClassId, v = some (.ref b1_43) ∧ Fr n0 L ∧ KL h0 h [] ∧ h0.size ≤ b1_43 ∧ h0.size ≤ b2_6_13_8_9_43 ∧ b1_43 ≠ b2_6_13_8_9_43 ∧ Ex0 Z h b1_43 ∧ Fd0 Z h b1_43 z0 ∧ Fd1 Z h b1_43 (.ref b2_6_13_8_9_43) ∧ Arv Z h b2_6_13_8_9_43 k2_6_13_8_9_43 .byte 5 [(.int i_10), (.int i_11), (.int 58), (.int i_32), (.int i_33)] z0
theorem ef_r106_toString (o0 : Addr) (m : MethodId) : entryFrame m #[(.ref o0)] 1 = mkF m 0 #[.val (.ref o0)] [] := by first | (simp [entryFrame, mkF, argsToLocals, Value.category]; done) | rfl
set_option maxRecDepth 65536 in
set_option maxHeartbeats 40000000 in
theorem r106_toString (l : Launch) (Z : State) (a0 : Array Value) (hw : HW Z a0) (ws : List Jvm.Cond) (o0 : Addr) (i_2 : Int32) (o_6 o_9 : Addr) (i_10 i_11 : Int32) (k_o_9 : ClassId) (o_28 o_31 : Addr) (i_32 i_33 : Int32) (k_o_31 : ClassId) (h0 : Heap) (n0 : Nat) (Z0 : n0 ≤ h0.size) (sCS : SCS Z i_2) (O0 : Old Z n0 h0) (hp0 : ¬ (i_2 = (0 : Int32))) (F_o0_system : Fd2 Z h0 o0 (.ref o_6)) (E_o_6 : Ex0 Z h0 o_6) (F_o_6_value : Fd1 Z h0 o_6 (.ref o_9)) (V_o_9 : Arv Z h0 o_9 k_o_9 .byte 2 [(.int i_10), (.int i_11)] z0) (F_o_6_coder : Fd0 Z h0 o_6 z0) (F_o0_id : Fd3 Z h0 o0 (.ref o_28)) (E_o_28 : Ex0 Z h0 o_28) (F_o_28_value : Fd1 Z h0 o_28 (.ref o_31)) (V_o_31 : Arv Z h0 o_31 k_o_31 .byte 2 [(.int i_32), (.int i_33)] z0) (F_o_28_coder : Fd0 Z h0 o_28 z0) :
    OMH l Z consts_1 [] y38_toString b20_ 1 (some (.object "java/lang/String")) ws ⟨6, 6, 37, 91⟩ #[(.ref o0)] h0 (Q_r106_toString Z o0 i_2 o_6 o_9 i_10 i_11 k_o_9 o_28 o_31 i_32 i_33 k_o_31 h0 n0) := by
  refine own_bodyH (k := 6) (n := 37) (own_EW hw) (plainFor_of_name pn_Identifier44) (ef_r106_toString o0) (by decide) (by decide) ?_
  intro p e s m below meth c s₁ hx hby hml hown hnm hret hZ e0 hS0 hk0 X0 hC0 hSF0
  have N0 := Fr.nil n0
  obtain ⟨T1, h1, X1, e1, E1, A1, D1, -, st1⟩ := newO X0 hx hZ hown (w110 hw) (w111 hw) (w112 hw) e0 (g := (mkF m 0 #[vr o0] [])) rfl (hb hby d222) (by decide) (by decide)
  obtain ⟨b1, g1⟩ : ∃ z, z = h0.size := ⟨_, rfl⟩
  rw [← g1] at A1 D1 st1
  have ge_b1 : h0.size ≤ b1 := Nat.le_of_eq g1.symm
  have K1 := KL.ofE E1
  have Ck0 := own_chK K1 na0 (CHr.refl hC0).1
  have Ah1 := (CHr.refl hC0).trans Ck0.1
  have F_b1_value : Fd4 Z h1 b1 .null := D1 (Or.inl (w125 hw)) (ty := (.array .byte)) (by decide)
  have F_b1_coder : Fd5 Z h1 b1 z0 := D1 (Or.inl (w127 hw)) (ty := .byte) (by decide)
  have F_b1_count : Fd6 Z h1 b1 z0 := D1 (Or.inl (w140 hw)) (ty := .int) (by decide)
  have f4 := (kOld K1 O0 na0)
  obtain ⟨_, T3, L3, X3, hQ3, st3⟩ := own_init X1 hx hZ rfl hown (w113 hw) (w114 hw) (w112 hw) (w115 hw) (by decide) (r21__init_ l Z a0 hw [] b1 i_2 h1 n0 (Nat.le_trans Z0 K1.1) sCS F_b1_value A1 F_b1_coder f4 hp0 (Nat.le_trans Z0 ge_b1)) e1 (W := 1) (by decide) (g := (mkF m 4 #[vr o0] [(.ref b1), (.ref b1)])) rfl hml.symm (argsL := []) (rest := [(.ref b1)]) (lenOf pd_6 rfl) rfl rfl (own_wr rfl rfl) (hb hby d224)
  obtain ⟨b4_2_3, k4_2_3, rfl, N3q, K3, Q3_0, Q3_1, Q3_2, Q3_3⟩ := hQ3
  have N3 := Fr.app N0 N3q
  have Ck1 := own_chK K3 (naF (Safe.exa hZ.alike A1 (by decide) (by decide)) (naF (Safe.exa hZ.alike A1 (by decide) (by decide)) na0)) Ah1.1
  have Ah2 := Ah1.trans Ck1.1
  have lt_o0 : o0 < h0.size := Fld.lt F_o0_system
  have f7 := (kFld K3 (kFld K1 F_o0_system nw0) (nwS (Or.inl (lt_ne lt_o0 ge_b1)) (nwS (Or.inl (lt_ne lt_o0 ge_b1)) nw0)))
  obtain ⟨T8, X8, e8, st8⟩ := getF X3 hx hZ hown (host := "") (Or.inl (w101 hw)) Via.refl rfl f7 (g := (mkF m 8 #[vr o0] [(.ref o0), (.ref b1)])) rfl rfl (hb hby d243)
  have f13 := (kExa K3 A1)
  have f14 := (kExa K3 (kExa K1 E_o_6))
  have lt_o_6 : o_6 < h0.size := Exa.lt E_o_6
  have f15 := (kFld K3 (kFld K1 F_o_6_value nw0) (nwS (Or.inl (lt_ne lt_o_6 ge_b1)) (nwS (Or.inl (lt_ne lt_o_6 ge_b1)) nw0)))
  have lt_o_9 : o_9 < h0.size := Arv.lt V_o_9
  have f16 := (kArv K3 (kArv K1 V_o_9 na0) (naN (Ne.symm (lt_ne lt_o_9 ge_b1)) (naN (Ne.symm (lt_ne lt_o_9 ge_b1)) na0)))
  have f17 := (kFld K3 (kFld K1 F_o_6_coder nw0) (nwS (Or.inl (lt_ne lt_o_6 ge_b1)) (nwS (Or.inl (lt_ne lt_o_6 ge_b1)) nw0)))
  have f18 := (kFld K3 F_b1_count (nwS (Or.inr (sn_7 hw)) (nwS (Or.inr (sn_6 hw)) nw0)))
  have f19 := (kOld K3 f4 (naS (P := fun w => n0 ≤ w.1) (Nat.le_trans Z0 ge_b1) (naS (P := fun w => n0 ≤ w.1) (Nat.le_trans Z0 ge_b1) na0)))
  have lt_b1 : b1 < h1.size := Exa.lt A1
  have sz_0_2 := (Nat.le_trans K1.1 K3.1)
  obtain ⟨_, T12, L12, X12, hQ12, st12⟩ := own_virtual X8 hx hZ hown (w128 hw) (w129 hw) (nfS hZ (w131 hw)) (w131 hw) (w130 hw) (w112 hw) (w132 hw) (by decide) (r94_append l Z a0 hw [] b1 o_6 o_9 i_10 i_11 k_o_9 i_2 b4_2_3 k4_2_3 T3.heap n0 (Nat.le_trans Z0 sz_0_2) f13 f14 f15 f16 sCS f17 f18 Q3_1 Q3_3 Q3_2 f19 hp0 (Nat.le_trans Z0 (Nat.le_trans K1.1 Q3_0)) (lt_ne lt_b1 Q3_0) (Nat.le_trans Z0 ge_b1)) e8 f13 (W := 0) (by decide) (g := (mkF m 11 #[vr o0] [(.ref o_6), (.ref b1)])) rfl hml.symm (argsL := [(.ref o_6)]) (rest := []) (lenOf pd_21 rfl) rfl rfl (own_wr rfl rfl) (hb hby d244)
  obtain ⟨rfl, N12q, K12, Q12_0, Q12_1⟩ := hQ12
  have N12 := Fr.app N3 N12q
  have Ck2 := own_chK K12 (naFM 16 rfl (Ck1.2 _ (Safe.new Q3_0)) (naF (Safe.exa hZ.alike f13 (by decide) (by decide)) na0)) Ah2.1
  have Ah3 := Ah2.trans Ck2.1
  have sz_0_3 := (Nat.le_trans sz_0_2 K12.1)
  obtain ⟨c20, T20, h20, k20, b20, kb20, X20, e20, E20, hS20, hk20, hZ20, hown20, Ex20, Fc20, Fv20, Ar20, lta20, ltb20, hC20, Lt20, hne20, st20⟩ := ldcCH X12 hx hZ hown (w166 hw) (own_wS hw) rfl hS0 (Nat.le_trans hk0 sz_0_3) (own_EW hw) (by decide) Ah3.1 (vs := [(.int 58)]) (z := 1) ⟨by decide, rfl⟩ (by decide) rfl (g := (mkF m 14 #[vr o0] [(.ref b1)])) rfl (hb hby d323) (n := 4) (by decide) (by decide) (by decide) (by decide)
  have K20 := KL.ofE E20
  have Ah4 := Ah3.trans hC20
  have f22 := (kExa K20 (kExa K12 f13))
  have f23 := (kFld K20 Q12_1 nw0)
  have f24 := (kFld K20 (kFld K12 Q3_1 (nwM 16 rfl (lt_ne lt_b1 Q3_0) (nwS (Or.inr (sn_8 hw)) nw0))) nw0)
  have f25 := (kArv K20 Q12_0 na0)
  have f26 := (kFld K20 (kFld K12 Q3_2 (nwM 16 rfl (lt_ne lt_b1 Q3_0) (nwS (Or.inr (sn_9 hw)) nw0))) nw0)
  have f27 := (kOld K20 (kOld K12 f19 (naGM 16 rfl (Nat.le_trans Z0 (Nat.le_trans K1.1 Q3_0)) (naS (P := fun w => n0 ≤ w.1) (Nat.le_trans Z0 ge_b1) na0))) na0)
  have sz_0_4 := (Nat.le_trans sz_0_3 K20.1)
  obtain ⟨_, T21, L21, X21, hQ21, st21⟩ := own_virtual X20 hx hZ20 hown20 (w128 hw) (w129 hw) (nfS hZ20 (w131 hw)) (w131 hw) (w130 hw) (w112 hw) (w132 hw) (by decide) (r34_append l Z a0 hw [] b1 c20 b20 (58 : Int32) kb20 i_2 b4_2_3 i_10 i_11 k4_2_3 h20 n0 (Nat.le_trans Z0 sz_0_4) f22 Ex20 Fv20 Ar20 sCS Fc20 f23 f24 f25 f26 f27 hp0 (Nat.le_trans Z0 (Nat.le_trans K1.1 Q3_0)) (lt_ne lt_b1 Q3_0) (Nat.le_trans Z0 ge_b1)) e20 f22 (W := 0) (by decide) (g := (mkF m 16 #[vr o0] [(.ref c20), (.ref b1)])) rfl hml.symm (argsL := [(.ref c20)]) (rest := []) (lenOf pd_21 rfl) rfl rfl (own_wr rfl rfl) (hb hby d324)
  obtain ⟨rfl, N21q, K21, Q21_0, Q21_1⟩ := hQ21
  have N21 := Fr.app N12 N21q
  have lt_b4_2_3 : b4_2_3 < T3.heap.size := Arv.lt Q3_3
  have Ck4 := own_chK K21 (naFM 16 rfl (CHr.safe hC20 (Nat.lt_of_lt_of_le lt_b4_2_3 K12.1) (Ck2.2 _ (Ck1.2 _ (Safe.new Q3_0)))) (naF (Safe.exa hZ20.alike f22 (by decide) (by decide)) na0)) Ah4.1
  have Ah5 := Ah4.trans Ck4.1
  have f29 := (kFld K21 (kFld K20 (kFld K12 (kFld K3 (kFld K1 F_o0_id nw0) (nwS (Or.inl (lt_ne lt_o0 ge_b1)) (nwS (Or.inl (lt_ne lt_o0 ge_b1)) nw0))) (nwM 16 rfl (lt_ne (Nat.lt_of_lt_of_le lt_o0 K1.1) Q3_0) (nwS (Or.inl (lt_ne lt_o0 ge_b1)) nw0))) nw0) (nwM 16 rfl (lt_ne (Nat.lt_of_lt_of_le lt_o0 K1.1) Q3_0) (nwS (Or.inl (lt_ne lt_o0 ge_b1)) nw0)))
  obtain ⟨T30, X30, e30, st30⟩ := getF X21 hx hZ20 hown20 (host := "") (Or.inl (w103 hw)) Via.refl rfl f29 (g := (mkF m 20 #[vr o0] [(.ref o0), (.ref b1)])) rfl rfl (hb hby d326)
  have f35 := (kExa K21 f22)
  have f36 := (kExa K21 (kExa K20 (kExa K12 (kExa K3 (kExa K1 E_o_28)))))
  have lt_o_28 : o_28 < h0.size := Exa.lt E_o_28
  have f37 := (kFld K21 (kFld K20 (kFld K12 (kFld K3 (kFld K1 F_o_28_value nw0) (nwS (Or.inl (lt_ne lt_o_28 ge_b1)) (nwS (Or.inl (lt_ne lt_o_28 ge_b1)) nw0))) (nwM 16 rfl (lt_ne (Nat.lt_of_lt_of_le lt_o_28 K1.1) Q3_0) (nwS (Or.inl (lt_ne lt_o_28 ge_b1)) nw0))) nw0) (nwM 16 rfl (lt_ne (Nat.lt_of_lt_of_le lt_o_28 K1.1) Q3_0) (nwS (Or.inl (lt_ne lt_o_28 ge_b1)) nw0)))
  have lt_o_31 : o_31 < h0.size := Arv.lt V_o_31
  have f38 := (kArv K21 (kArv K20 (kArv K12 (kArv K3 (kArv K1 V_o_31 na0) (naN (Ne.symm (lt_ne lt_o_31 ge_b1)) (naN (Ne.symm (lt_ne lt_o_31 ge_b1)) na0))) (naNM 16 rfl (Ne.symm (lt_ne (Nat.lt_of_lt_of_le lt_o_31 K1.1) Q3_0)) (naN (Ne.symm (lt_ne lt_o_31 ge_b1)) na0))) na0) (naNM 16 rfl (Ne.symm (lt_ne (Nat.lt_of_lt_of_le lt_o_31 K1.1) Q3_0)) (naN (Ne.symm (lt_ne lt_o_31 ge_b1)) na0)))
  have f39 := (kFld K21 (kFld K20 (kFld K12 (kFld K3 (kFld K1 F_o_28_coder nw0) (nwS (Or.inl (lt_ne lt_o_28 ge_b1)) (nwS (Or.inl (lt_ne lt_o_28 ge_b1)) nw0))) (nwM 16 rfl (lt_ne (Nat.lt_of_lt_of_le lt_o_28 K1.1) Q3_0) (nwS (Or.inl (lt_ne lt_o_28 ge_b1)) nw0))) nw0) (nwM 16 rfl (lt_ne (Nat.lt_of_lt_of_le lt_o_28 K1.1) Q3_0) (nwS (Or.inl (lt_ne lt_o_28 ge_b1)) nw0)))
  have f40 := (kFld K21 f24 (nwM 16 rfl (lt_ne lt_b1 Q3_0) (nwS (Or.inr (sn_8 hw)) nw0)))
  have f41 := (kFld K21 f26 (nwM 16 rfl (lt_ne lt_b1 Q3_0) (nwS (Or.inr (sn_9 hw)) nw0)))
  have f42 := (kOld K21 f27 (naGM 16 rfl (Nat.le_trans Z0 (Nat.le_trans K1.1 Q3_0)) (naS (P := fun w => n0 ≤ w.1) (Nat.le_trans Z0 ge_b1) na0)))
  have sz_0_5 := (Nat.le_trans sz_0_4 K21.1)
  obtain ⟨_, T34, L34, X34, hQ34, st34⟩ := own_virtual X30 hx hZ20 hown20 (w128 hw) (w129 hw) (nfS hZ20 (w131 hw)) (w131 hw) (w130 hw) (w112 hw) (w132 hw) (by decide) (r107_append l Z a0 hw [] b1 o_28 o_31 i_32 i_33 k_o_31 i_2 b4_2_3 i_10 i_11 (58 : Int32) k4_2_3 T21.heap n0 (Nat.le_trans Z0 sz_0_5) f35 f36 f37 f38 sCS f39 Q21_1 f40 Q21_0 f41 f42 hp0 (Nat.le_trans Z0 (Nat.le_trans K1.1 Q3_0)) (lt_ne lt_b1 Q3_0) (Nat.le_trans Z0 ge_b1)) e30 f35 (W := 0) (by decide) (g := (mkF m 23 #[vr o0] [(.ref o_28), (.ref b1)])) rfl hml.symm (argsL := [(.ref o_28)]) (rest := []) (lenOf pd_21 rfl) rfl rfl (own_wr rfl rfl) (hb hby d327)
  obtain ⟨rfl, N34q, K34, Q34_0, Q34_1⟩ := hQ34
  have N34 := Fr.app N21 N34q
  have Ck5 := own_chK K34 (naFM 16 rfl (Ck4.2 _ (CHr.safe hC20 (Nat.lt_of_lt_of_le lt_b4_2_3 K12.1) (Ck2.2 _ (Ck1.2 _ (Safe.new Q3_0))))) (naF (Safe.exa hZ20.alike f35 (by decide) (by decide)) na0)) Ah5.1
  have Ah6 := Ah5.trans Ck5.1
  have f44 := (kExa K34 f35)
  have f45 := (kFld K34 f40 (nwM 16 rfl (lt_ne lt_b1 Q3_0) (nwS (Or.inr (sn_8 hw)) nw0)))
  have f46 := (kFld K34 f41 (nwM 16 rfl (lt_ne lt_b1 Q3_0) (nwS (Or.inr (sn_9 hw)) nw0)))
  have f47 := (kOld K34 f42 (naGM 16 rfl (Nat.le_trans Z0 (Nat.le_trans K1.1 Q3_0)) (naS (P := fun w => n0 ≤ w.1) (Nat.le_trans Z0 ge_b1) na0)))
  have sz_0_6 := (Nat.le_trans sz_0_5 K34.1)
  obtain ⟨_, T43, L43, X43, hQ43, st43⟩ := own_virtual X34 hx hZ20 hown20 (w167 hw) (w168 hw) (nfS hZ20 (w170 hw)) (w170 hw) (w169 hw) (w112 hw) (w171 hw) (by decide) (r112_toString l Z a0 hw [] b1 b4_2_3 i_2 i_10 i_11 (58 : Int32) i_32 i_33 k4_2_3 T34.heap n0 (Nat.le_trans Z0 sz_0_6) f44 f45 Q34_1 sCS f46 Q34_0 f47 hp0) rfl f44 (W := 0) (by decide) (g := (mkF m 26 #[vr o0] [(.ref b1)])) rfl hml.symm (argsL := []) (rest := []) (lenOf pd_27 rfl) rfl rfl (own_wr rfl rfl) (hb hby d328)
  obtain ⟨b1_43, b2_6_13_8_9_43, k2_6_13_8_9_43, rfl, N43q, K43, Q43_0, Q43_1, Q43_2, Q43_3, Q43_4, Q43_5, Q43_6⟩ := hQ43
  have N43 := Fr.app N34 N43q
  have Ck6 := own_chK K43 na0 Ah6.1
  have Ah7 := Ah6.trans Ck6.1
  have C0 := (KL.refl h0 []).trans K1 na0
  have C1 := C0.trans K3 (naO (Or.inr ge_b1) (naO (Or.inr ge_b1) na0))
  have C2 := C1.trans K12 (naOM 16 rfl (Nat.le_trans K1.1 Q3_0) (naO (Or.inr ge_b1) na0))
  have C3 := C2.trans K20 na0
  have C4 := C3.trans K21 (naOM 16 rfl (Nat.le_trans K1.1 Q3_0) (naO (Or.inr ge_b1) na0))
  have C5 := C4.trans K34 (naOM 16 rfl (Nat.le_trans K1.1 Q3_0) (naO (Or.inr ge_b1) na0))
  have C6 := C5.trans K43 na0
  have sz_4_6 := (Nat.le_trans K21.1 K34.1)
  have sz_4_7 := (Nat.le_trans sz_4_6 K43.1)
  refine ⟨T43, _, some (.ref b1_43), _, _, X43, hS20, (by rw [show T43.heap = T43.heap from rfl]; exact (Nat.le_trans hk20 sz_4_7)), (fun h => by cases h <;> rfl), ?_, Ah7, hZ20, fun fs hr => ?_⟩
  · show Q_r106_toString Z o0 i_2 o_6 o_9 i_10 i_11 k_o_9 o_28 o_31 i_32 i_33 k_o_31 h0 n0 _ T43.heap _
    exact ⟨b1_43, b2_6_13_8_9_43, k2_6_13_8_9_43, rfl, N43, C6, (Nat.le_trans sz_0_6 Q43_0), (Nat.le_trans sz_0_6 Q43_1), Q43_2, Q43_3, Q43_4, Q43_5, Q43_6⟩
  · refine st1 _ ?_
    refine t_dup 4 X1.here hx (hb hby d223) rfl rfl ?_
    refine st3 _ ?_
    refine t_aloadN 8 X3.here hx (hb hby d242) rfl rfl rfl ?_
    refine st8 _ ?_
    refine st12 _ ?_
    refine st20 _ ?_
    refine st21 _ ?_
    refine t_aloadN 20 X21.here hx (hb hby d325) rfl rfl rfl ?_
    refine st30 _ ?_
    refine st34 _ ?_
    refine st43 _ ?_
    jvm_step X43.here [X43.here.top, hx, (hb hby d417), X43.method', hret, Value.isRef, FieldType.isReference]
    first | (intro acts; rw [hr _ acts rfl rfl rfl]) | rw [hr _ _ rfl rfl rfl]
    exact Steps.refl _
def WS_r124_compress (Z : State) (o2 : Addr) : List (Addr × Nat) := [(o2, (0 : Int32).toNatClampNeg), (o2, (1 : Int32).toNatClampNeg), (o2, (2 : Int32).toNatClampNeg), (o2, (3 : Int32).toNatClampNeg), (o2, (4 : Int32).toNatClampNeg)]
def Q_r124_compress (Z : State) (o0 o2 : Addr) (i_1 i_2 i_3 i_4 i_5 : Int32) (k_o0 k_o2 : ClassId) (h0 : Heap) (n0 : Nat) (v : Option Value) (h : Heap) (L : List Loc) : Prop := v = some (.int 5) ∧ Fr n0 L ∧ KL h0 h (WS_r124_compress Z o2) ∧ Arv Z h o2 k_o2 .byte 5 [(.int (i_1.toInt8.toInt32)), (.int (i_2.toInt8.toInt32)), (.int (i_3.toInt8.toInt32)), (.int (i_4.toInt8.toInt32)), (.int (i_5.toInt8.toInt32))] z0
theorem ef_r124_compress (o0 o2 : Addr) (m : MethodId) : entryFrame m #[(.ref o0), (.int 0), (.ref o2), (.int 0), (.int 5)] 7 = mkF m 0 #[.val (.ref o0), .val (.int 0), .val (.ref o2), .val (.int 0), .val (.int 5), .unset, .unset] [] := by first | (simp [entryFrame, mkF, argsToLocals, Value.category]; done) | rfl
set_option maxRecDepth 65536 in
set_option maxHeartbeats 40000000 in
theorem r124_compress (l : Launch) (Z : State) (a0 : Array Value) (hw : HW Z a0) (ws : List Jvm.Cond) (o0 o2 : Addr) (i_1 i_2 i_3 i_4 i_5 : Int32) (k_o0 k_o2 : ClassId) (h0 : Heap) (n0 : Nat) (Z0 : n0 ≤ h0.size) (V_o0 : Arv Z h0 o0 k_o0 .char 5 [(.int i_1), (.int i_2), (.int i_3), (.int i_4), (.int i_5)] z0) (hp0 : ¬ ((255 : Int32) < i_1)) (V_o2 : Arv Z h0 o2 k_o2 .byte 5 [z0, z0, z0, z0, z0] z0) (g_o2 : n0 ≤ o2) (ne_o0_o2 : o0 ≠ o2) (hp1 : ¬ ((255 : Int32) < i_2)) (hp2 : ¬ ((255 : Int32) < i_3)) (hp3 : ¬ ((255 : Int32) < i_4)) (hp4 : ¬ ((255 : Int32) < i_5)) :
    MF l Z y1_compress b4_ 7 (some .int) ws ⟨0, 0, 0, 0⟩ #[(.ref o0), z0, (.ref o2), z0, (.int 5)] h0 (Q_r124_compress Z o0 o2 i_1 i_2 i_3 i_4 i_5 k_o0 k_o2 h0 n0) := by
  refine own_body (plainFor_of_name pn_StringUTF16906) (ef_r124_compress o0 o2) (by decide) (by decide) ?_
  intro p e s m below meth c s₁ hx hby hml hown hnm hret hZ hh e0 X0
  have N0 := Fr.nil n0
  obtain ⟨T6, h6, X6, e6, W6, V6, st6⟩ := own_astB X0 hx hZ e0 V_o2 (j := 0) (by decide) 0 rfl (Nat.le_of_ble_eq_true rfl) (g := (mkF m 31 #[vr o0, vi 0, vr o2, vi 0, vi 5, vi 0, vi i_1] [(.int (i_1.toInt8.toInt32)), z0, (.ref o2)])) rfl rfl (hb hby d54)
  rw [show (nar .byte (i_1.toInt8.toInt32)) = (i_1.toInt8.toInt32) from (own_narb _)] at V6
  have K6 := KL.ofW W6
  replace V6 : Arv Z h6 o2 k_o2 .byte 5 [(.int (i_1.toInt8.toInt32)), z0, z0, z0, z0] z0 := V6
  have N6 := Fr.snoc X6 N0 g_o2
  have f7 := (kArv K6 V_o0 (naN (Ne.symm ne_o0_o2) na0))
  obtain ⟨T8, h8, X8, e8, W8, V8, st8⟩ := own_astB X6 hx hZ e6 V6 (j := 1) (by decide) 1 rfl (Nat.le_of_ble_eq_true rfl) (g := (mkF m 31 #[vr o0, vi 1, vr o2, vi 1, vi 5, vi 1, vi i_2] [(.int (i_2.toInt8.toInt32)), (.int 1), (.ref o2)])) rfl rfl (hb hby d54)
  rw [show (nar .byte (i_2.toInt8.toInt32)) = (i_2.toInt8.toInt32) from (own_narb _)] at V8
  have K8 := KL.ofW W8
  replace V8 : Arv Z h8 o2 k_o2 .byte 5 [(.int (i_1.toInt8.toInt32)), (.int (i_2.toInt8.toInt32)), z0, z0, z0] z0 := V8
  have N8 := Fr.snoc X8 N6 g_o2
  have f9 := (kArv K8 f7 (naN (Ne.symm ne_o0_o2) na0))
  obtain ⟨T10, h10, X10, e10, W10, V10, st10⟩ := own_astB X8 hx hZ e8 V8 (j := 2) (by decide) 2 rfl (Nat.le_of_ble_eq_true rfl) (g := (mkF m 31 #[vr o0, vi 2, vr o2, vi 2, vi 5, vi 2, vi i_3] [(.int (i_3.toInt8.toInt32)), (.int 2), (.ref o2)])) rfl rfl (hb hby d54)
  rw [show (nar .byte (i_3.toInt8.toInt32)) = (i_3.toInt8.toInt32) from (own_narb _)] at V10
  have K10 := KL.ofW W10
  replace V10 : Arv Z h10 o2 k_o2 .byte 5 [(.int (i_1.toInt8.toInt32)), (.int (i_2.toInt8.toInt32)), (.int (i_3.toInt8.toInt32)), z0, z0] z0 := V10
  have N10 := Fr.snoc X10 N8 g_o2
  have f11 := (kArv K10 f9 (naN (Ne.symm ne_o0_o2) na0))
  obtain ⟨T12, h12, X12, e12, W12, V12, st12⟩ := own_astB X10 hx hZ e10 V10 (j := 3) (by decide) 3 rfl (Nat.le_of_ble_eq_true rfl) (g := (mkF m 31 #[vr o0, vi 3, vr o2, vi 3, vi 5, vi 3, vi i_4] [(.int (i_4.toInt8.toInt32)), (.int 3), (.ref o2)])) rfl rfl (hb hby d54)
  rw [show (nar .byte (i_4.toInt8.toInt32)) = (i_4.toInt8.toInt32) from (own_narb _)] at V12
  have K12 := KL.ofW W12
  replace V12 : Arv Z h12 o2 k_o2 .byte 5 [(.int (i_1.toInt8.toInt32)), (.int (i_2.toInt8.toInt32)), (.int (i_3.toInt8.toInt32)), (.int (i_4.toInt8.toInt32)), z0] z0 := V12
  have N12 := Fr.snoc X12 N10 g_o2
  have f13 := (kArv K12 f11 (naN (Ne.symm ne_o0_o2) na0))
  obtain ⟨T14, h14, X14, e14, W14, V14, st14⟩ := own_astB X12 hx hZ e12 V12 (j := 4) (by decide) 4 rfl (Nat.le_of_ble_eq_true rfl) (g := (mkF m 31 #[vr o0, vi 4, vr o2, vi 4, vi 5, vi 4, vi i_5] [(.int (i_5.toInt8.toInt32)), (.int 4), (.ref o2)])) rfl rfl (hb hby d54)
  rw [show (nar .byte (i_5.toInt8.toInt32)) = (i_5.toInt8.toInt32) from (own_narb _)] at V14
  have K14 := KL.ofW W14
  replace V14 : Arv Z h14 o2 k_o2 .byte 5 [(.int (i_1.toInt8.toInt32)), (.int (i_2.toInt8.toInt32)), (.int (i_3.toInt8.toInt32)), (.int (i_4.toInt8.toInt32)), (.int (i_5.toInt8.toInt32))] z0 := V14
  have N14 := Fr.snoc X14 N12 g_o2
  have C0 := (KL.refl h0 (WS_r124_compress Z o2)).trans K6 (naO (own_mi 0 rfl) na0)
  have C1 := C0.trans K8 (naO (own_mi 1 rfl) na0)
  have C2 := C1.trans K10 (naO (own_mi 2 rfl) na0)
  have C3 := C2.trans K12 (naO (own_mi 3 rfl) na0)
  have C4 := C3.trans K14 (naO (own_mi 4 rfl) na0)
  refine ⟨T14, _, some (.int 5), X14, (fun h => by cases h <;> rfl), ?_, fun fs hr => ?_⟩
  · show Q_r124_compress Z o0 o2 i_1 i_2 i_3 i_4 i_5 k_o0 k_o2 h0 n0 _ T14.heap _
    rw [e14]
    exact ⟨rfl, N14, C4, V14⟩
  · refine t_iconst 1 (r := 0) X0.here hx (hb hby d38) (by decide) rfl ?_
    refine t_istore (pc' := 3) (L' := #[vr o0, vi 0, vr o2, vi 0, vi 5, vi 0, .unset]) X0.here hx (hb hby d39) rfl rfl ?_
    refine t_iload 5 X0.here hx (hb hby d40) rfl rfl ?_
    refine t_iload 7 X0.here hx (hb hby d41) rfl rfl ?_
    refine t_icmpNo 10 X0.here hx (hb hby d42) (by decide) rfl ?_
    refine t_aloadN 11 X0.here hx (hb hby d43) rfl rfl rfl ?_
    refine t_iloadN 12 X0.here hx (hb hby d44) rfl rfl ?_
    refine own_aldC (pc' := 13) X0 hx hZ e0 V_o0 (j := 0) (v := (.int i_1)) (by decide) rfl (hb hby d45) rfl ?_
    refine t_istore (pc' := 15) (L' := #[vr o0, vi 0, vr o2, vi 0, vi 5, vi 0, vi i_1]) X0.here hx (hb hby d46) rfl rfl ?_
    refine t_iload 17 X0.here hx (hb hby d47) rfl rfl ?_
    refine t_sipush 20 (r := 255) X0.here hx (hb hby d48) (by decide) rfl ?_
    refine t_icmpYes (pc := 20) 26 X0.here hx (hb hby d49) (flt hp0).2.2.2 (by decide) (by decide) ?_
    refine t_aloadN 27 X0.here hx (hb hby d50) rfl rfl rfl ?_
    refine t_iloadN 28 X0.here hx (hb hby d51) rfl rfl ?_
    refine t_iload 30 X0.here hx (hb hby d52) rfl rfl ?_
    refine t_i2b 31 X0.here hx (hb hby d53) rfl rfl ?_
    refine st6 _ ?_
    refine t_iinc (pc' := 35) (L' := #[vr o0, vi 1, vr o2, vi 0, vi 5, vi 0, vi i_1]) X6.here hx (hb hby d55) rfl (by first | rfl | decide) rfl ?_
    refine t_iinc (pc' := 38) (L' := #[vr o0, vi 1, vr o2, vi 1, vi 5, vi 0, vi i_1]) X6.here hx (hb hby d56) rfl (by first | rfl | decide) rfl ?_
    refine t_iinc (pc' := 41) (L' := #[vr o0, vi 1, vr o2, vi 1, vi 5, vi 1, vi i_1]) X6.here hx (hb hby d57) rfl (by first | rfl | decide) rfl ?_
    refine t_goto (pc := 41) 3 X6.here hx (hb hby d58) (by decide) (by decide) ?_
    refine t_iload 5 X6.here hx (hb hby d40) rfl rfl ?_
    refine t_iload 7 X6.here hx (hb hby d41) rfl rfl ?_
    refine t_icmpNo 10 X6.here hx (hb hby d42) (by decide) rfl ?_
    refine t_aloadN 11 X6.here hx (hb hby d43) rfl rfl rfl ?_
    refine t_iloadN 12 X6.here hx (hb hby d44) rfl rfl ?_
    refine own_aldC (pc' := 13) X6 hx hZ e6 f7 (j := 1) (v := (.int i_2)) (by decide) rfl (hb hby d45) rfl ?_
    refine t_istore (pc' := 15) (L' := #[vr o0, vi 1, vr o2, vi 1, vi 5, vi 1, vi i_2]) X6.here hx (hb hby d46) rfl rfl ?_
    refine t_iload 17 X6.here hx (hb hby d47) rfl rfl ?_
    refine t_sipush 20 (r := 255) X6.here hx (hb hby d48) (by decide) rfl ?_
    refine t_icmpYes (pc := 20) 26 X6.here hx (hb hby d49) (flt hp1).2.2.2 (by decide) (by decide) ?_
    refine t_aloadN 27 X6.here hx (hb hby d50) rfl rfl rfl ?_
    refine t_iloadN 28 X6.here hx (hb hby d51) rfl rfl ?_
    refine t_iload 30 X6.here hx (hb hby d52) rfl rfl ?_
    refine t_i2b 31 X6.here hx (hb hby d53) rfl rfl ?_
    refine st8 _ ?_
    refine t_iinc (pc' := 35) (L' := #[vr o0, vi 2, vr o2, vi 1, vi 5, vi 1, vi i_2]) X8.here hx (hb hby d55) rfl (by first | rfl | decide) rfl ?_
    refine t_iinc (pc' := 38) (L' := #[vr o0, vi 2, vr o2, vi 2, vi 5, vi 1, vi i_2]) X8.here hx (hb hby d56) rfl (by first | rfl | decide) rfl ?_
    refine t_iinc (pc' := 41) (L' := #[vr o0, vi 2, vr o2, vi 2, vi 5, vi 2, vi i_2]) X8.here hx (hb hby d57) rfl (by first | rfl | decide) rfl ?_
    refine t_goto (pc := 41) 3 X8.here hx (hb hby d58) (by decide) (by decide) ?_
    refine t_iload 5 X8.here hx (hb hby d40) rfl rfl ?_
    refine t_iload 7 X8.here hx (hb hby d41) rfl rfl ?_
    refine t_icmpNo 10 X8.here hx (hb hby d42) (by decide) rfl ?_
    refine t_aloadN 11 X8.here hx (hb hby d43) rfl rfl rfl ?_
    refine t_iloadN 12 X8.here hx (hb hby d44) rfl rfl ?_
    refine own_aldC (pc' := 13) X8 hx hZ e8 f9 (j := 2) (v := (.int i_3)) (by decide) rfl (hb hby d45) rfl ?_
    refine t_istore (pc' := 15) (L' := #[vr o0, vi 2, vr o2, vi 2, vi 5, vi 2, vi i_3]) X8.here hx (hb hby d46) rfl rfl ?_
    refine t_iload 17 X8.here hx (hb hby d47) rfl rfl ?_
    refine t_sipush 20 (r := 255) X8.here hx (hb hby d48) (by decide) rfl ?_
    refine t_icmpYes (pc := 20) 26 X8.here hx (hb hby d49) (flt hp2).2.2.2 (by decide) (by decide) ?_
    refine t_aloadN 27 X8.here hx (hb hby d50) rfl rfl rfl ?_
    refine t_iloadN 28 X8.here hx (hb hby d51) rfl rfl ?_
    refine t_iload 30 X8.here hx (hb hby d52) rfl rfl ?_
    refine t_i2b 31 X8.here hx (hb hby d53) rfl rfl ?_
    refine st10 _ ?_
    refine t_iinc (pc' := 35) (L' := #[vr o0, vi 3, vr o2, vi 2, vi 5, vi 2, vi i_3]) X10.here hx (hb hby d55) rfl (by first | rfl | decide) rfl ?_
    refine t_iinc (pc' := 38) (L' := #[vr o0, vi 3, vr o2, vi 3, vi 5, vi 2, vi i_3]) X10.here hx (hb hby d56) rfl (by first | rfl | decide) rfl ?_
    refine t_iinc (pc' := 41) (L' := #[vr o0, vi 3, vr o2, vi 3, vi 5, vi 3, vi i_3]) X10.here hx (hb hby d57) rfl (by first | rfl | decide) rfl ?_
    refine t_goto (pc := 41) 3 X10.here hx (hb hby d58) (by decide) (by decide) ?_
    refine t_iload 5 X10.here hx (hb hby d40) rfl rfl ?_
    refine t_iload 7 X10.here hx (hb hby d41) rfl rfl ?_
    refine t_icmpNo 10 X10.here hx (hb hby d42) (by decide) rfl ?_
    refine t_aloadN 11 X10.here hx (hb hby d43) rfl rfl rfl ?_
    refine t_iloadN 12 X10.here hx (hb hby d44) rfl rfl ?_
    refine own_aldC (pc' := 13) X10 hx hZ e10 f11 (j := 3) (v := (.int i_4)) (by decide) rfl (hb hby d45) rfl ?_
    refine t_istore (pc' := 15) (L' := #[vr o0, vi 3, vr o2, vi 3, vi 5, vi 3, vi i_4]) X10.here hx (hb hby d46) rfl rfl ?_
    refine t_iload 17 X10.here hx (hb hby d47) rfl rfl ?_
    refine t_sipush 20 (r := 255) X10.here hx (hb hby d48) (by decide) rfl ?_
    refine t_icmpYes (pc := 20) 26 X10.here hx (hb hby d49) (flt hp3).2.2.2 (by decide) (by decide) ?_
    refine t_aloadN 27 X10.here hx (hb hby d50) rfl rfl rfl ?_
    refine t_iloadN 28 X10.here hx (hb hby d51) rfl rfl ?_
    refine t_iload 30 X10.here hx (hb hby d52) rfl rfl ?_
    refine t_i2b 31 X10.here hx (hb hby d53) rfl rfl ?_
    refine st12 _ ?_
    refine t_iinc (pc' := 35) (L' := #[vr o0, vi 4, vr o2, vi 3, vi 5, vi 3, vi i_4]) X12.here hx (hb hby d55) rfl (by first | rfl | decide) rfl ?_
    refine t_iinc (pc' := 38) (L' := #[vr o0, vi 4, vr o2, vi 4, vi 5, vi 3, vi i_4]) X12.here hx (hb hby d56) rfl (by first | rfl | decide) rfl ?_
    refine t_iinc (pc' := 41) (L' := #[vr o0, vi 4, vr o2, vi 4, vi 5, vi 4, vi i_4]) X12.here hx (hb hby d57) rfl (by first | rfl | decide) rfl ?_
    refine t_goto (pc := 41) 3 X12.here hx (hb hby d58) (by decide) (by decide) ?_
    refine t_iload 5 X12.here hx (hb hby d40) rfl rfl ?_
    refine t_iload 7 X12.here hx (hb hby d41) rfl rfl ?_
    refine t_icmpNo 10 X12.here hx (hb hby d42) (by decide) rfl ?_
    refine t_aloadN 11 X12.here hx (hb hby d43) rfl rfl rfl ?_
    refine t_iloadN 12 X12.here hx (hb hby d44) rfl rfl ?_
    refine own_aldC (pc' := 13) X12 hx hZ e12 f13 (j := 4) (v := (.int i_5)) (by decide) rfl (hb hby d45) rfl ?_
    refine t_istore (pc' := 15) (L' := #[vr o0, vi 4, vr o2, vi 4, vi 5, vi 4, vi i_5]) X12.here hx (hb hby d46) rfl rfl ?_
    refine t_iload 17 X12.here hx (hb hby d47) rfl rfl ?_
    refine t_sipush 20 (r := 255) X12.here hx (hb hby d48) (by decide) rfl ?_
    refine t_icmpYes (pc := 20) 26 X12.here hx (hb hby d49) (flt hp4).2.2.2 (by decide) (by decide) ?_
    refine t_aloadN 27 X12.here hx (hb hby d50) rfl rfl rfl ?_
    refine t_iloadN 28 X12.here hx (hb hby d51) rfl rfl ?_
    refine t_iload 30 X12.here hx (hb hby d52) rfl rfl ?_
    refine t_i2b 31 X12.here hx (hb hby d53) rfl rfl ?_
    refine st14 _ ?_
    refine t_iinc (pc' := 35) (L' := #[vr o0, vi 5, vr o2, vi 4, vi 5, vi 4, vi i_5]) X14.here hx (hb hby d55) rfl (by first | rfl | decide) rfl ?_
    refine t_iinc (pc' := 38) (L' := #[vr o0, vi 5, vr o2, vi 5, vi 5, vi 4, vi i_5]) X14.here hx (hb hby d56) rfl (by first | rfl | decide) rfl ?_
    refine t_iinc (pc' := 41) (L' := #[vr o0, vi 5, vr o2, vi 5, vi 5, vi 5, vi i_5]) X14.here hx (hb hby d57) rfl (by first | rfl | decide) rfl ?_
    refine t_goto (pc := 41) 3 X14.here hx (hb hby d58) (by decide) (by decide) ?_
    refine t_iload 5 X14.here hx (hb hby d40) rfl rfl ?_
    refine t_iload 7 X14.here hx (hb hby d41) rfl rfl ?_
    refine t_icmpYes (pc := 7) 44 X14.here hx (hb hby d42) (by decide) (by decide) (by decide) ?_
    refine t_iload 46 X14.here hx (hb hby d59) rfl rfl ?_
    exact retI X14 hx hret (hb hby d60) hr
def Q_r123_compress (Z : State) (o0 : Addr) (i_2 i_3 i_4 i_5 i_6 : Int32) (k_o0 : ClassId) (h0 : Heap) (n0 : Nat) (v : Option Value) (h : Heap) (L : List Loc) : Prop := ∃ b1 : Addr, ∃ k1 : ClassId, v = some (.ref b1) ∧ Fr n0 L ∧ KL h0 h [] ∧ h0.size ≤ b1 ∧ Arv Z h b1 k1 .byte 5 [(.int (i_2.toInt8.toInt32)), (.int (i_3.toInt8.toInt32)), (.int (i_4.toInt8.toInt32)), (.int (i_5.toInt8.toInt32)), (.int (i_6.toInt8.toInt32))] z0
theorem ef_r123_compress (o0 : Addr) (m : MethodId) : entryFrame m #[(.ref o0), (.int 0), (.int 5)] 6 = mkF m 0 #[.val (.ref o0), .val (.int 0), .val (.int 5), .unset, .unset, .unset] [] := by first | (simp [entryFrame, mkF, argsToLocals, Value.category]; done) | rfl
set_option maxRecDepth 65536 in
set_option maxHeartbeats 40000000 in
theorem r123_compress (l : Launch) (Z : State) (a0 : Array Value) (hw : HW Z a0) (ws : List Jvm.Cond) (o0 : Addr) (i_2 i_3 i_4 i_5 i_6 : Int32) (k_o0 : ClassId) (h0 : Heap) (n0 : Nat) (Z0 : n0 ≤ h0.size) (V_o0 : Arv Z h0 o0 k_o0 .char 5 [(.int i_2), (.int i_3), (.int i_4), (.int i_5), (.int i_6)] z0) (hp0 : ¬ ((255 : Int32) < i_2)) (hp1 : ¬ ((255 : Int32) < i_3)) (hp2 : ¬ ((255 : Int32) < i_4)) (hp3 : ¬ ((255 : Int32) < i_5)) (hp4 : ¬ ((255 : Int32) < i_6)) :
    MF l Z y2_compress b3_ 6 (some (.array .byte)) ws ⟨1, 1, 5, 18⟩ #[(.ref o0), z0, (.int 5)] h0 (Q_r123_compress Z o0 i_2 i_3 i_4 i_5 i_6 k_o0 h0 n0) := by
  refine own_body (plainFor_of_name pn_StringUTF16906) (ef_r123_compress o0) (by decide) (by decide) ?_
  intro p e s m below meth c s₁ hx hby hml hown hnm hret hZ hh e0 X0
  have N0 := Fr.nil n0
  obtain ⟨T1, h1, k1, X1, e1, E1, A1, st1⟩ := newP (aty := .byte) X0 hx hZ (w23 hw) e0 (g := (mkF m 1 #[vr o0, vi 0, vi 5, .unset, .unset, .unset] [(.int 5)])) rfl (hb hby d30) rfl (by decide) (cap := 5) (by decide) (by decide) (by decide) (by decide)
  obtain ⟨b1, g1⟩ : ∃ z, z = h0.size := ⟨_, rfl⟩
  rw [← g1] at A1 st1
  have ge_b1 : h0.size ≤ b1 := Nat.le_of_eq g1.symm
  have K1 := KL.ofE E1
  have V1 : Arv Z h1 b1 k1 .byte 5 [z0, z0, z0, z0, z0] z0 := (Arv.new A1 (by decide)).pad (pad_rep [] z0 5)
  have f8 := (kArv K1 V_o0 na0)
  have lt_o0 : o0 < h0.size := Arv.lt V_o0
  obtain ⟨_, T7, L7, X7, hQ7, st7⟩ := own_static X1 hx hZ hown (w24 hw) (w25 hw) (w21 hw) (w26 hw) (by decide) (r124_compress l Z a0 hw [] o0 b1 i_2 i_3 i_4 i_5 i_6 k_o0 k1 h1 n0 (Nat.le_trans Z0 K1.1) f8 hp0 V1 (Nat.le_trans Z0 ge_b1) (lt_ne lt_o0 ge_b1) hp1 hp2 hp3 hp4) e1 (W := 0) (by decide) (g := (mkF m 9 #[vr o0, vi 0, vi 5, vr b1, .unset, .unset] [(.int 5), z0, (.ref b1), z0, (.ref o0)])) rfl hml.symm (argsL := [(.ref o0), z0, (.ref b1), z0, (.int 5)]) (rest := []) (lenOf pd_1 rfl) rfl rfl (own_wr rfl rfl) (hb hby d37)
  obtain ⟨rfl, N7q, K7, Q7_0⟩ := hQ7
  have N7 := Fr.app N0 N7q
  have C0 := (KL.refl h0 []).trans K1 na0
  have C1 := C0.trans K7 (naOM 5 rfl ge_b1 na0)
  refine ⟨T7, _, some (.ref b1), X7, (fun h => by cases h <;> rfl), ?_, fun fs hr => ?_⟩
  · show Q_r123_compress Z o0 i_2 i_3 i_4 i_5 i_6 k_o0 h0 n0 _ T7.heap _
    exact ⟨b1, k1, rfl, N7, C1, ge_b1, Q7_0⟩
  · refine t_iloadN 1 X0.here hx (hb hby d29) rfl rfl ?_
    refine st1 _ ?_
    refine t_astoreN (pc' := 4) (L' := #[vr o0, vi 0, vi 5, vr b1, .unset, .unset]) X1.here hx (hb hby d31) rfl rfl rfl ?_
    refine t_aloadN 5 X1.here hx (hb hby d32) rfl rfl rfl ?_
    refine t_iloadN 6 X1.here hx (hb hby d33) rfl rfl ?_
    refine t_aloadN 7 X1.here hx (hb hby d34) rfl rfl rfl ?_
    refine t_iconst 8 (r := 0) X1.here hx (hb hby d35) (by decide) rfl ?_
    refine t_iloadN 9 X1.here hx (hb hby d36) rfl rfl ?_
    refine st7 _ ?_
    refine t_istore (pc' := 14) (L' := #[vr o0, vi 0, vi 5, vr b1, vi 5, .unset]) X7.here hx (hb hby d61) rfl rfl ?_
    refine t_iload 16 X7.here hx (hb hby d62) rfl rfl ?_
    refine t_iloadN 17 X7.here hx (hb hby d63) rfl rfl ?_
    refine t_icmpYes (pc := 17) 57 X7.here hx (hb hby d64) (by decide) (by decide) (by decide) ?_
    refine t_aloadN 58 X7.here hx (hb hby d65) rfl rfl rfl ?_
    jvm_step X7.here [X7.here.top, hx, (hb hby d66), X7.method', hret, Value.isRef, FieldType.isReference]
    first | (intro acts; rw [hr _ acts rfl rfl rfl]) | rw [hr _ _ rfl rfl rfl]
    exact Steps.refl _
def Q_r125_coderFromArrayLen (Z : State) (o0 : Addr) (i_1 i_2 i_3 i_4 i_5 : Int32) (k_o0 : ClassId) (h0 : Heap) (n0 : Nat) (v : Option Value) (h : Heap) (L : List Loc) : Prop := v = some z0 ∧ Fr n0 L ∧ h = h0
theorem ef_r125_coderFromArrayLen (o0 : Addr) (m : MethodId) : entryFrame m #[(.ref o0), (.int 5)] 2 = mkF m 0 #[.val (.ref o0), .val (.int 5)] [] := by first | (simp [entryFrame, mkF, argsToLocals, Value.category]; done) | rfl
set_option maxRecDepth 65536 in
set_option maxHeartbeats 40000000 in
theorem r125_coderFromArrayLen (l : Launch) (Z : State) (a0 : Array Value) (hw : HW Z a0) (ws : List Jvm.Cond) (o0 : Addr) (i_1 i_2 i_3 i_4 i_5 : Int32) (k_o0 : ClassId) (h0 : Heap) (n0 : Nat) (Z0 : n0 ≤ h0.size) (V_o0 : Arv Z h0 o0 k_o0 .byte 5 [(.int i_1), (.int i_2), (.int i_3), (.int i_4), (.int i_5)] z0) :
    MF l Z y3_coderFromArrayLen b5_ 2 (some .byte) ws ⟨0, 0, 0, 0⟩ #[(.ref o0), (.int 5)] h0 (Q_r125_coderFromArrayLen Z o0 i_1 i_2 i_3 i_4 i_5 k_o0 h0 n0) := by
  refine own_body (plainFor_of_name pn_StringUTF16906) (ef_r125_coderFromArrayLen o0) (by decide) (by decide) ?_
  intro p e s m below meth c s₁ hx hby hml hown hnm hret hZ hh e0 X0
  have N0 := Fr.nil n0
  refine ⟨s₁, _, some z0, X0, (fun h => by cases h <;> rfl), ?_, fun fs hr => ?_⟩
  · show Q_r125_coderFromArrayLen Z o0 i_1 i_2 i_3 i_4 i_5 k_o0 h0 n0 _ s₁.heap _
    rw [e0]
    exact ⟨rfl, N0, rfl⟩
  · refine t_iloadN 1 X0.here hx (hb hby d72) rfl rfl ?_
    refine t_aloadN 2 X0.here hx (hb hby d73) rfl rfl rfl ?_
    refine own_arlen (pc' := 3) X0 hx hZ e0 V_o0 (hb hby d74) rfl ?_
    refine t_isub 4 (r := 0) X0.here hx (hb hby d75) (by decide : ((5 : Int32) - (5 : Int32)) = (0 : Int32)) rfl ?_
    refine t_bipush 6 (r := 31) X0.here hx (hb hby d76) (by decide) rfl ?_
    refine t_iushr 7 (r := 0) X0.here hx (hb hby d77) (by decide : (((0 : Int32).toUInt32 >>> ((31 : Int32) &&& 31).toUInt32).toInt32) = (0 : Int32)) rfl ?_
    refine t_i2b 8 (r := 0) X0.here hx (hb hby d78) (by decide : ((0 : Int32).toInt8.toInt32) = (0 : Int32)) rfl ?_
    exact retN X0 hx (t := .byte) hret (by simp) (hb hby d79) hr
def WS_r122__init_ (Z : State) (o0 : Addr) : List (Addr × Nat) := [(o0, (sl0 Z)), (o0, (sl1 Z))]
def Q_r122__init_ (Z : State) (o0 o1 : Addr) (i_2 i_4 i_5 i_6 i_7 i_8 : Int32) (k_o1 : ClassId) (h0 : Heap) (n0 : Nat) (v : Option Value) (h : Heap) (L : List Loc) : Prop := ∃ b1_9 : Addr, ∃ k1_9 : ClassId, v = none ∧ Fr n0 L ∧ KL h0 h (WS_r122__init_ Z o0) ∧ h0.size ≤ b1_9 ∧ Fd0 Z h o0 z0 ∧ Fd1 Z h o0 (.ref b1_9) ∧ Arv Z h b1_9 k1_9 .byte 5 [(.int (i_4.toInt8.toInt32)), (.int (i_5.toInt8.toInt32)), (.int (i_6.toInt8.toInt32)), (.int (i_7.toInt8.toInt32)), (.int (i_8.toInt8.toInt32))] z0
theorem ef_r122__init_ (o0 o1 : Addr) (m : MethodId) : entryFrame m #[(.ref o0), (.ref o1), (.int 0), (.int 5), .null] 6 = mkF m 0 #[.val (.ref o0), .val (.ref o1), .val (.int 0), .val (.int 5), .val .null, .unset] [] := by first | (simp [entryFrame, mkF, argsToLocals, Value.category]; done) | rfl
set_option maxRecDepth 65536 in
set_option maxHeartbeats 40000000 in
theorem r122__init_ (l : Launch) (Z : State) (a0 : Array Value) (hw : HW Z a0) (ws : List Jvm.Cond) (o0 o1 : Addr) (i_2 i_4 i_5 i_6 i_7 i_8 : Int32) (k_o1 : ClassId) (h0 : Heap) (n0 : Nat) (Z0 : n0 ≤ h0.size) (sCS : SCS Z i_2) (O0 : Old Z n0 h0) (hp0 : ¬ (i_2 = (0 : Int32))) (V_o1 : Arv Z h0 o1 k_o1 .char 5 [(.int i_4), (.int i_5), (.int i_6), (.int i_7), (.int i_8)] z0) (hp1 : ¬ ((255 : Int32) < i_4)) (hp2 : ¬ ((255 : Int32) < i_5)) (hp3 : ¬ ((255 : Int32) < i_6)) (hp4 : ¬ ((255 : Int32) < i_7)) (hp5 : ¬ ((255 : Int32) < i_8)) (F_o0_coder : Fd0 Z h0 o0 z0) (E_o0 : Ex0 Z h0 o0) (g_o0 : n0 ≤ o0) (F_o0_value : Fd1 Z h0 o0 .null) :
    MF l Z y4__init_ b2_ 6 none ws ⟨2, 1, 5, 35⟩ #[(.ref o0), (.ref o1), z0, (.int 5), .null] h0 (Q_r122__init_ Z o0 o1 i_2 i_4 i_5 i_6 i_7 i_8 k_o1 h0 n0) := by
  refine own_body (plainFor_of_name pn_String564) (ef_r122__init_ o0 o1) (by decide) (by decide) ?_
  intro p e s m below meth c s₁ hx hby hml hown hnm hret hZ hh e0 X0
  have N0 := Fr.nil n0
  obtain ⟨T1, X1, e1, st1⟩ := initO X0 hx hZ hown (w15 hw) (w16 hw) (w17 hw) e0 (g := (mkF m 1 #[vr o0, vr o1, vi 0, vi 5, .val .null, .unset] [(.ref o0)])) rfl hml.symm rfl (hb hby d20) (by decide) (W := 0) (own_wr rfl rfl) (by decide)
  obtain ⟨T3, X3, e3, st3⟩ := getS2 X1 hx hZ hown (host := "") (Or.inl (w18 hw)) Via.refl e1 (Sta.ext O0.2 sCS) (g := (mkF m 27 #[vr o0, vr o1, vi 0, vi 5, .val .null, .unset] [])) rfl (hb hby d23)
  obtain ⟨_, T9, L9, X9, hQ9, st9⟩ := own_static X3 hx hZ hown (w19 hw) (w20 hw) (w21 hw) (w22 hw) (by decide) (r123_compress l Z a0 hw [] o1 i_4 i_5 i_6 i_7 i_8 k_o1 h0 n0 Z0 V_o1 hp1 hp2 hp3 hp4 hp5) e3 (W := 0) (by decide) (g := (mkF m 36 #[vr o0, vr o1, vi 0, vi 5, .val .null, .unset] [(.int 5), z0, (.ref o1)])) rfl hml.symm (argsL := [(.ref o1), z0, (.int 5)]) (rest := []) (lenOf pd_2 rfl) rfl rfl (own_wr rfl rfl) (hb hby d28)
  obtain ⟨b1_9, k1_9, rfl, N9q, K9, Q9_0, Q9_1⟩ := hQ9
  have N9 := Fr.app N0 N9q
  obtain ⟨_, T11, L11, X11, hQ11, st11⟩ := own_static X9 hx hZ hown (w27 hw) (w28 hw) (w21 hw) (w29 hw) (by decide) (r125_coderFromArrayLen l Z a0 hw [] b1_9 (i_4.toInt8.toInt32) (i_5.toInt8.toInt32) (i_6.toInt8.toInt32) (i_7.toInt8.toInt32) (i_8.toInt8.toInt32) k1_9 T9.heap n0 (Nat.le_trans Z0 K9.1) Q9_1) rfl (W := 1) (by decide) (g := (mkF m 45 #[vr o0, vr o1, vi 0, vi 5, .val .null, vr b1_9] [(.int 5), (.ref b1_9), (.ref o0)])) rfl hml.symm (argsL := [(.ref b1_9), (.int 5)]) (rest := [(.ref o0)]) (lenOf pd_3 rfl) rfl rfl (own_wr rfl rfl) (hb hby d71)
  obtain ⟨rfl, N11q, e11⟩ := hQ11
  have N11 := Fr.app N9 N11q
  have f12 := (kFld K9 F_o0_coder nw0)
  have f13 := (kExa K9 E_o0)
  obtain ⟨T14, h14, X14, e14, W14, st14⟩ := putF X11 hx hZ hown (host := "") (Or.inl (w30 hw)) Via.refl e11 f12 f13 (Or.inr ⟨(w31 hw), rfl, hnm⟩) (w5 hw) (ty := .byte) (by decide) (by decide) (by decide) (g := (mkF m 48 #[vr o0, vr o1, vi 0, vi 5, .val .null, vr b1_9] [z0, (.ref o0)])) rfl rfl (hb hby d80)
  have K14 := KL.ofW W14
  have Fw14 : Fd0 Z h14 o0 z0 := Fld.same W14 f12
  have N14 := Fr.snoc X14 N11 g_o0
  have f15 := (kFld K14 (kFld K9 F_o0_value nw0) (nwS (Or.inr (sn_0 hw)) nw0))
  have f16 := (kExa K14 f13)
  obtain ⟨T17, h17, X17, e17, W17, st17⟩ := putF X14 hx hZ hown (host := "") (Or.inl (w32 hw)) Via.refl e14 f15 f16 (Or.inr ⟨(w33 hw), rfl, hnm⟩) (w5 hw) (ty := (.array .byte)) (by decide) rfl rfl (g := (mkF m 54 #[vr o0, vr o1, vi 0, vi 5, .val .null, vr b1_9] [(.ref b1_9), (.ref o0)])) rfl rfl (hb hby d83)
  have K17 := KL.ofW W17
  have Fw17 : Fd1 Z h17 o0 (.ref b1_9) := Fld.same W17 f15
  have N17 := Fr.snoc X17 N14 g_o0
  have C0 := (KL.refl h0 (WS_r122__init_ Z o0)).trans K9 na0
  have C1 := C0.trans K14 (naO (own_mi 0 rfl) na0)
  have C2 := C1.trans K17 (naO (own_mi 1 rfl) na0)
  have f18 := (kFld K17 Fw14 (nwS (Or.inr (sn_1 hw)) nw0))
  have lt_o0 : o0 < h0.size := Fld.lt F_o0_coder
  have f19 := (kArv K17 (kArv K14 Q9_1 (naN (lt_ne lt_o0 Q9_0) na0)) (naN (lt_ne lt_o0 Q9_0) na0))
  refine ⟨T17, _, none, X17, (fun h => by cases h <;> rfl), ?_, fun fs hr => ?_⟩
  · show Q_r122__init_ Z o0 o1 i_2 i_4 i_5 i_6 i_7 i_8 k_o1 h0 n0 _ T17.heap _
    rw [e17]
    exact ⟨b1_9, k1_9, rfl, N17, C2, Q9_0, f18, Fw17, f19⟩
  · refine t_aloadN 1 X0.here hx (hb hby d19) rfl rfl rfl ?_
    refine st1 _ ?_
    refine t_iloadN 5 X1.here hx (hb hby d21) rfl rfl ?_
    refine t_ifYes (pc := 5) 27 X1.here hx (hb hby d22) (by decide) (by decide) (by decide) ?_
    refine st3 _ ?_
    refine t_ifNo 33 X3.here hx (hb hby d24) ((if0 _ _).trans (feq hp0).1) rfl ?_
    refine t_aloadN 34 X3.here hx (hb hby d25) rfl rfl rfl ?_
    refine t_iloadN 35 X3.here hx (hb hby d26) rfl rfl ?_
    refine t_iloadN 36 X3.here hx (hb hby d27) rfl rfl ?_
    refine st9 _ ?_
    refine t_astore (pc' := 41) (L' := #[vr o0, vr o1, vi 0, vi 5, .val .null, vr b1_9]) X9.here hx (hb hby d67) rfl rfl rfl ?_
    refine t_aloadN 42 X9.here hx (hb hby d68) rfl rfl rfl ?_
    refine t_aload 44 X9.here hx (hb hby d69) rfl rfl rfl ?_
    refine t_iloadN 45 X9.here hx (hb hby d70) rfl rfl ?_
    refine st11 _ ?_
    refine st14 _ ?_
    refine t_aloadN 52 X14.here hx (hb hby d81) rfl rfl rfl ?_
    refine t_aload 54 X14.here hx (hb hby d82) rfl rfl rfl ?_
    refine st17 _ ?_
    exact X17.returnOut hx hret (hb hby d84) hr
def WS_r121__init_ (Z : State) (o0 : Addr) : List (Addr × Nat) := [(o0, (sl0 Z)), (o0, (sl1 Z))]
def Q_r121__init_ (Z : State) (o0 o1 : Addr) (i_1 i_2 i_3 i_4 i_5 : Int32) (k_o1 : ClassId) (i_6 : Int32) (h0 : Heap) (n0 : Nat) (v : Option Value) (h : Heap) (L : List Loc) : Prop := ∃ b1_9_7 : Addr, ∃ k1_9_7 : ClassId, v = none ∧ Fr n0 L ∧ KL h0 h (WS_r121__init_ Z o0) ∧ h0.size ≤ b1_9_7 ∧ Fd0 Z h o0 z0 ∧ Fd1 Z h o0 (.ref b1_9_7) ∧ Arv Z h b1_9_7 k1_9_7 .byte 5 [(.int (i_1.toInt8.toInt32)), (.int (i_2.toInt8.toInt32)), (.int (i_3.toInt8.toInt32)), (.int (i_4.toInt8.toInt32)), (.int (i_5.toInt8.toInt32))] z0
theorem ef_r121__init_ (o0 o1 : Addr) (m : MethodId) : entryFrame m #[(.ref o0), (.ref o1)] 2 = mkF m 0 #[.val (.ref o0), .val (.ref o1)] [] := by first | (simp [entryFrame, mkF, argsToLocals, Value.category]; done) | rfl
set_option maxRecDepth 65536 in
set_option maxHeartbeats 40000000 in
theorem r121__init_ (l : Launch) (Z : State) (a0 : Array Value) (hw : HW Z a0) (ws : List Jvm.Cond) (o0 o1 : Addr) (i_1 i_2 i_3 i_4 i_5 : Int32) (k_o1 : ClassId) (i_6 : Int32) (h0 : Heap) (n0 : Nat) (Z0 : n0 ≤ h0.size) (V_o1 : Arv Z h0 o1 k_o1 .char 5 [(.int i_1), (.int i_2), (.int i_3), (.int i_4), (.int i_5)] z0) (sCS : SCS Z i_6) (F_o0_coder : Fd0 Z h0 o0 z0) (E_o0 : Ex0 Z h0 o0) (F_o0_value : Fd1 Z h0 o0 .null) (O0 : Old Z n0 h0) (hp0 : ¬ (i_6 = (0 : Int32))) (hp1 : ¬ ((255 : Int32) < i_1)) (hp2 : ¬ ((255 : Int32) < i_2)) (hp3 : ¬ ((255 : Int32) < i_3)) (hp4 : ¬ ((255 : Int32) < i_4)) (hp5 : ¬ ((255 : Int32) < i_5)) (g_o0 : n0 ≤ o0) :
    MF l Z y5__init_ b1_ 2 none ws ⟨3, 1, 5, 52⟩ #[(.ref o0), (.ref o1)] h0 (Q_r121__init_ Z o0 o1 i_1 i_2 i_3 i_4 i_5 k_o1 i_6 h0 n0) := by
  refine own_body (plainFor_of_name pn_String564) (ef_r121__init_ o0 o1) (by decide) (by decide) ?_
  intro p e s m below meth c s₁ hx hby hml hown hnm hret hZ hh e0 X0
  have N0 := Fr.nil n0
  obtain ⟨_, T7, L7, X7, hQ7, st7⟩ := own_init X0 hx hZ rfl hown (w11 hw) (w12 hw) (w6 hw) (w14 hw) (by decide) (r122__init_ l Z a0 hw [] o0 o1 i_6 i_1 i_2 i_3 i_4 i_5 k_o1 h0 n0 Z0 sCS O0 hp0 V_o1 hp1 hp2 hp3 hp4 hp5 F_o0_coder E_o0 g_o0 F_o0_value) e0 (W := 0) (by decide) (g := (mkF m 6 #[vr o0, vr o1] [.null, (.int 5), z0, (.ref o1), (.ref o0)])) rfl hml.symm (argsL := [(.ref o1), z0, (.int 5), .null]) (rest := []) (lenOf pd_4 rfl) rfl rfl (own_wr rfl rfl) (hb hby d18)
  obtain ⟨b1_9_7, k1_9_7, rfl, N7q, K7, Q7_0, Q7_1, Q7_2, Q7_3⟩ := hQ7
  have N7 := Fr.app N0 N7q
  have C0 := (KL.refl h0 (WS_r121__init_ Z o0)).trans K7 (naO (own_mi 0 rfl) (naO (own_mi 1 rfl) na0))
  refine ⟨T7, _, none, X7, (fun h => by cases h <;> rfl), ?_, fun fs hr => ?_⟩
  · show Q_r121__init_ Z o0 o1 i_1 i_2 i_3 i_4 i_5 k_o1 i_6 h0 n0 _ T7.heap _
    exact ⟨b1_9_7, k1_9_7, rfl, N7, C0, Q7_0, Q7_1, Q7_2, Q7_3⟩
  · refine t_aloadN 1 X0.here hx (hb hby d12) rfl rfl rfl ?_
    refine t_aloadN 2 X0.here hx (hb hby d13) rfl rfl rfl ?_
    refine t_iconst 3 (r := 0) X0.here hx (hb hby d14) (by decide) rfl ?_
    refine t_aloadN 4 X0.here hx (hb hby d15) rfl rfl rfl ?_
    refine own_arlen (pc' := 5) X0 hx hZ e0 V_o1 (hb hby d16) rfl ?_
    refine t_aconst_null 6 X0.here hx (hb hby d17) rfl ?_
    refine st7 _ ?_
    exact X7.returnOut hx hret (hb hby d85) hr
def Q_r127_equals (Z : State) (o0 o1 : Addr) (i_1 i_2 i_3 i_4 i_5 : Int32) (k_o0 : ClassId) (i_6 : Int32) (k_o1 : ClassId) (h0 : Heap) (n0 : Nat) (v : Option Value) (h : Heap) (L : List Loc) : Prop := v = some (.int 1) ∧ Fr n0 L ∧ h = h0
theorem ef_r127_equals (o0 o1 : Addr) (m : MethodId) : entryFrame m #[(.ref o0), (.ref o1)] 3 = mkF m 0 #[.val (.ref o0), .val (.ref o1), .unset] [] := by first | (simp [entryFrame, mkF, argsToLocals, Value.category]; done) | rfl
set_option maxRecDepth 65536 in
set_option maxHeartbeats 40000000 in
theorem r127_equals (l : Launch) (Z : State) (a0 : Array Value) (hw : HW Z a0) (ws : List Jvm.Cond) (o0 o1 : Addr) (i_1 i_2 i_3 i_4 i_5 : Int32) (k_o0 : ClassId) (i_6 : Int32) (k_o1 : ClassId) (h0 : Heap) (n0 : Nat) (Z0 : n0 ≤ h0.size) (V_o0 : Arv Z h0 o0 k_o0 .byte 5 [(.int i_1), (.int i_2), (.int i_3), (.int i_4), (.int i_5)] z0) (V_o1 : Arv Z h0 o1 k_o1 .byte 5 [(.int i_1), (.int i_2), (.int i_6), (.int i_4), (.int i_5)] z0) (hp0 : i_3 = i_6) :
    MF l Z y39_equals b40_ 3 (some .boolean) ws ⟨0, 0, 0, 0⟩ #[(.ref o0), (.ref o1)] h0 (Q_r127_equals Z o0 o1 i_1 i_2 i_3 i_4 i_5 k_o0 i_6 k_o1 h0 n0) := by
  refine own_body (plainFor_of_name pn_StringLatin1120) (ef_r127_equals o0 o1) (by decide) (by decide) ?_
  intro p e s m below meth c s₁ hx hby hml hown hnm hret hZ hh e0 X0
  have N0 := Fr.nil n0
  refine ⟨s₁, _, some (.int 1), X0, (fun h => by cases h <;> rfl), ?_, fun fs hr => ?_⟩
  · show Q_r127_equals Z o0 o1 i_1 i_2 i_3 i_4 i_5 k_o0 i_6 k_o1 h0 n0 _ s₁.heap _
    rw [e0]
    exact ⟨rfl, N0, rfl⟩
  · refine t_aloadN 1 X0.here hx (hb hby d439) rfl rfl rfl ?_
    refine own_arlen (pc' := 2) X0 hx hZ e0 V_o0 (hb hby d440) rfl ?_
    refine t_aloadN 3 X0.here hx (hb hby d441) rfl rfl rfl ?_
    refine own_arlen (pc' := 4) X0 hx hZ e0 V_o1 (hb hby d442) rfl ?_
    refine t_icmpNo 7 X0.here hx (hb hby d443) (by decide) rfl ?_
    refine t_iconst 8 (r := 0) X0.here hx (hb hby d444) (by decide) rfl ?_
    refine t_istoreN (pc' := 9) (L' := #[vr o0, vr o1, vi 0]) X0.here hx (hb hby d445) rfl rfl ?_
    refine t_iloadN 10 X0.here hx (hb hby d446) rfl rfl ?_
    refine t_aloadN 11 X0.here hx (hb hby d447) rfl rfl rfl ?_
    refine own_arlen (pc' := 12) X0 hx hZ e0 V_o0 (hb hby d448) rfl ?_
    refine t_icmpNo 15 X0.here hx (hb hby d449) (by decide) rfl ?_
    refine t_aloadN 16 X0.here hx (hb hby d450) rfl rfl rfl ?_
    refine t_iloadN 17 X0.here hx (hb hby d451) rfl rfl ?_
    refine own_aldB (pc' := 18) X0 hx hZ e0 V_o0 (j := 0) (v := (.int i_1)) (by decide) rfl (hb hby d452) rfl ?_
    refine t_aloadN 19 X0.here hx (hb hby d453) rfl rfl rfl ?_
    refine t_iloadN 20 X0.here hx (hb hby d454) rfl rfl ?_
    refine own_aldB (pc' := 21) X0 hx hZ e0 V_o1 (j := 0) (v := (.int i_1)) (by decide) rfl (hb hby d455) rfl ?_
    refine t_icmpYes (pc := 21) 26 X0.here hx (hb hby d456) (teq (rfl : i_1 = i_1)).1 (by decide) (by decide) ?_
    refine t_iinc (pc' := 29) (L' := #[vr o0, vr o1, vi 1]) X0.here hx (hb hby d457) rfl (by first | rfl | decide) rfl ?_
    refine t_goto (pc := 29) 9 X0.here hx (hb hby d458) (by decide) (by decide) ?_
    refine t_iloadN 10 X0.here hx (hb hby d446) rfl rfl ?_
    refine t_aloadN 11 X0.here hx (hb hby d447) rfl rfl rfl ?_
    refine own_arlen (pc' := 12) X0 hx hZ e0 V_o0 (hb hby d448) rfl ?_
    refine t_icmpNo 15 X0.here hx (hb hby d449) (by decide) rfl ?_
    refine t_aloadN 16 X0.here hx (hb hby d450) rfl rfl rfl ?_
    refine t_iloadN 17 X0.here hx (hb hby d451) rfl rfl ?_
    refine own_aldB (pc' := 18) X0 hx hZ e0 V_o0 (j := 1) (v := (.int i_2)) (by decide) rfl (hb hby d452) rfl ?_
    refine t_aloadN 19 X0.here hx (hb hby d453) rfl rfl rfl ?_
    refine t_iloadN 20 X0.here hx (hb hby d454) rfl rfl ?_
    refine own_aldB (pc' := 21) X0 hx hZ e0 V_o1 (j := 1) (v := (.int i_2)) (by decide) rfl (hb hby d455) rfl ?_
    refine t_icmpYes (pc := 21) 26 X0.here hx (hb hby d456) (teq (rfl : i_2 = i_2)).1 (by decide) (by decide) ?_
    refine t_iinc (pc' := 29) (L' := #[vr o0, vr o1, vi 2]) X0.here hx (hb hby d457) rfl (by first | rfl | decide) rfl ?_
    refine t_goto (pc := 29) 9 X0.here hx (hb hby d458) (by decide) (by decide) ?_
    refine t_iloadN 10 X0.here hx (hb hby d446) rfl rfl ?_
    refine t_aloadN 11 X0.here hx (hb hby d447) rfl rfl rfl ?_
    refine own_arlen (pc' := 12) X0 hx hZ e0 V_o0 (hb hby d448) rfl ?_
    refine t_icmpNo 15 X0.here hx (hb hby d449) (by decide) rfl ?_
    refine t_aloadN 16 X0.here hx (hb hby d450) rfl rfl rfl ?_
    refine t_iloadN 17 X0.here hx (hb hby d451) rfl rfl ?_
    refine own_aldB (pc' := 18) X0 hx hZ e0 V_o0 (j := 2) (v := (.int i_3)) (by decide) rfl (hb hby d452) rfl ?_
    refine t_aloadN 19 X0.here hx (hb hby d453) rfl rfl rfl ?_
    refine t_iloadN 20 X0.here hx (hb hby d454) rfl rfl ?_
    refine own_aldB (pc' := 21) X0 hx hZ e0 V_o1 (j := 2) (v := (.int i_6)) (by decide) rfl (hb hby d455) rfl ?_
    refine t_icmpYes (pc := 21) 26 X0.here hx (hb hby d456) (teq hp0).1 (by decide) (by decide) ?_
    refine t_iinc (pc' := 29) (L' := #[vr o0, vr o1, vi 3]) X0.here hx (hb hby d457) rfl (by first | rfl | decide) rfl ?_
    refine t_goto (pc := 29) 9 X0.here hx (hb hby d458) (by decide) (by decide) ?_
    refine t_iloadN 10 X0.here hx (hb hby d446) rfl rfl ?_
    refine t_aloadN 11 X0.here hx (hb hby d447) rfl rfl rfl ?_
    refine own_arlen (pc' := 12) X0 hx hZ e0 V_o0 (hb hby d448) rfl ?_
    refine t_icmpNo 15 X0.here hx (hb hby d449) (by decide) rfl ?_
    refine t_aloadN 16 X0.here hx (hb hby d450) rfl rfl rfl ?_
    refine t_iloadN 17 X0.here hx (hb hby d451) rfl rfl ?_
    refine own_aldB (pc' := 18) X0 hx hZ e0 V_o0 (j := 3) (v := (.int i_4)) (by decide) rfl (hb hby d452) rfl ?_
    refine t_aloadN 19 X0.here hx (hb hby d453) rfl rfl rfl ?_
    refine t_iloadN 20 X0.here hx (hb hby d454) rfl rfl ?_
    refine own_aldB (pc' := 21) X0 hx hZ e0 V_o1 (j := 3) (v := (.int i_4)) (by decide) rfl (hb hby d455) rfl ?_
    refine t_icmpYes (pc := 21) 26 X0.here hx (hb hby d456) (teq (rfl : i_4 = i_4)).1 (by decide) (by decide) ?_
    refine t_iinc (pc' := 29) (L' := #[vr o0, vr o1, vi 4]) X0.here hx (hb hby d457) rfl (by first | rfl | decide) rfl ?_
    refine t_goto (pc := 29) 9 X0.here hx (hb hby d458) (by decide) (by decide) ?_
    refine t_iloadN 10 X0.here hx (hb hby d446) rfl rfl ?_
    refine t_aloadN 11 X0.here hx (hb hby d447) rfl rfl rfl ?_
    refine own_arlen (pc' := 12) X0 hx hZ e0 V_o0 (hb hby d448) rfl ?_
    refine t_icmpNo 15 X0.here hx (hb hby d449) (by decide) rfl ?_
    refine t_aloadN 16 X0.here hx (hb hby d450) rfl rfl rfl ?_
    refine t_iloadN 17 X0.here hx (hb hby d451) rfl rfl ?_
    refine own_aldB (pc' := 18) X0 hx hZ e0 V_o0 (j := 4) (v := (.int i_5)) (by decide) rfl (hb hby d452) rfl ?_
    refine t_aloadN 19 X0.here hx (hb hby d453) rfl rfl rfl ?_
    refine t_iloadN 20 X0.here hx (hb hby d454) rfl rfl ?_
    refine own_aldB (pc' := 21) X0 hx hZ e0 V_o1 (j := 4) (v := (.int i_5)) (by decide) rfl (hb hby d455) rfl ?_
    refine t_icmpYes (pc := 21) 26 X0.here hx (hb hby d456) (teq (rfl : i_5 = i_5)).1 (by decide) (by decide) ?_
    refine t_iinc (pc' := 29) (L' := #[vr o0, vr o1, vi 5]) X0.here hx (hb hby d457) rfl (by first | rfl | decide) rfl ?_
    refine t_goto (pc := 29) 9 X0.here hx (hb hby d458) (by decide) (by decide) ?_
    refine t_iloadN 10 X0.here hx (hb hby d446) rfl rfl ?_
    refine t_aloadN 11 X0.here hx (hb hby d447) rfl rfl rfl ?_
    refine own_arlen (pc' := 12) X0 hx hZ e0 V_o0 (hb hby d448) rfl ?_
    refine t_icmpYes (pc := 12) 32 X0.here hx (hb hby d449) (by decide) (by decide) (by decide) ?_
    refine t_iconst 33 (r := 1) X0.here hx (hb hby d459) (by decide) rfl ?_
    exact retN X0 hx (t := .boolean) hret (by simp) (hb hby d460) hr
def Q_r126_equals (Z : State) (o0 o1 : Addr) (i_3 : Int32) (o_7 o_9 : Addr) (i_11 i_12 i_13 i_14 i_15 : Int32) (k_o_7 : ClassId) (i_16 : Int32) (k_o_9 : ClassId) (h0 : Heap) (n0 : Nat) (v : Option Value) (h : Heap) (L : List Loc) : Prop := v = some (.int 1) ∧ Fr n0 L ∧ h = h0
theorem ef_r126_equals (o0 o1 : Addr) (m : MethodId) : entryFrame m #[(.ref o0), (.ref o1)] 3 = mkF m 0 #[.val (.ref o0), .val (.ref o1), .unset] [] := by first | (simp [entryFrame, mkF, argsToLocals, Value.category]; done) | rfl
set_option maxRecDepth 65536 in
set_option maxHeartbeats 40000000 in
theorem r126_equals (l : Launch) (Z : State) (a0 : Array Value) (hw : HW Z a0) (ws : List Jvm.Cond) (o0 o1 : Addr) (i_3 : Int32) (o_7 o_9 : Addr) (i_11 i_12 i_13 i_14 i_15 : Int32) (k_o_7 : ClassId) (i_16 : Int32) (k_o_9 : ClassId) (h0 : Heap) (n0 : Nat) (Z0 : n0 ≤ h0.size) (ne_o0_o1 : o0 ≠ o1) (E_o1 : Ex0 Z h0 o1) (sCS : SCS Z i_3) (O0 : Old Z n0 h0) (hp0 : ¬ (i_3 = (0 : Int32))) (F_o0_coder : Fd0 Z h0 o0 z0) (F_o1_coder : Fd0 Z h0 o1 z0) (F_o0_value : Fd1 Z h0 o0 (.ref o_7)) (F_o1_value : Fd1 Z h0 o1 (.ref o_9)) (V_o_7 : Arv Z h0 o_7 k_o_7 .byte 5 [(.int i_11), (.int i_12), (.int i_13), (.int i_14), (.int i_15)] z0) (V_o_9 : Arv Z h0 o_9 k_o_9 .byte 5 [(.int i_11), (.int i_12), (.int i_16), (.int i_14), (.int i_15)] z0) (hp1 : i_13 = i_16) :
    MF l Z y40_equals b39_ 3 (some .boolean) ws ⟨1, 0, 0, 14⟩ #[(.ref o0), (.ref o1)] h0 (Q_r126_equals Z o0 o1 i_3 o_7 o_9 i_11 i_12 i_13 i_14 i_15 k_o_7 i_16 k_o_9 h0 n0) := by
  refine own_body (plainFor_of_name pn_String564) (ef_r126_equals o0 o1) (by decide) (by decide) ?_
  intro p e s m below meth c s₁ hx hby hml hown hnm hret hZ hh e0 X0
  have N0 := Fr.nil n0
  obtain ⟨T1, X1, e1, st1⟩ := instY X0 hx hZ hown (w214 hw) e0 (Ins.self E_o1) (g := (mkF m 8 #[vr o0, vr o1, .unset] [(.ref o1)])) rfl rfl (hb hby d422)
  obtain ⟨T2, X2, e2, st2⟩ := castY X1 hx hZ hown (w214 hw) e1 (Ins.self E_o1) (g := (mkF m 15 #[vr o0, vr o1, .unset] [(.ref o1)])) rfl rfl (hb hby d425)
  obtain ⟨T4, X4, e4, st4⟩ := getS2 X2 hx hZ hown (host := "") (Or.inl (w18 hw)) Via.refl e2 (Sta.ext O0.2 sCS) (g := (mkF m 19 #[vr o0, vr o1, vr o1] [])) rfl (hb hby d427)
  obtain ⟨T5, X5, e5, st5⟩ := getF X4 hx hZ hown (host := "") (Or.inl (w30 hw)) Via.refl e4 F_o0_coder (g := (mkF m 26 #[vr o0, vr o1, vr o1] [(.ref o0)])) rfl rfl (hb hby d430)
  obtain ⟨T6, X6, e6, st6⟩ := getF X5 hx hZ hown (host := "") (Or.inl (w30 hw)) Via.refl e5 F_o1_coder (g := (mkF m 30 #[vr o0, vr o1, vr o1] [(.ref o1), z0])) rfl rfl (hb hby d432)
  obtain ⟨T8, X8, e8, st8⟩ := getF X6 hx hZ hown (host := "") (Or.inl (w32 hw)) Via.refl e6 F_o0_value (g := (mkF m 37 #[vr o0, vr o1, vr o1] [(.ref o0)])) rfl rfl (hb hby d435)
  obtain ⟨T10, X10, e10, st10⟩ := getF X8 hx hZ hown (host := "") (Or.inl (w32 hw)) Via.refl e8 F_o1_value (g := (mkF m 41 #[vr o0, vr o1, vr o1] [(.ref o1), (.ref o_7)])) rfl rfl (hb hby d437)
  obtain ⟨_, T17, L17, X17, hQ17, st17⟩ := own_static X10 hx hZ hown (w215 hw) (w216 hw) (w86 hw) (w217 hw) (by decide) (r127_equals l Z a0 hw [] o_7 o_9 i_11 i_12 i_13 i_14 i_15 k_o_7 i_16 k_o_9 h0 n0 Z0 V_o_7 V_o_9 hp1) e10 (W := 0) (by decide) (g := (mkF m 44 #[vr o0, vr o1, vr o1] [(.ref o_9), (.ref o_7)])) rfl hml.symm (argsL := [(.ref o_7), (.ref o_9)]) (rest := []) (lenOf pd_28 rfl) rfl rfl (own_wr rfl rfl) (hb hby d438)
  obtain ⟨rfl, N17q, e17⟩ := hQ17
  have N17 := Fr.app N0 N17q
  refine ⟨T17, _, some (.int 1), X17, (fun h => by cases h <;> rfl), ?_, fun fs hr => ?_⟩
  · show Q_r126_equals Z o0 o1 i_3 o_7 o_9 i_11 i_12 i_13 i_14 i_15 k_o_7 i_16 k_o_9 h0 n0 _ T17.heap _
    rw [e17]
    exact ⟨rfl, N17, rfl⟩
  · refine t_aloadN 1 X0.here hx (hb hby d418) rfl rfl rfl ?_
    refine t_aloadN 2 X0.here hx (hb hby d419) rfl rfl rfl ?_
    refine Jvm.RoadKit.acmp (g := (mkF m 2 #[vr o0, vr o1, .unset] [(.ref o1), (.ref o0)])) X0 hx rfl rfl rfl (pc0 := 2) (pc' := 7) (same := false) rfl (hb hby d420) rfl (decide_eq_false fun q => absurd (Value.ref.inj q) ne_o0_o1) (by decide) (by decide) ?_
    refine t_aloadN 8 X0.here hx (hb hby d421) rfl rfl rfl ?_
    refine st1 _ ?_
    refine t_ifNo 14 X1.here hx (hb hby d423) (by decide) rfl ?_
    refine t_aloadN 15 X1.here hx (hb hby d424) rfl rfl rfl ?_
    refine st2 _ ?_
    refine t_astoreN (pc' := 19) (L' := #[vr o0, vr o1, vr o1]) X2.here hx (hb hby d426) rfl rfl rfl ?_
    refine st4 _ ?_
    refine t_ifNo 25 X4.here hx (hb hby d428) ((if0 _ _).trans (feq hp0).1) rfl ?_
    refine t_aloadN 26 X4.here hx (hb hby d429) rfl rfl rfl ?_
    refine st5 _ ?_
    refine t_aloadN 30 X5.here hx (hb hby d431) rfl rfl rfl ?_
    refine st6 _ ?_
    refine t_icmpNo 36 X6.here hx (hb hby d433) (by decide) rfl ?_
    refine t_aloadN 37 X6.here hx (hb hby d434) rfl rfl rfl ?_
    refine st8 _ ?_
    refine t_aloadN 41 X8.here hx (hb hby d436) rfl rfl rfl ?_
    refine st10 _ ?_
    refine st17 _ ?_
    refine t_ifNo 50 X17.here hx (hb hby d461) (by decide) rfl ?_
    refine t_iconst 51 (r := 1) X17.here hx (hb hby d462) (by decide) rfl ?_
    refine t_goto (pc := 51) 55 X17.here hx (hb hby d463) (by decide) (by decide) ?_
    exact retN X17 hx (t := .boolean) hret (by simp) (hb hby d464) hr
theorem ef_law_ff (p0 p1 : Int32) (m : MethodId) : entryFrame m #[(.int p0), (.int p1)] maxLocals = mkF m 0 #[.val (.int p0), .val (.int p1), .unset, .unset, .unset, .unset, .unset, .unset, .unset, .unset, .unset, .unset, .unset] [] := by first | (simp [entryFrame, mkF, argsToLocals, Value.category, maxLocals]; done) | rfl
set_option maxRecDepth 65536 in
set_option maxHeartbeats 40000000 in
theorem law_ff (l : Launch) (Z : State) (a0 : Array Value) (hw : HW Z a0) (ws : List Jvm.Cond) (p0 p1 cs : Int32) (h0 : Heap) (n0 : Nat) (Z0 : n0 ≤ h0.size) (hcs : ¬ (cs = (0 : Int32))) (hp0 : ¬ (((own_u16 p0) &&& (1 : Int32)) = (0 : Int32))) (hp1 : ¬ (((own_u16 p1) &&& (1 : Int32)) = (0 : Int32))) (sCS : SCS Z cs) (O0 : Old Z n0 h0) :
    MetFree l x (head1 (Jvm.Cond.code x code maxLocals ret :: ws) room_1) (fun a U => a = #[(.int p0), (.int p1)] ∧ Z.Warmed39 U.vm ∧ U.heap = h0 ∧ CHv Z consts_1 U.vm h0 ∧ ∀ x ∈ ([] : List Addr), Safe Z consts_1 U.vm h0 x) (fun _ _ _ _ _ => True) (fun _ U o U' => ∃ v L, o = .returned v ∧ Q_law n0 v L ∧ CHr Z consts_1 U.vm U.heap U'.vm U'.heap ∧ ReturnedEndW U o U' L 48 3328) := by
  refine own_bodyH (k := 20) (n := 109) (y := x) (Q := fun v _ L => Q_law n0 v L) (own_EW hw) (plainFor_of_name pn_IdentifierToStringPinLaw460) (ef_law_ff p0 p1) (by decide) (by decide) ?_
  intro p e s m below meth c s₁ hx hby hml hown hnm hret hZ e0 hS0 hk0 X0 hC0 hSF0
  have N0 := Fr.nil n0
  obtain ⟨_, T1, L1, X1, hQ1, st1⟩ := own_static X0 hx hZ hown (w0 hw) (w1 hw) (w2 hw) (w3 hw) (by decide) (r_sys l Z a0 hw [] p0 h0 n0 Z0) e0 (W := 0) (by decide) (g := (mkF m 1 #[vi p0, vi p1, .unset, .unset, .unset, .unset, .unset, .unset, .unset, .unset, .unset, .unset, .unset] [(.int p0)])) rfl hml.symm (argsL := [(.int p0)]) (rest := []) (lenOf pd_0 rfl) rfl rfl (own_wr rfl rfl) (hb hby at_1)
  obtain ⟨rfl, N1q, e1⟩ := hQ1
  have N1 := Fr.app N0 N1q
  obtain ⟨_, T2, L2, X2, hQ2, st2⟩ := own_static X1 hx hZ hown (w0 hw) (w1 hw) (w2 hw) (w3 hw) (by decide) (r_sys l Z a0 hw [] (own_u8 p0) h0 n0 Z0) e1 (W := 0) (by decide) (g := (mkF m 9 #[vi p0, vi p1, vi ((own_sys p0)), .unset, .unset, .unset, .unset, .unset, .unset, .unset, .unset, .unset, .unset] [(.int (own_u8 p0))])) rfl hml.symm (argsL := [(.int (own_u8 p0))]) (rest := []) (lenOf pd_0 rfl) rfl rfl (own_wr rfl rfl) (hb hby at_9)
  obtain ⟨rfl, N2q, e2⟩ := hQ2
  have N2 := Fr.app N1 N2q
  obtain ⟨T3, h3, X3, e3, E3, A3, D3, -, st3⟩ := newO X2 hx hZ hown (w4 hw) (w5 hw) (w6 hw) e2 (g := (mkF m 69 #[vi p0, vi p1, vi ((own_sys p0)), vi ((own_sys (own_u8 p0))), vi 1, vi ((p1 &&& (255 : Int32))), vi (((own_u8 p1) &&& (255 : Int32))), vi 1, .unset, .unset, .unset, .unset, .unset] [])) rfl (hb hby at_69) (by decide) (by decide)
  obtain ⟨b3, g3⟩ : ∃ z, z = h0.size := ⟨_, rfl⟩
  rw [← g3] at A3 D3 st3
  have ge_b3 : h0.size ≤ b3 := Nat.le_of_eq g3.symm
  have K3 := KL.ofE E3
  have Ck0 := own_chK K3 na0 (CHr.refl hC0).1
  have Ah1 := (CHr.refl hC0).trans Ck0.1
  have F_b3_coder : Fd0 Z h3 b3 z0 := D3 (Or.inr (w31 hw)) (ty := .byte) (by decide)
  have F_b3_value : Fd1 Z h3 b3 .null := D3 (Or.inr (w33 hw)) (ty := (.array .byte)) (by decide)
  obtain ⟨T4, h4, k4, X4, e4, E4, A4, st4⟩ := newP (aty := .char) X3 hx hZ (w7 hw) e3 (g := (mkF m 74 #[vi p0, vi p1, vi ((own_sys p0)), vi ((own_sys (own_u8 p0))), vi 1, vi ((p1 &&& (255 : Int32))), vi (((own_u8 p1) &&& (255 : Int32))), vi 1, .unset, .unset, .unset, .unset, .unset] [(.int 2), (.ref b3), (.ref b3)])) rfl (hb hby at_74) rfl (by decide) (cap := 2) (by decide) (by decide) (by decide) (by decide)
  obtain ⟨b4, g4⟩ : ∃ z, z = h3.size := ⟨_, rfl⟩
  rw [← g4] at A4 st4
  have ge_b4 : h3.size ≤ b4 := Nat.le_of_eq g4.symm
  have K4 := KL.ofE E4
  have Ck1 := own_chK K4 na0 Ah1.1
  have Ah2 := Ah1.trans Ck1.1
  have V4 : Arv Z h4 b4 k4 .char 2 [z0, z0] z0 := (Arv.new A4 (by decide)).pad (pad_rep [] z0 2)
  obtain ⟨T5, h5, X5, e5, W5, V5, st5⟩ := own_astC X4 hx hZ e4 V4 (j := 0) (by decide) 0 rfl (Nat.le_of_ble_eq_true rfl) (g := (mkF m 79 #[vi p0, vi p1, vi ((own_sys p0)), vi ((own_sys (own_u8 p0))), vi 1, vi ((p1 &&& (255 : Int32))), vi (((own_u8 p1) &&& (255 : Int32))), vi 1, .unset, .unset, .unset, .unset, .unset] [(.int (own_sys p0)), z0, (.ref b4), (.ref b4), (.ref b3), (.ref b3)])) rfl rfl (hb hby at_79)
  rw [show (nar .char (own_sys p0)) = (own_sys p0) from (own_c2c (own_sysa _) (own_sysb _))] at V5
  have K5 := KL.ofW W5
  have Ck2 := own_chK K5 (naF (Ck1.2 _ (Safe.new ge_b4)) na0) Ah2.1
  have Ah3 := Ah2.trans Ck2.1
  replace V5 : Arv Z h5 b4 k4 .char 2 [(.int (own_sys p0)), z0] z0 := V5
  have N5 := Fr.snoc X5 N2 (Nat.le_trans Z0 (Nat.le_trans K3.1 ge_b4))
  obtain ⟨T6, h6, X6, e6, W6, V6, st6⟩ := own_astC X5 hx hZ e5 V5 (j := 1) (by decide) 1 rfl (Nat.le_of_ble_eq_true rfl) (g := (mkF m 83 #[vi p0, vi p1, vi ((own_sys p0)), vi ((own_sys (own_u8 p0))), vi 1, vi ((p1 &&& (255 : Int32))), vi (((own_u8 p1) &&& (255 : Int32))), vi 1, .unset, .unset, .unset, .unset, .unset] [(.int (own_sys (own_u8 p0))), (.int 1), (.ref b4), (.ref b4), (.ref b3), (.ref b3)])) rfl rfl (hb hby at_83)
  rw [show (nar .char (own_sys (own_u8 p0))) = (own_sys (own_u8 p0)) from (own_c2c (own_sysa _) (own_sysb _))] at V6
  have K6 := KL.ofW W6
  have Ck3 := own_chK K6 (naF (Ck2.2 _ (Ck1.2 _ (Safe.new ge_b4))) na0) Ah3.1
  have Ah4 := Ah3.trans Ck3.1
  replace V6 : Arv Z h6 b4 k4 .char 2 [(.int (own_sys p0)), (.int (own_sys (own_u8 p0)))] z0 := V6
  have N6 := Fr.snoc X6 N5 (Nat.le_trans Z0 (Nat.le_trans K3.1 ge_b4))
  have lt_b3 : b3 < h3.size := Exa.lt A3
  have f8 := (kFld K6 (kFld K5 (kFld K4 F_b3_coder nw0) (nwS (Or.inl (lt_ne lt_b3 ge_b4)) nw0)) (nwS (Or.inl (lt_ne lt_b3 ge_b4)) nw0))
  have f9 := (kExa K6 (kExa K5 (kExa K4 A3)))
  have f10 := (kFld K6 (kFld K5 (kFld K4 F_b3_value nw0) (nwS (Or.inl (lt_ne lt_b3 ge_b4)) nw0)) (nwS (Or.inl (lt_ne lt_b3 ge_b4)) nw0))
  have f11 := (kOld K6 (kOld K5 (kOld K4 (kOld K3 O0 na0) na0) (naS (P := fun w => n0 ≤ w.1) (Nat.le_trans Z0 (Nat.le_trans K3.1 ge_b4)) na0)) (naS (P := fun w => n0 ≤ w.1) (Nat.le_trans Z0 (Nat.le_trans K3.1 ge_b4)) na0))
  have sz_0_2 := (Nat.le_trans K3.1 K4.1)
  have sz_0_3 := (Nat.le_trans sz_0_2 K5.1)
  have sz_0_4 := (Nat.le_trans sz_0_3 K6.1)
  obtain ⟨_, T7, L7, X7, hQ7, st7⟩ := own_init X6 hx hZ rfl hown (w8 hw) (w9 hw) (w6 hw) (w10 hw) (by decide) (r57__init_ l Z a0 hw [] b3 b4 (own_sys p0) (own_sys (own_u8 p0)) k4 cs h6 n0 (Nat.le_trans Z0 sz_0_4) V6 sCS f8 f9 f10 f11 hcs (own_sysb _) (own_sysb _) (Nat.le_trans Z0 ge_b3)) e6 (W := 1) (by decide) (g := (mkF m 84 #[vi p0, vi p1, vi ((own_sys p0)), vi ((own_sys (own_u8 p0))), vi 1, vi ((p1 &&& (255 : Int32))), vi (((own_u8 p1) &&& (255 : Int32))), vi 1, .unset, .unset, .unset, .unset, .unset] [(.ref b4), (.ref b3), (.ref b3)])) rfl hml.symm (argsL := [(.ref b4)]) (rest := [(.ref b3)]) (lenOf pd_5 rfl) rfl rfl (own_wr rfl rfl) (hb hby at_84)
  obtain ⟨b1_6_4_7, k1_6_4_7, rfl, N7q, K7, Q7_0, Q7_1, Q7_2, Q7_3⟩ := hQ7
  have N7 := Fr.app N6 N7q
  have Ck4 := own_chK K7 (naF (Ck3.2 _ (Ck2.2 _ (Ck1.2 _ (Ck0.2 _ (Safe.new ge_b3))))) (naF (Ck3.2 _ (Ck2.2 _ (Ck1.2 _ (Ck0.2 _ (Safe.new ge_b3))))) na0)) Ah4.1
  have Ah5 := Ah4.trans Ck4.1
  obtain ⟨T13, h13, X13, e13, E13, A13, D13, -, st13⟩ := newO X7 hx hZ hown (w4 hw) (w5 hw) (w6 hw) rfl (g := (mkF m 94 #[vi p0, vi p1, vi ((own_sys p0)), vi ((own_sys (own_u8 p0))), vi 1, vi ((p1 &&& (255 : Int32))), vi (((own_u8 p1) &&& (255 : Int32))), vi 1, vr b3, .unset, .unset, .unset, .unset] [])) rfl (hb hby at_94) (by decide) (by decide)
  obtain ⟨b13, g13⟩ : ∃ z, z = T7.heap.size := ⟨_, rfl⟩
  rw [← g13] at A13 D13 st13
  have ge_b13 : T7.heap.size ≤ b13 := Nat.le_of_eq g13.symm
  have K13 := KL.ofE E13
  have Ck5 := own_chK K13 na0 Ah5.1
  have Ah6 := Ah5.trans Ck5.1
  have F_b13_coder : Fd0 Z h13 b13 z0 := D13 (Or.inr (w31 hw)) (ty := .byte) (by decide)
  have F_b13_value : Fd1 Z h13 b13 .null := D13 (Or.inr (w33 hw)) (ty := (.array .byte)) (by decide)
  obtain ⟨T14, h14, k14, X14, e14, E14, A14, st14⟩ := newP (aty := .char) X13 hx hZ (w7 hw) e13 (g := (mkF m 99 #[vi p0, vi p1, vi ((own_sys p0)), vi ((own_sys (own_u8 p0))), vi 1, vi ((p1 &&& (255 : Int32))), vi (((own_u8 p1) &&& (255 : Int32))), vi 1, vr b3, .unset, .unset, .unset, .unset] [(.int 2), (.ref b13), (.ref b13)])) rfl (hb hby at_99) rfl (by decide) (cap := 2) (by decide) (by decide) (by decide) (by decide)
  obtain ⟨b14, g14⟩ : ∃ z, z = h13.size := ⟨_, rfl⟩
  rw [← g14] at A14 st14
  have ge_b14 : h13.size ≤ b14 := Nat.le_of_eq g14.symm
  have K14 := KL.ofE E14
  have Ck6 := own_chK K14 na0 Ah6.1
  have Ah7 := Ah6.trans Ck6.1
  have V14 : Arv Z h14 b14 k14 .char 2 [z0, z0] z0 := (Arv.new A14 (by decide)).pad (pad_rep [] z0 2)
  obtain ⟨T15, h15, X15, e15, W15, V15, st15⟩ := own_astC X14 hx hZ e14 V14 (j := 0) (by decide) 0 rfl (Nat.le_of_ble_eq_true rfl) (g := (mkF m 105 #[vi p0, vi p1, vi ((own_sys p0)), vi ((own_sys (own_u8 p0))), vi 1, vi ((p1 &&& (255 : Int32))), vi (((own_u8 p1) &&& (255 : Int32))), vi 1, vr b3, .unset, .unset, .unset, .unset] [(.int (p1 &&& (255 : Int32))), z0, (.ref b14), (.ref b14), (.ref b13), (.ref b13)])) rfl rfl (hb hby at_105)
  rw [show (nar .char (p1 &&& (255 : Int32))) = (p1 &&& (255 : Int32)) from (i2c_mask _)] at V15
  have sz_0_5 := (Nat.le_trans sz_0_4 K7.1)
  have sz_0_6 := (Nat.le_trans sz_0_5 K13.1)
  have K15 := KL.ofW W15
  have Ck7 := own_chK K15 (naF (Ck6.2 _ (Safe.new ge_b14)) na0) Ah7.1
  have Ah8 := Ah7.trans Ck7.1
  replace V15 : Arv Z h15 b14 k14 .char 2 [(.int (p1 &&& (255 : Int32))), z0] z0 := V15
  have N15 := Fr.snoc X15 N7 (Nat.le_trans Z0 (Nat.le_trans sz_0_6 ge_b14))
  obtain ⟨T16, h16, X16, e16, W16, V16, st16⟩ := own_astC X15 hx hZ e15 V15 (j := 1) (by decide) 1 rfl (Nat.le_of_ble_eq_true rfl) (g := (mkF m 110 #[vi p0, vi p1, vi ((own_sys p0)), vi ((own_sys (own_u8 p0))), vi 1, vi ((p1 &&& (255 : Int32))), vi (((own_u8 p1) &&& (255 : Int32))), vi 1, vr b3, .unset, .unset, .unset, .unset] [(.int ((own_u8 p1) &&& (255 : Int32))), (.int 1), (.ref b14), (.ref b14), (.ref b13), (.ref b13)])) rfl rfl (hb hby at_110)
  rw [show (nar .char ((own_u8 p1) &&& (255 : Int32))) = ((own_u8 p1) &&& (255 : Int32)) from (i2c_mask _)] at V16
  have K16 := KL.ofW W16
  have Ck8 := own_chK K16 (naF (Ck7.2 _ (Ck6.2 _ (Safe.new ge_b14))) na0) Ah8.1
  have Ah9 := Ah8.trans Ck8.1
  replace V16 : Arv Z h16 b14 k14 .char 2 [(.int (p1 &&& (255 : Int32))), (.int ((own_u8 p1) &&& (255 : Int32)))] z0 := V16
  have N16 := Fr.snoc X16 N15 (Nat.le_trans Z0 (Nat.le_trans sz_0_6 ge_b14))
  have lt_b13 : b13 < h13.size := Exa.lt A13
  have f18 := (kFld K16 (kFld K15 (kFld K14 F_b13_coder nw0) (nwS (Or.inl (lt_ne lt_b13 ge_b14)) nw0)) (nwS (Or.inl (lt_ne lt_b13 ge_b14)) nw0))
  have f19 := (kExa K16 (kExa K15 (kExa K14 A13)))
  have f20 := (kFld K16 (kFld K15 (kFld K14 F_b13_value nw0) (nwS (Or.inl (lt_ne lt_b13 ge_b14)) nw0)) (nwS (Or.inl (lt_ne lt_b13 ge_b14)) nw0))
  have f21 := (kOld K16 (kOld K15 (kOld K14 (kOld K13 (kOld K7 f11 (naS (P := fun w => n0 ≤ w.1) (Nat.le_trans Z0 ge_b3) (naS (P := fun w => n0 ≤ w.1) (Nat.le_trans Z0 ge_b3) na0))) na0) na0) (naS (P := fun w => n0 ≤ w.1) (Nat.le_trans Z0 (Nat.le_trans sz_0_6 ge_b14)) na0)) (naS (P := fun w => n0 ≤ w.1) (Nat.le_trans Z0 (Nat.le_trans sz_0_6 ge_b14)) na0))
  have sz_0_7 := (Nat.le_trans sz_0_6 K14.1)
  have sz_0_8 := (Nat.le_trans sz_0_7 K15.1)
  have sz_0_9 := (Nat.le_trans sz_0_8 K16.1)
  obtain ⟨_, T17, L17, X17, hQ17, st17⟩ := own_init X16 hx hZ rfl hown (w8 hw) (w9 hw) (w6 hw) (w10 hw) (by decide) (r57__init_ l Z a0 hw [] b13 b14 (p1 &&& (255 : Int32)) ((own_u8 p1) &&& (255 : Int32)) k14 cs h16 n0 (Nat.le_trans Z0 sz_0_9) V16 sCS f18 f19 f20 f21 hcs (own_m255b _) (own_m255b _) (Nat.le_trans Z0 (Nat.le_trans sz_0_5 ge_b13))) e16 (W := 1) (by decide) (g := (mkF m 111 #[vi p0, vi p1, vi ((own_sys p0)), vi ((own_sys (own_u8 p0))), vi 1, vi ((p1 &&& (255 : Int32))), vi (((own_u8 p1) &&& (255 : Int32))), vi 1, vr b3, .unset, .unset, .unset, .unset] [(.ref b14), (.ref b13), (.ref b13)])) rfl hml.symm (argsL := [(.ref b14)]) (rest := [(.ref b13)]) (lenOf pd_5 rfl) rfl rfl (own_wr rfl rfl) (hb hby at_111)
  obtain ⟨b1_6_4_17, k1_6_4_17, rfl, N17q, K17, Q17_0, Q17_1, Q17_2, Q17_3⟩ := hQ17
  have N17 := Fr.app N16 N17q
  have Ck9 := own_chK K17 (naF (Ck8.2 _ (Ck7.2 _ (Ck6.2 _ (Ck5.2 _ (Safe.new ge_b13))))) (naF (Ck8.2 _ (Ck7.2 _ (Ck6.2 _ (Ck5.2 _ (Safe.new ge_b13))))) na0)) Ah9.1
  have Ah10 := Ah9.trans Ck9.1
  obtain ⟨T23, h23, k23, X23, e23, E23, A23, st23⟩ := newP (aty := .char) X17 hx hZ (w7 hw) rfl (g := (mkF m 117 #[vi p0, vi p1, vi ((own_sys p0)), vi ((own_sys (own_u8 p0))), vi 1, vi ((p1 &&& (255 : Int32))), vi (((own_u8 p1) &&& (255 : Int32))), vi 1, vr b3, vr b13, .unset, .unset, .unset] [(.int 5)])) rfl (hb hby at_117) rfl (by decide) (cap := 5) (by decide) (by decide) (by decide) (by decide)
  obtain ⟨b23, g23⟩ : ∃ z, z = T17.heap.size := ⟨_, rfl⟩
  rw [← g23] at A23 st23
  have ge_b23 : T17.heap.size ≤ b23 := Nat.le_of_eq g23.symm
  have K23 := KL.ofE E23
  have Ck10 := own_chK K23 na0 Ah10.1
  have Ah11 := Ah10.trans Ck10.1
  have V23 : Arv Z h23 b23 k23 .char 5 [z0, z0, z0, z0, z0] z0 := (Arv.new A23 (by decide)).pad (pad_rep [] z0 5)
  obtain ⟨T24, h24, X24, e24, W24, V24, st24⟩ := own_astC X23 hx hZ e23 V23 (j := 0) (by decide) 0 rfl (Nat.le_of_ble_eq_true rfl) (g := (mkF m 122 #[vi p0, vi p1, vi ((own_sys p0)), vi ((own_sys (own_u8 p0))), vi 1, vi ((p1 &&& (255 : Int32))), vi (((own_u8 p1) &&& (255 : Int32))), vi 1, vr b3, vr b13, .unset, .unset, .unset] [(.int (own_sys p0)), z0, (.ref b23), (.ref b23)])) rfl rfl (hb hby at_122)
  rw [show (nar .char (own_sys p0)) = (own_sys p0) from (own_c2c (own_sysa _) (own_sysb _))] at V24
  have sz_0_10 := (Nat.le_trans sz_0_9 K17.1)
  have K24 := KL.ofW W24
  have Ck11 := own_chK K24 (naF (Ck10.2 _ (Safe.new ge_b23)) na0) Ah11.1
  have Ah12 := Ah11.trans Ck11.1
  replace V24 : Arv Z h24 b23 k23 .char 5 [(.int (own_sys p0)), z0, z0, z0, z0] z0 := V24
  have N24 := Fr.snoc X24 N17 (Nat.le_trans Z0 (Nat.le_trans sz_0_10 ge_b23))
  obtain ⟨T25, h25, X25, e25, W25, V25, st25⟩ := own_astC X24 hx hZ e24 V24 (j := 1) (by decide) 1 rfl (Nat.le_of_ble_eq_true rfl) (g := (mkF m 126 #[vi p0, vi p1, vi ((own_sys p0)), vi ((own_sys (own_u8 p0))), vi 1, vi ((p1 &&& (255 : Int32))), vi (((own_u8 p1) &&& (255 : Int32))), vi 1, vr b3, vr b13, .unset, .unset, .unset] [(.int (own_sys (own_u8 p0))), (.int 1), (.ref b23), (.ref b23)])) rfl rfl (hb hby at_126)
  rw [show (nar .char (own_sys (own_u8 p0))) = (own_sys (own_u8 p0)) from (own_c2c (own_sysa _) (own_sysb _))] at V25
  have K25 := KL.ofW W25
  have Ck12 := own_chK K25 (naF (Ck11.2 _ (Ck10.2 _ (Safe.new ge_b23))) na0) Ah12.1
  have Ah13 := Ah12.trans Ck12.1
  replace V25 : Arv Z h25 b23 k23 .char 5 [(.int (own_sys p0)), (.int (own_sys (own_u8 p0))), z0, z0, z0] z0 := V25
  have N25 := Fr.snoc X25 N24 (Nat.le_trans Z0 (Nat.le_trans sz_0_10 ge_b23))
  obtain ⟨T26, h26, X26, e26, W26, V26, st26⟩ := own_astC X25 hx hZ e25 V25 (j := 2) (by decide) 2 rfl (Nat.le_of_ble_eq_true rfl) (g := (mkF m 131 #[vi p0, vi p1, vi ((own_sys p0)), vi ((own_sys (own_u8 p0))), vi 1, vi ((p1 &&& (255 : Int32))), vi (((own_u8 p1) &&& (255 : Int32))), vi 1, vr b3, vr b13, .unset, .unset, .unset] [(.int 58), (.int 2), (.ref b23), (.ref b23)])) rfl rfl (hb hby at_131)
  rw [show (nar .char 58) = (58 : Int32) from (by decide : (nar .char 58) = (58 : Int32))] at V26
  have K26 := KL.ofW W26
  have Ck13 := own_chK K26 (naF (Ck12.2 _ (Ck11.2 _ (Ck10.2 _ (Safe.new ge_b23)))) na0) Ah13.1
  have Ah14 := Ah13.trans Ck13.1
  replace V26 : Arv Z h26 b23 k23 .char 5 [(.int (own_sys p0)), (.int (own_sys (own_u8 p0))), (.int 58), z0, z0] z0 := V26
  have N26 := Fr.snoc X26 N25 (Nat.le_trans Z0 (Nat.le_trans sz_0_10 ge_b23))
  obtain ⟨T27, h27, X27, e27, W27, V27, st27⟩ := own_astC X26 hx hZ e26 V26 (j := 3) (by decide) 3 rfl (Nat.le_of_ble_eq_true rfl) (g := (mkF m 136 #[vi p0, vi p1, vi ((own_sys p0)), vi ((own_sys (own_u8 p0))), vi 1, vi ((p1 &&& (255 : Int32))), vi (((own_u8 p1) &&& (255 : Int32))), vi 1, vr b3, vr b13, .unset, .unset, .unset] [(.int (p1 &&& (255 : Int32))), (.int 3), (.ref b23), (.ref b23)])) rfl rfl (hb hby at_136)
  rw [show (nar .char (p1 &&& (255 : Int32))) = (p1 &&& (255 : Int32)) from (i2c_mask _)] at V27
  have K27 := KL.ofW W27
  have Ck14 := own_chK K27 (naF (Ck13.2 _ (Ck12.2 _ (Ck11.2 _ (Ck10.2 _ (Safe.new ge_b23))))) na0) Ah14.1
  have Ah15 := Ah14.trans Ck14.1
  replace V27 : Arv Z h27 b23 k23 .char 5 [(.int (own_sys p0)), (.int (own_sys (own_u8 p0))), (.int 58), (.int (p1 &&& (255 : Int32))), z0] z0 := V27
  have N27 := Fr.snoc X27 N26 (Nat.le_trans Z0 (Nat.le_trans sz_0_10 ge_b23))
  obtain ⟨T28, h28, X28, e28, W28, V28, st28⟩ := own_astC X27 hx hZ e27 V27 (j := 4) (by decide) 4 rfl (Nat.le_of_ble_eq_true rfl) (g := (mkF m 141 #[vi p0, vi p1, vi ((own_sys p0)), vi ((own_sys (own_u8 p0))), vi 1, vi ((p1 &&& (255 : Int32))), vi (((own_u8 p1) &&& (255 : Int32))), vi 1, vr b3, vr b13, .unset, .unset, .unset] [(.int ((own_u8 p1) &&& (255 : Int32))), (.int 4), (.ref b23), (.ref b23)])) rfl rfl (hb hby at_141)
  rw [show (nar .char ((own_u8 p1) &&& (255 : Int32))) = ((own_u8 p1) &&& (255 : Int32)) from (i2c_mask _)] at V28
  have K28 := KL.ofW W28
  have Ck15 := own_chK K28 (naF (Ck14.2 _ (Ck13.2 _ (Ck12.2 _ (Ck11.2 _ (Ck10.2 _ (Safe.new ge_b23)))))) na0) Ah15.1
  have Ah16 := Ah15.trans Ck15.1
  replace V28 : Arv Z h28 b23 k23 .char 5 [(.int (own_sys p0)), (.int (own_sys (own_u8 p0))), (.int 58), (.int (p1 &&& (255 : Int32))), (.int ((own_u8 p1) &&& (255 : Int32)))] z0 := V28
  have N28 := Fr.snoc X28 N27 (Nat.le_trans Z0 (Nat.le_trans sz_0_10 ge_b23))
  obtain ⟨T29, h29, X29, e29, E29, A29, D29, -, st29⟩ := newO X28 hx hZ hown (w34 hw) (w35 hw) (w36 hw) e28 (g := (mkF m 296 #[vi p0, vi p1, vi ((own_sys p0)), vi ((own_sys (own_u8 p0))), vi 1, vi ((p1 &&& (255 : Int32))), vi (((own_u8 p1) &&& (255 : Int32))), vi 1, vr b3, vr b13, vr b23, .unset, .unset] [])) rfl (hb hby at_296) (by decide) (by decide)
  obtain ⟨b29, g29⟩ : ∃ z, z = h28.size := ⟨_, rfl⟩
  rw [← g29] at A29 D29 st29
  have ge_b29 : h28.size ≤ b29 := Nat.le_of_eq g29.symm
  have K29 := KL.ofE E29
  have Ck16 := own_chK K29 na0 Ah16.1
  have Ah17 := Ah16.trans Ck16.1
  have F_b29_system : Fd2 Z h29 b29 .null := D29 (Or.inr (w102 hw)) (ty := (.object "java/lang/String")) (by decide)
  have F_b29_id : Fd3 Z h29 b29 .null := D29 (Or.inr (w104 hw)) (ty := (.object "java/lang/String")) (by decide)
  have f31 := (kExa K29 (kExa K28 (kExa K27 (kExa K26 (kExa K25 (kExa K24 (kExa K23 (kExa K17 (kExa K16 (kExa K15 (kExa K14 (kExa K13 (kExa K7 f9)))))))))))))
  have sz_1_3 := (Nat.le_trans K4.1 K5.1)
  have sz_1_4 := (Nat.le_trans sz_1_3 K6.1)
  have sz_1_5 := (Nat.le_trans sz_1_4 K7.1)
  have sz_1_6 := (Nat.le_trans sz_1_5 K13.1)
  have sz_1_7 := (Nat.le_trans sz_1_6 K14.1)
  have sz_1_8 := (Nat.le_trans sz_1_7 K15.1)
  have sz_1_9 := (Nat.le_trans sz_1_8 K16.1)
  have sz_1_10 := (Nat.le_trans sz_1_9 K17.1)
  have f32 := (kFld K29 (kFld K28 (kFld K27 (kFld K26 (kFld K25 (kFld K24 (kFld K23 (kFld K17 (kFld K16 (kFld K15 (kFld K14 (kFld K13 Q7_2 nw0) nw0) (nwS (Or.inl (lt_ne (Nat.lt_of_lt_of_le lt_b3 sz_1_6) ge_b14)) nw0)) (nwS (Or.inl (lt_ne (Nat.lt_of_lt_of_le lt_b3 sz_1_6) ge_b14)) nw0)) (nwS (Or.inl (lt_ne (Nat.lt_of_lt_of_le lt_b3 sz_1_5) ge_b13)) (nwS (Or.inl (lt_ne (Nat.lt_of_lt_of_le lt_b3 sz_1_5) ge_b13)) nw0))) nw0) (nwS (Or.inl (lt_ne (Nat.lt_of_lt_of_le lt_b3 sz_1_10) ge_b23)) nw0)) (nwS (Or.inl (lt_ne (Nat.lt_of_lt_of_le lt_b3 sz_1_10) ge_b23)) nw0)) (nwS (Or.inl (lt_ne (Nat.lt_of_lt_of_le lt_b3 sz_1_10) ge_b23)) nw0)) (nwS (Or.inl (lt_ne (Nat.lt_of_lt_of_le lt_b3 sz_1_10) ge_b23)) nw0)) (nwS (Or.inl (lt_ne (Nat.lt_of_lt_of_le lt_b3 sz_1_10) ge_b23)) nw0)) nw0)
  have lt_b1_6_4_7 : b1_6_4_7 < T7.heap.size := Arv.lt Q7_3
  have sz_5_7 := (Nat.le_trans K13.1 K14.1)
  have sz_5_8 := (Nat.le_trans sz_5_7 K15.1)
  have sz_5_9 := (Nat.le_trans sz_5_8 K16.1)
  have sz_5_10 := (Nat.le_trans sz_5_9 K17.1)
  have f33 := (kArv K29 (kArv K28 (kArv K27 (kArv K26 (kArv K25 (kArv K24 (kArv K23 (kArv K17 (kArv K16 (kArv K15 (kArv K14 (kArv K13 Q7_3 na0) na0) (naN (Ne.symm (lt_ne (Nat.lt_of_lt_of_le lt_b1_6_4_7 K13.1) ge_b14)) na0)) (naN (Ne.symm (lt_ne (Nat.lt_of_lt_of_le lt_b1_6_4_7 K13.1) ge_b14)) na0)) (naN (Ne.symm (lt_ne lt_b1_6_4_7 ge_b13)) (naN (Ne.symm (lt_ne lt_b1_6_4_7 ge_b13)) na0))) na0) (naN (Ne.symm (lt_ne (Nat.lt_of_lt_of_le lt_b1_6_4_7 sz_5_10) ge_b23)) na0)) (naN (Ne.symm (lt_ne (Nat.lt_of_lt_of_le lt_b1_6_4_7 sz_5_10) ge_b23)) na0)) (naN (Ne.symm (lt_ne (Nat.lt_of_lt_of_le lt_b1_6_4_7 sz_5_10) ge_b23)) na0)) (naN (Ne.symm (lt_ne (Nat.lt_of_lt_of_le lt_b1_6_4_7 sz_5_10) ge_b23)) na0)) (naN (Ne.symm (lt_ne (Nat.lt_of_lt_of_le lt_b1_6_4_7 sz_5_10) ge_b23)) na0)) na0)
  have f34 := (kFld K29 (kFld K28 (kFld K27 (kFld K26 (kFld K25 (kFld K24 (kFld K23 (kFld K17 (kFld K16 (kFld K15 (kFld K14 (kFld K13 Q7_1 nw0) nw0) (nwS (Or.inl (lt_ne (Nat.lt_of_lt_of_le lt_b3 sz_1_6) ge_b14)) nw0)) (nwS (Or.inl (lt_ne (Nat.lt_of_lt_of_le lt_b3 sz_1_6) ge_b14)) nw0)) (nwS (Or.inl (lt_ne (Nat.lt_of_lt_of_le lt_b3 sz_1_5) ge_b13)) (nwS (Or.inl (lt_ne (Nat.lt_of_lt_of_le lt_b3 sz_1_5) ge_b13)) nw0))) nw0) (nwS (Or.inl (lt_ne (Nat.lt_of_lt_of_le lt_b3 sz_1_10) ge_b23)) nw0)) (nwS (Or.inl (lt_ne (Nat.lt_of_lt_of_le lt_b3 sz_1_10) ge_b23)) nw0)) (nwS (Or.inl (lt_ne (Nat.lt_of_lt_of_le lt_b3 sz_1_10) ge_b23)) nw0)) (nwS (Or.inl (lt_ne (Nat.lt_of_lt_of_le lt_b3 sz_1_10) ge_b23)) nw0)) (nwS (Or.inl (lt_ne (Nat.lt_of_lt_of_le lt_b3 sz_1_10) ge_b23)) nw0)) nw0)
  have f35 := (kOld K29 (kOld K28 (kOld K27 (kOld K26 (kOld K25 (kOld K24 (kOld K23 (kOld K17 f21 (naS (P := fun w => n0 ≤ w.1) (Nat.le_trans Z0 (Nat.le_trans sz_0_5 ge_b13)) (naS (P := fun w => n0 ≤ w.1) (Nat.le_trans Z0 (Nat.le_trans sz_0_5 ge_b13)) na0))) na0) (naS (P := fun w => n0 ≤ w.1) (Nat.le_trans Z0 (Nat.le_trans sz_0_10 ge_b23)) na0)) (naS (P := fun w => n0 ≤ w.1) (Nat.le_trans Z0 (Nat.le_trans sz_0_10 ge_b23)) na0)) (naS (P := fun w => n0 ≤ w.1) (Nat.le_trans Z0 (Nat.le_trans sz_0_10 ge_b23)) na0)) (naS (P := fun w => n0 ≤ w.1) (Nat.le_trans Z0 (Nat.le_trans sz_0_10 ge_b23)) na0)) (naS (P := fun w => n0 ≤ w.1) (Nat.le_trans Z0 (Nat.le_trans sz_0_10 ge_b23)) na0)) na0)
  have f36 := (kExa K29 (kExa K28 (kExa K27 (kExa K26 (kExa K25 (kExa K24 (kExa K23 (kExa K17 f19))))))))
  have sz_6_8 := (Nat.le_trans K14.1 K15.1)
  have sz_6_9 := (Nat.le_trans sz_6_8 K16.1)
  have sz_6_10 := (Nat.le_trans sz_6_9 K17.1)
  have f37 := (kFld K29 (kFld K28 (kFld K27 (kFld K26 (kFld K25 (kFld K24 (kFld K23 Q17_2 nw0) (nwS (Or.inl (lt_ne (Nat.lt_of_lt_of_le lt_b13 sz_6_10) ge_b23)) nw0)) (nwS (Or.inl (lt_ne (Nat.lt_of_lt_of_le lt_b13 sz_6_10) ge_b23)) nw0)) (nwS (Or.inl (lt_ne (Nat.lt_of_lt_of_le lt_b13 sz_6_10) ge_b23)) nw0)) (nwS (Or.inl (lt_ne (Nat.lt_of_lt_of_le lt_b13 sz_6_10) ge_b23)) nw0)) (nwS (Or.inl (lt_ne (Nat.lt_of_lt_of_le lt_b13 sz_6_10) ge_b23)) nw0)) nw0)
  have lt_b1_6_4_17 : b1_6_4_17 < T17.heap.size := Arv.lt Q17_3
  have f38 := (kArv K29 (kArv K28 (kArv K27 (kArv K26 (kArv K25 (kArv K24 (kArv K23 Q17_3 na0) (naN (Ne.symm (lt_ne lt_b1_6_4_17 ge_b23)) na0)) (naN (Ne.symm (lt_ne lt_b1_6_4_17 ge_b23)) na0)) (naN (Ne.symm (lt_ne lt_b1_6_4_17 ge_b23)) na0)) (naN (Ne.symm (lt_ne lt_b1_6_4_17 ge_b23)) na0)) (naN (Ne.symm (lt_ne lt_b1_6_4_17 ge_b23)) na0)) na0)
  have sz_0_11 := (Nat.le_trans sz_0_10 K23.1)
  have sz_0_12 := (Nat.le_trans sz_0_11 K24.1)
  have sz_0_13 := (Nat.le_trans sz_0_12 K25.1)
  have sz_0_14 := (Nat.le_trans sz_0_13 K26.1)
  have sz_0_15 := (Nat.le_trans sz_0_14 K27.1)
  have sz_0_16 := (Nat.le_trans sz_0_15 K28.1)
  have sz_0_17 := (Nat.le_trans sz_0_16 K29.1)
  obtain ⟨_, T30, L30, X30, hS30, hk30, hZ30, hown30, hQ30, hC30, st30⟩ := own_Hinit X29 hx hZ rfl hown (w37 hw) (w38 hw) (w36 hw) (w39 hw) (by decide) (r105__init_ l Z a0 hw [] b29 b3 b13 b1_6_4_7 ((own_sys p0).toInt8.toInt32) ((own_sys (own_u8 p0)).toInt8.toInt32) k1_6_4_7 cs b1_6_4_17 ((p1 &&& (255 : Int32)).toInt8.toInt32) (((own_u8 p1) &&& (255 : Int32)).toInt8.toInt32) k1_6_4_17 h29 n0 (Nat.le_trans Z0 sz_0_17) f31 f32 f33 sCS f34 f35 hcs (own_sysn _) (own_sysn _) f36 f37 f38 F_b29_system A29 (Nat.le_trans Z0 (Nat.le_trans sz_0_16 ge_b29)) F_b29_id) e29 (W := 1) (by decide) (g := (mkF m 304 #[vi p0, vi p1, vi ((own_sys p0)), vi ((own_sys (own_u8 p0))), vi 1, vi ((p1 &&& (255 : Int32))), vi (((own_u8 p1) &&& (255 : Int32))), vi 1, vr b3, vr b13, vr b23, .unset, .unset] [(.ref b13), (.ref b3), (.ref b29), (.ref b29)])) rfl hml.symm (argsL := [(.ref b3), (.ref b13)]) (rest := [(.ref b29)]) (lenOf pd_15 rfl) rfl rfl (own_wr rfl rfl) (hb hby at_304) hS0 (Nat.le_trans hk0 sz_0_17) (own_EW hw) Ah17.1 sf0
  obtain ⟨rfl, N30q, K30, Q30_0, Q30_1⟩ := hQ30
  have N30 := Fr.app N28 N30q
  have Ah18 := Ah17.trans hC30
  have f40 := (kOld K30 f35 (naS (P := fun w => n0 ≤ w.1) (Nat.le_trans Z0 (Nat.le_trans sz_0_16 ge_b29)) (naS (P := fun w => n0 ≤ w.1) (Nat.le_trans Z0 (Nat.le_trans sz_0_16 ge_b29)) na0)))
  have f41 := (kExa K30 f31)
  have sz_1_11 := (Nat.le_trans sz_1_10 K23.1)
  have sz_1_12 := (Nat.le_trans sz_1_11 K24.1)
  have sz_1_13 := (Nat.le_trans sz_1_12 K25.1)
  have sz_1_14 := (Nat.le_trans sz_1_13 K26.1)
  have sz_1_15 := (Nat.le_trans sz_1_14 K27.1)
  have sz_1_16 := (Nat.le_trans sz_1_15 K28.1)
  have f42 := (kFld K30 f32 (nwS (Or.inl (lt_ne (Nat.lt_of_lt_of_le lt_b3 sz_1_16) ge_b29)) (nwS (Or.inl (lt_ne (Nat.lt_of_lt_of_le lt_b3 sz_1_16) ge_b29)) nw0)))
  have sz_5_11 := (Nat.le_trans sz_5_10 K23.1)
  have sz_5_12 := (Nat.le_trans sz_5_11 K24.1)
  have sz_5_13 := (Nat.le_trans sz_5_12 K25.1)
  have sz_5_14 := (Nat.le_trans sz_5_13 K26.1)
  have sz_5_15 := (Nat.le_trans sz_5_14 K27.1)
  have sz_5_16 := (Nat.le_trans sz_5_15 K28.1)
  have f43 := (kArv K30 f33 (naN (Ne.symm (lt_ne (Nat.lt_of_lt_of_le lt_b1_6_4_7 sz_5_16) ge_b29)) (naN (Ne.symm (lt_ne (Nat.lt_of_lt_of_le lt_b1_6_4_7 sz_5_16) ge_b29)) na0)))
  have f44 := (kFld K30 f34 (nwS (Or.inl (lt_ne (Nat.lt_of_lt_of_le lt_b3 sz_1_16) ge_b29)) (nwS (Or.inl (lt_ne (Nat.lt_of_lt_of_le lt_b3 sz_1_16) ge_b29)) nw0)))
  have f45 := (kExa K30 f36)
  have sz_6_11 := (Nat.le_trans sz_6_10 K23.1)
  have sz_6_12 := (Nat.le_trans sz_6_11 K24.1)
  have sz_6_13 := (Nat.le_trans sz_6_12 K25.1)
  have sz_6_14 := (Nat.le_trans sz_6_13 K26.1)
  have sz_6_15 := (Nat.le_trans sz_6_14 K27.1)
  have sz_6_16 := (Nat.le_trans sz_6_15 K28.1)
  have f46 := (kFld K30 f37 (nwS (Or.inl (lt_ne (Nat.lt_of_lt_of_le lt_b13 sz_6_16) ge_b29)) (nwS (Or.inl (lt_ne (Nat.lt_of_lt_of_le lt_b13 sz_6_16) ge_b29)) nw0)))
  have sz_10_12 := (Nat.le_trans K23.1 K24.1)
  have sz_10_13 := (Nat.le_trans sz_10_12 K25.1)
  have sz_10_14 := (Nat.le_trans sz_10_13 K26.1)
  have sz_10_15 := (Nat.le_trans sz_10_14 K27.1)
  have sz_10_16 := (Nat.le_trans sz_10_15 K28.1)
  have f47 := (kArv K30 f38 (naN (Ne.symm (lt_ne (Nat.lt_of_lt_of_le lt_b1_6_4_17 sz_10_16) ge_b29)) (naN (Ne.symm (lt_ne (Nat.lt_of_lt_of_le lt_b1_6_4_17 sz_10_16) ge_b29)) na0)))
  have f48 := (kFld K30 (kFld K29 (kFld K28 (kFld K27 (kFld K26 (kFld K25 (kFld K24 (kFld K23 Q17_1 nw0) (nwS (Or.inl (lt_ne (Nat.lt_of_lt_of_le lt_b13 sz_6_10) ge_b23)) nw0)) (nwS (Or.inl (lt_ne (Nat.lt_of_lt_of_le lt_b13 sz_6_10) ge_b23)) nw0)) (nwS (Or.inl (lt_ne (Nat.lt_of_lt_of_le lt_b13 sz_6_10) ge_b23)) nw0)) (nwS (Or.inl (lt_ne (Nat.lt_of_lt_of_le lt_b13 sz_6_10) ge_b23)) nw0)) (nwS (Or.inl (lt_ne (Nat.lt_of_lt_of_le lt_b13 sz_6_10) ge_b23)) nw0)) nw0) (nwS (Or.inl (lt_ne (Nat.lt_of_lt_of_le lt_b13 sz_6_16) ge_b29)) (nwS (Or.inl (lt_ne (Nat.lt_of_lt_of_le lt_b13 sz_6_16) ge_b29)) nw0)))
  have sz_0_18 := (Nat.le_trans sz_0_17 K30.1)
  have f49 := (kExa K30 A29)
  obtain ⟨_, T39, L39, X39, hS39, hk39, hZ39, hown39, hQ39, hC39, st39⟩ := own_Hvirtual X30 hx hZ30 hown30 (w105 hw) (w106 hw) (nfS hZ30 (w108 hw)) (w108 hw) (w107 hw) (w36 hw) (w109 hw) (by decide) (r106_toString l Z a0 hw [] b29 cs b3 b1_6_4_7 ((own_sys p0).toInt8.toInt32) ((own_sys (own_u8 p0)).toInt8.toInt32) k1_6_4_7 b13 b1_6_4_17 ((p1 &&& (255 : Int32)).toInt8.toInt32) (((own_u8 p1) &&& (255 : Int32)).toInt8.toInt32) k1_6_4_17 T30.heap n0 (Nat.le_trans Z0 sz_0_18) sCS f40 hcs Q30_0 f41 f42 f43 f44 Q30_1 f45 f46 f47 f48) rfl f49 (W := 0) (by decide) (g := (mkF m 311 #[vi p0, vi p1, vi ((own_sys p0)), vi ((own_sys (own_u8 p0))), vi 1, vi ((p1 &&& (255 : Int32))), vi (((own_u8 p1) &&& (255 : Int32))), vi 1, vr b3, vr b13, vr b23, vr b29, .unset] [(.ref b29)])) rfl hml.symm (argsL := []) (rest := []) (lenOf pd_27 rfl) rfl rfl (own_wr rfl rfl) (hb hby at_311) hS30 hk30 (own_EW hw) Ah18.1 sf0
  obtain ⟨b1_43_39, b2_6_13_8_9_43_39, k2_6_13_8_9_43_39, rfl, N39q, K39, Q39_0, Q39_1, Q39_2, Q39_3, Q39_4, Q39_5, Q39_6⟩ := hQ39
  have N39 := Fr.app N30 N39q
  have Ah19 := Ah18.trans hC39
  obtain ⟨T52, h52, X52, e52, E52, A52, D52, -, st52⟩ := newO X39 hx hZ39 hown39 (w4 hw) (w5 hw) (w6 hw) rfl (g := (mkF m 318 #[vi p0, vi p1, vi ((own_sys p0)), vi ((own_sys (own_u8 p0))), vi 1, vi ((p1 &&& (255 : Int32))), vi (((own_u8 p1) &&& (255 : Int32))), vi 1, vr b3, vr b13, vr b23, vr b29, vr b1_43_39] [(.ref b1_43_39)])) rfl (hb hby at_318) (by decide) (by decide)
  obtain ⟨b52, g52⟩ : ∃ z, z = T39.heap.size := ⟨_, rfl⟩
  rw [← g52] at A52 D52 st52
  have ge_b52 : T39.heap.size ≤ b52 := Nat.le_of_eq g52.symm
  have K52 := KL.ofE E52
  have Ck19 := own_chK K52 na0 Ah19.1
  have Ah20 := Ah19.trans Ck19.1
  have F_b52_coder : Fd0 Z h52 b52 z0 := D52 (Or.inr (w31 hw)) (ty := .byte) (by decide)
  have F_b52_value : Fd1 Z h52 b52 .null := D52 (Or.inr (w33 hw)) (ty := (.array .byte)) (by decide)
  have lt_b23 : b23 < h23.size := Arv.lt V23
  have sz_11_13 := (Nat.le_trans K24.1 K25.1)
  have sz_11_14 := (Nat.le_trans sz_11_13 K26.1)
  have sz_11_15 := (Nat.le_trans sz_11_14 K27.1)
  have sz_11_16 := (Nat.le_trans sz_11_15 K28.1)
  have f54 := (kArv K52 (kArv K39 (kArv K30 (kArv K29 V28 na0) (naN (Ne.symm (lt_ne (Nat.lt_of_lt_of_le lt_b23 sz_11_16) ge_b29)) (naN (Ne.symm (lt_ne (Nat.lt_of_lt_of_le lt_b23 sz_11_16) ge_b29)) na0))) na0) na0)
  have f55 := (kOld K52 (kOld K39 f40 na0) na0)
  have sz_0_19 := (Nat.le_trans sz_0_18 K39.1)
  have sz_0_20 := (Nat.le_trans sz_0_19 K52.1)
  obtain ⟨_, T53, L53, X53, hQ53, st53⟩ := own_init X52 hx hZ39 rfl hown39 (w8 hw) (w9 hw) (w6 hw) (w10 hw) (by decide) (r121__init_ l Z a0 hw [] b52 b23 (own_sys p0) (own_sys (own_u8 p0)) (58 : Int32) (p1 &&& (255 : Int32)) ((own_u8 p1) &&& (255 : Int32)) k23 cs h52 n0 (Nat.le_trans Z0 sz_0_20) f54 sCS F_b52_coder A52 F_b52_value f55 hcs (own_sysb _) (own_sysb _) (by decide) (own_m255b _) (own_m255b _) (Nat.le_trans Z0 (Nat.le_trans sz_0_19 ge_b52))) e52 (W := 2) (by decide) (g := (mkF m 324 #[vi p0, vi p1, vi ((own_sys p0)), vi ((own_sys (own_u8 p0))), vi 1, vi ((p1 &&& (255 : Int32))), vi (((own_u8 p1) &&& (255 : Int32))), vi 1, vr b3, vr b13, vr b23, vr b29, vr b1_43_39] [(.ref b23), (.ref b52), (.ref b52), (.ref b1_43_39)])) rfl hml.symm (argsL := [(.ref b23)]) (rest := [(.ref b52), (.ref b1_43_39)]) (lenOf pd_5 rfl) rfl rfl (own_wr rfl rfl) (hb hby at_324)
  obtain ⟨b1_9_7_53, k1_9_7_53, rfl, N53q, K53, Q53_0, Q53_1, Q53_2, Q53_3⟩ := hQ53
  have N53 := Fr.app N39 N53q
  have Ck20 := own_chK K53 (naF (Ck19.2 _ (Safe.new ge_b52)) (naF (Ck19.2 _ (Safe.new ge_b52)) na0)) Ah20.1
  have Ah21 := Ah20.trans Ck20.1
  have lt_b1_43_39 : b1_43_39 < T39.heap.size := Exa.lt Q39_3
  have f58 := (kExa K53 A52)
  have f59 := (kOld K53 f55 (naS (P := fun w => n0 ≤ w.1) (Nat.le_trans Z0 (Nat.le_trans sz_0_19 ge_b52)) (naS (P := fun w => n0 ≤ w.1) (Nat.le_trans Z0 (Nat.le_trans sz_0_19 ge_b52)) na0)))
  have f60 := (kFld K53 (kFld K52 Q39_4 nw0) (nwS (Or.inl (lt_ne lt_b1_43_39 ge_b52)) (nwS (Or.inl (lt_ne lt_b1_43_39 ge_b52)) nw0)))
  have f61 := (kFld K53 (kFld K52 Q39_5 nw0) (nwS (Or.inl (lt_ne lt_b1_43_39 ge_b52)) (nwS (Or.inl (lt_ne lt_b1_43_39 ge_b52)) nw0)))
  have lt_b2_6_13_8_9_43_39 : b2_6_13_8_9_43_39 < T39.heap.size := Arv.lt Q39_6
  have f62 := (kArv K53 (kArv K52 Q39_6 na0) (naN (Ne.symm (lt_ne lt_b2_6_13_8_9_43_39 ge_b52)) (naN (Ne.symm (lt_ne lt_b2_6_13_8_9_43_39 ge_b52)) na0)))
  have sz_0_21 := (Nat.le_trans sz_0_20 K53.1)
  have f63 := (kExa K53 (kExa K52 Q39_3))
  obtain ⟨_, T57, L57, X57, hQ57, st57⟩ := own_virtual X53 hx hZ39 hown39 (w209 hw) (w210 hw) (nfS hZ39 (w212 hw)) (w212 hw) (w211 hw) (w6 hw) (w213 hw) (by decide) (r126_equals l Z a0 hw [] b1_43_39 b52 cs b2_6_13_8_9_43_39 b1_9_7_53 ((own_sys p0).toInt8.toInt32) ((own_sys (own_u8 p0)).toInt8.toInt32) (58 : Int32) ((p1 &&& (255 : Int32)).toInt8.toInt32) (((own_u8 p1) &&& (255 : Int32)).toInt8.toInt32) k2_6_13_8_9_43_39 ((58 : Int32).toInt8.toInt32) k1_9_7_53 T53.heap n0 (Nat.le_trans Z0 sz_0_21) (lt_ne lt_b1_43_39 ge_b52) f58 sCS f59 hcs f60 Q53_1 f61 Q53_2 f62 Q53_3 (by decide)) rfl f63 (W := 0) (by decide) (g := (mkF m 327 #[vi p0, vi p1, vi ((own_sys p0)), vi ((own_sys (own_u8 p0))), vi 1, vi ((p1 &&& (255 : Int32))), vi (((own_u8 p1) &&& (255 : Int32))), vi 1, vr b3, vr b13, vr b23, vr b29, vr b1_43_39] [(.ref b52), (.ref b1_43_39)])) rfl hml.symm (argsL := [(.ref b52)]) (rest := []) (lenOf pd_29 rfl) rfl rfl (own_wr rfl rfl) (hb hby at_327)
  obtain ⟨rfl, N57q, e57⟩ := hQ57
  have N57 := Fr.app N53 N57q
  have sz_19_21 := (Nat.le_trans K52.1 K53.1)
  refine ⟨T57, _, some (.int 1), _, _, X57, hS39, (by rw [e57]; exact (Nat.le_trans hk39 sz_19_21)), (fun h => by cases h <;> rfl), ?_, (by rw [e57]; exact Ah21), hZ39, fun fs hr => ?_⟩
  · show Q_law n0 _ _
    exact ⟨rfl, N57⟩
  · refine t_iloadN 1 X0.here hx (hb hby at_0) rfl rfl ?_
    refine st1 _ ?_
    refine t_istoreN (pc' := 5) (L' := #[vi p0, vi p1, vi ((own_sys p0)), .unset, .unset, .unset, .unset, .unset, .unset, .unset, .unset, .unset, .unset]) X1.here hx (hb hby at_4) rfl rfl ?_
    refine t_iloadN 6 X1.here hx (hb hby at_5) rfl rfl ?_
    refine t_bipush 8 (r := 8) X1.here hx (hb hby at_6) (by decide) rfl ?_
    refine t_iushr 9 (r := (own_u8 p0)) X1.here hx (hb hby at_8) (Eq.refl (own_u8 p0)) rfl ?_
    refine st2 _ ?_
    refine t_istoreN (pc' := 13) (L' := #[vi p0, vi p1, vi ((own_sys p0)), vi ((own_sys (own_u8 p0))), .unset, .unset, .unset, .unset, .unset, .unset, .unset, .unset, .unset]) X2.here hx (hb hby at_12) rfl rfl ?_
    refine t_iloadN 14 X2.here hx (hb hby at_13) rfl rfl ?_
    refine t_bipush 16 (r := 16) X2.here hx (hb hby at_14) (by decide) rfl ?_
    refine t_iushr 17 (r := (own_u16 p0)) X2.here hx (hb hby at_16) (Eq.refl (own_u16 p0)) rfl ?_
    refine t_iconst 18 (r := 1) X2.here hx (hb hby at_17) (by decide) rfl ?_
    refine t_iand 19 X2.here hx (hb hby at_18) rfl rfl ?_
    refine t_ifNo 22 X2.here hx (hb hby at_19) ((if0 _ _).trans (feq hp0).1) rfl ?_
    refine t_iconst 23 (r := 1) X2.here hx (hb hby at_22) (by decide) rfl ?_
    refine t_goto (pc := 23) 27 X2.here hx (hb hby at_23) (by decide) (by decide) ?_
    refine t_istore (pc' := 29) (L' := #[vi p0, vi p1, vi ((own_sys p0)), vi ((own_sys (own_u8 p0))), vi 1, .unset, .unset, .unset, .unset, .unset, .unset, .unset, .unset]) X2.here hx (hb hby at_27) rfl rfl ?_
    refine t_iloadN 30 X2.here hx (hb hby at_29) rfl rfl ?_
    refine t_sipush 33 (r := 255) X2.here hx (hb hby at_30) (by decide) rfl ?_
    refine t_iand 34 X2.here hx (hb hby at_33) rfl rfl ?_
    refine t_i2c 35 (r := (p1 &&& (255 : Int32))) X2.here hx (hb hby at_34) (i2c_mask _) rfl ?_
    refine t_istore (pc' := 37) (L' := #[vi p0, vi p1, vi ((own_sys p0)), vi ((own_sys (own_u8 p0))), vi 1, vi ((p1 &&& (255 : Int32))), .unset, .unset, .unset, .unset, .unset, .unset, .unset]) X2.here hx (hb hby at_35) rfl rfl ?_
    refine t_iloadN 38 X2.here hx (hb hby at_37) rfl rfl ?_
    refine t_bipush 40 (r := 8) X2.here hx (hb hby at_38) (by decide) rfl ?_
    refine t_iushr 41 (r := (own_u8 p1)) X2.here hx (hb hby at_40) (Eq.refl (own_u8 p1)) rfl ?_
    refine t_sipush 44 (r := 255) X2.here hx (hb hby at_41) (by decide) rfl ?_
    refine t_iand 45 X2.here hx (hb hby at_44) rfl rfl ?_
    refine t_i2c 46 (r := ((own_u8 p1) &&& (255 : Int32))) X2.here hx (hb hby at_45) (i2c_mask _) rfl ?_
    refine t_istore (pc' := 48) (L' := #[vi p0, vi p1, vi ((own_sys p0)), vi ((own_sys (own_u8 p0))), vi 1, vi ((p1 &&& (255 : Int32))), vi (((own_u8 p1) &&& (255 : Int32))), .unset, .unset, .unset, .unset, .unset, .unset]) X2.here hx (hb hby at_46) rfl rfl ?_
    refine t_iloadN 49 X2.here hx (hb hby at_48) rfl rfl ?_
    refine t_bipush 51 (r := 16) X2.here hx (hb hby at_49) (by decide) rfl ?_
    refine t_iushr 52 (r := (own_u16 p1)) X2.here hx (hb hby at_51) (Eq.refl (own_u16 p1)) rfl ?_
    refine t_iconst 53 (r := 1) X2.here hx (hb hby at_52) (by decide) rfl ?_
    refine t_iand 54 X2.here hx (hb hby at_53) rfl rfl ?_
    refine t_ifNo 57 X2.here hx (hb hby at_54) ((if0 _ _).trans (feq hp1).1) rfl ?_
    refine t_iconst 58 (r := 1) X2.here hx (hb hby at_57) (by decide) rfl ?_
    refine t_goto (pc := 58) 62 X2.here hx (hb hby at_58) (by decide) (by decide) ?_
    refine t_istore (pc' := 64) (L' := #[vi p0, vi p1, vi ((own_sys p0)), vi ((own_sys (own_u8 p0))), vi 1, vi ((p1 &&& (255 : Int32))), vi (((own_u8 p1) &&& (255 : Int32))), vi 1, .unset, .unset, .unset, .unset, .unset]) X2.here hx (hb hby at_62) rfl rfl ?_
    refine t_iload 66 X2.here hx (hb hby at_64) rfl rfl ?_
    refine t_ifNo 69 X2.here hx (hb hby at_66) (by decide) rfl ?_
    refine st3 _ ?_
    refine t_dup 73 X3.here hx (hb hby at_72) rfl rfl ?_
    refine t_iconst 74 (r := 2) X3.here hx (hb hby at_73) (by decide) rfl ?_
    refine st4 _ ?_
    refine t_dup 77 X4.here hx (hb hby at_76) rfl rfl ?_
    refine t_iconst 78 (r := 0) X4.here hx (hb hby at_77) (by decide) rfl ?_
    refine t_iloadN 79 X4.here hx (hb hby at_78) rfl rfl ?_
    refine st5 _ ?_
    refine t_dup 81 X5.here hx (hb hby at_80) rfl rfl ?_
    refine t_iconst 82 (r := 1) X5.here hx (hb hby at_81) (by decide) rfl ?_
    refine t_iloadN 83 X5.here hx (hb hby at_82) rfl rfl ?_
    refine st6 _ ?_
    refine st7 _ ?_
    refine t_astore (pc' := 89) (L' := #[vi p0, vi p1, vi ((own_sys p0)), vi ((own_sys (own_u8 p0))), vi 1, vi ((p1 &&& (255 : Int32))), vi (((own_u8 p1) &&& (255 : Int32))), vi 1, vr b3, .unset, .unset, .unset, .unset]) X7.here hx (hb hby at_87) rfl rfl rfl ?_
    refine t_iload 91 X7.here hx (hb hby at_89) rfl rfl ?_
    refine t_ifNo 94 X7.here hx (hb hby at_91) (by decide) rfl ?_
    refine st13 _ ?_
    refine t_dup 98 X13.here hx (hb hby at_97) rfl rfl ?_
    refine t_iconst 99 (r := 2) X13.here hx (hb hby at_98) (by decide) rfl ?_
    refine st14 _ ?_
    refine t_dup 102 X14.here hx (hb hby at_101) rfl rfl ?_
    refine t_iconst 103 (r := 0) X14.here hx (hb hby at_102) (by decide) rfl ?_
    refine t_iload 105 X14.here hx (hb hby at_103) rfl rfl ?_
    refine st15 _ ?_
    refine t_dup 107 X15.here hx (hb hby at_106) rfl rfl ?_
    refine t_iconst 108 (r := 1) X15.here hx (hb hby at_107) (by decide) rfl ?_
    refine t_iload 110 X15.here hx (hb hby at_108) rfl rfl ?_
    refine st16 _ ?_
    refine st17 _ ?_
    refine t_astore (pc' := 116) (L' := #[vi p0, vi p1, vi ((own_sys p0)), vi ((own_sys (own_u8 p0))), vi 1, vi ((p1 &&& (255 : Int32))), vi (((own_u8 p1) &&& (255 : Int32))), vi 1, vr b3, vr b13, .unset, .unset, .unset]) X17.here hx (hb hby at_114) rfl rfl rfl ?_
    refine t_iconst 117 (r := 5) X17.here hx (hb hby at_116) (by decide) rfl ?_
    refine st23 _ ?_
    refine t_dup 120 X23.here hx (hb hby at_119) rfl rfl ?_
    refine t_iconst 121 (r := 0) X23.here hx (hb hby at_120) (by decide) rfl ?_
    refine t_iloadN 122 X23.here hx (hb hby at_121) rfl rfl ?_
    refine st24 _ ?_
    refine t_dup 124 X24.here hx (hb hby at_123) rfl rfl ?_
    refine t_iconst 125 (r := 1) X24.here hx (hb hby at_124) (by decide) rfl ?_
    refine t_iloadN 126 X24.here hx (hb hby at_125) rfl rfl ?_
    refine st25 _ ?_
    refine t_dup 128 X25.here hx (hb hby at_127) rfl rfl ?_
    refine t_iconst 129 (r := 2) X25.here hx (hb hby at_128) (by decide) rfl ?_
    refine t_bipush 131 (r := 58) X25.here hx (hb hby at_129) (by decide) rfl ?_
    refine st26 _ ?_
    refine t_dup 133 X26.here hx (hb hby at_132) rfl rfl ?_
    refine t_iconst 134 (r := 3) X26.here hx (hb hby at_133) (by decide) rfl ?_
    refine t_iload 136 X26.here hx (hb hby at_134) rfl rfl ?_
    refine st27 _ ?_
    refine t_dup 138 X27.here hx (hb hby at_137) rfl rfl ?_
    refine t_iconst 139 (r := 4) X27.here hx (hb hby at_138) (by decide) rfl ?_
    refine t_iload 141 X27.here hx (hb hby at_139) rfl rfl ?_
    refine st28 _ ?_
    refine t_astore (pc' := 144) (L' := #[vi p0, vi p1, vi ((own_sys p0)), vi ((own_sys (own_u8 p0))), vi 1, vi ((p1 &&& (255 : Int32))), vi (((own_u8 p1) &&& (255 : Int32))), vi 1, vr b3, vr b13, vr b23, .unset, .unset]) X28.here hx (hb hby at_142) rfl rfl rfl ?_
    refine t_goto (pc := 144) 296 X28.here hx (hb hby at_144) (by decide) (by decide) ?_
    refine st29 _ ?_
    refine t_dup 300 X29.here hx (hb hby at_299) rfl rfl ?_
    refine t_aload 302 X29.here hx (hb hby at_300) rfl rfl rfl ?_
    refine t_aload 304 X29.here hx (hb hby at_302) rfl rfl rfl ?_
    refine st30 _ ?_
    refine t_astore (pc' := 309) (L' := #[vi p0, vi p1, vi ((own_sys p0)), vi ((own_sys (own_u8 p0))), vi 1, vi ((p1 &&& (255 : Int32))), vi (((own_u8 p1) &&& (255 : Int32))), vi 1, vr b3, vr b13, vr b23, vr b29, .unset]) X30.here hx (hb hby at_307) rfl rfl rfl ?_
    refine t_aload 311 X30.here hx (hb hby at_309) rfl rfl rfl ?_
    refine st39 _ ?_
    refine t_astore (pc' := 316) (L' := #[vi p0, vi p1, vi ((own_sys p0)), vi ((own_sys (own_u8 p0))), vi 1, vi ((p1 &&& (255 : Int32))), vi (((own_u8 p1) &&& (255 : Int32))), vi 1, vr b3, vr b13, vr b23, vr b29, vr b1_43_39]) X39.here hx (hb hby at_314) rfl rfl rfl ?_
    refine t_aload 318 X39.here hx (hb hby at_316) rfl rfl rfl ?_
    refine st52 _ ?_
    refine t_dup 322 X52.here hx (hb hby at_321) rfl rfl ?_
    refine t_aload 324 X52.here hx (hb hby at_322) rfl rfl rfl ?_
    refine st53 _ ?_
    refine st57 _ ?_
    exact retN X57 hx (t := .boolean) hret (by simp) (hb hby at_330) hr
set_option maxRecDepth 65536 in
set_option maxHeartbeats 40000000 in
theorem rm_law (l : Launch) (Z : State) (a0 : Array Value) (hw : HW Z a0) (ws : List Jvm.Cond) (p0 p1 : Int32) (h0 : Heap) (n0 : Nat) (Z0 : n0 ≤ h0.size) (cs : Int32) (hcs : ¬ (cs = (0 : Int32))) (sCS : SCS Z cs) (O0 : Old Z n0 h0) :
    MetFree l x (head1 (Jvm.Cond.code x code maxLocals ret :: ws) room_1) (fun a U => a = #[(.int p0), (.int p1)] ∧ Z.Warmed39 U.vm ∧ U.heap = h0 ∧ CHv Z consts_1 U.vm h0 ∧ ∀ x ∈ ([] : List Addr), Safe Z consts_1 U.vm h0 x) (fun _ _ _ _ _ => True) (fun _ U o U' => ∃ v L, o = .returned v ∧ Q_law n0 v L ∧ CHr Z consts_1 U.vm U.heap U'.vm U'.heap ∧ ReturnedEndW U o U' L 48 3328) := by
  by_cases hp0 : ((own_u16 p0) &&& (1 : Int32)) = (0 : Int32)
  · by_cases hp1 : ((own_u16 p1) &&& (1 : Int32)) = (0 : Int32)
    · exact law_tt l Z a0 hw ws p0 p1 cs h0 n0 Z0 hcs hp0 hp1 sCS O0
    · exact law_tf l Z a0 hw ws p0 p1 cs h0 n0 Z0 hcs hp0 hp1 sCS O0
  · by_cases hp1 : ((own_u16 p1) &&& (1 : Int32)) = (0 : Int32)
    · exact law_ft l Z a0 hw ws p0 p1 cs h0 n0 Z0 hcs hp0 hp1 sCS O0
    · exact law_ff l Z a0 hw ws p0 p1 cs h0 n0 Z0 hcs hp0 hp1 sCS O0
set_option maxRecDepth 65536 in
set_option maxHeartbeats 40000000 in
theorem comes_1 {Post : Tables → Env → Array Value → State → Outcome → State → Prop} (hpost : ∀ tb e args s v u, (limb_1_1.after args s (.returned v) u = true ∧ limb_1_2.after args s (.returned v) u = true ∧ True) → ReturnedEndW s (.returned v) u (Jvm.fieldLocs frame_1_writes args s ++ Jvm.arrayLocs frame_1_arrays args s ++ Jvm.staticLocs frame_1_statics s) 48 3328 → Post tb e args s (.returned v) u) :
    ArmFor flags0 classFile x code maxLocals ret World_1 tables_1 room_1 Calls_1 rest_1 Pre_1 Post := by
  intro l hfl _ _ p e ha hc hk s m args below hf hA hF happ hP
  obtain ⟨hcalls, hrest, hpre⟩ := hP
  obtain ⟨-, -, -, hnamed, -, -, -, hat⟩ := (Spec.applies_iff hf).mp happ
  obtain ⟨hg, hn⟩ := and_e (Cond.before_iff.mp (show (Jvm.Cond.and given_1 narrow_1).before args s = true from hpre))
  obtain ⟨g1, g2⟩ := and_e hg
  obtain ⟨g3, g4⟩ := and_e g2
  obtain ⟨w0, w1, rfl⟩ : ∃ w0 w1 : Value, args = #[w0, w1] := by
    have hs : args.size = 2 := by simpa [Cond.value, given_1] using g1
    obtain ⟨L⟩ := args
    match L, hs with
    | [w0, w1], _ => exact ⟨w0, w1, rfl⟩
  have hw := fun d (hd : d ∈ tables_1) => atoms_spec (ws := Jvm.Cond.code x code maxLocals ret :: tables_1) hat d (List.mem_cons_of_mem _ hd)
  have hfit : Fit s := fun {y c} hc i hi => by
    obtain ⟨ha, rfl⟩ := Array.getElem?_eq_some_iff.mp hc
    have q := List.all_eq_true.mp ((Array.all_eq_true_iff_forall_mem.mp hF) _ (Array.getElem_mem ha)) i (List.mem_range.mpr hi)
    simpa [Array.getElem?_eq_getElem hi] using q
  obtain ⟨hsets, hown0⟩ := atoms_of _ (rest_1_c_eq ▸ (show rest_1_c.before _ s = true from hrest))
  have hr0 := Cond.before_iff.mp hown0
  obtain ⟨i0, ei0⟩ := is_v g3
  obtain rfl : w0 = (.int i0) := Option.some.inj ei0
  obtain ⟨i1, ei1⟩ := is_v g4
  obtain rfl : w1 = (.int i1) := Option.some.inj ei1
  obtain ⟨cs, ev_cs⟩ := is_v (Cond.before_iff.mp (hsets _ (List.mem_of_getElem? (i := 1) rfl)))
  have sCS := Sta.start ev_cs (Or.inl (hsets _ (List.mem_of_getElem? (i := 0) rfl)))
  have hcs : ¬ (cs = (0 : Int32)) := by
    have q := Cond.before_iff.mp (hsets _ (List.mem_of_getElem? (i := 2) rfl))
    simp only [Cond.value, ev_cs, Term.int_eval] at q
    simpa using q
  obtain ⟨fm, ev_fm, hfm⟩ := isR_v (Cond.before_iff.mp (hsets _ (List.mem_of_getElem? (i := 8) rfl)))
  have S_SIOOBE_FORMATTER := Sta.start ev_fm (Or.inl (hsets _ (List.mem_of_getElem? (i := 7) rfl)))
  have hCH : CHv s consts_1 s.vm s.heap := CHv.start (own_EW hw) (fun p hp => hcalls.1 p hp) (hsets _ (List.mem_of_getElem? (i := 2) rfl)) (own_wS hw _ (by simp [Bundle.stringAtoms])) (own_wS hw _ (by simp [Bundle.stringAtoms, Bundle.sN]))
  obtain ⟨n, o, h1, h2, h3, _, L, rfl, ⟨rfl, N⟩, -, hq⟩ := rm_law l s _ hw tables_1 i0 i1 s.heap s.heap.size (Nat.le_refl _) cs hcs sCS (Old.start s) p e ha hc hk s m _ below hf ((Spec.applies_iff_loose hf).mp happ).1 ⟨rfl, State.Warmed39.refl s, rfl, hCH, sf0⟩ trivial
  refine ⟨n, _, h1, h2, h3, hpost _ _ _ _ _ _ ⟨Cond.after_iff.mpr rfl, Cond.after_iff.mpr (eq_i res_at (Term.int_eval (1)) rfl), trivial⟩ ⟨hq.1, hq.2.1, hq.2.2.1, (hq.2.2.2.sift fun y hy => Or.inr (N y hy)).mono (by decide) (by decide)⟩⟩
theorem main_1_1 : Claimed_1_1 := comes_1 fun _ _ _ _ _ _ h hF => ⟨h.1, hF⟩
theorem main_1_2 : Claimed_1_2 := comes_1 fun _ _ _ _ _ _ h hF => ⟨h.2.1, hF⟩
end Jvm.Pilot.@@N@@
namespace Jvm.Pilot.@@N@@
open Jvm Jvm.ClassFile Sem Op Lib Jvm.Free Jvm.Stand Jvm.Pilot.@@N@@.Jvm.D
/-! MADE BY PROGRAM (witnessworld.py) out of the Statement's table words and the real class files: 28 classes; the members and pool entries that the words name. The judged class is class 1, her method 2. -/
namespace start1
open Jvm.ClassFile
def u (s : String) : CpInfo := .utf8 (stringToUtf16 s)
/-- a pool by its gaps: so many unusable entries, then the entry; so many at the end -/
def gap : Nat → List CpInfo → List CpInfo
  | 0, r => r
  | n + 1, r => .unusable :: gap n r
def poolList (es : List (Nat × CpInfo)) (last : Nat) : List CpInfo := es.foldr (fun e r => gap e.1 (e.2 :: r)) (gap last [])
def pool (es : List (Nat × CpInfo)) (last : Nat) : Array CpInfo := ⟨poolList es last⟩
def fileOf (pool : Array CpInfo) (this : Nat) (attrs : Array Attribute := #[]) (ms : Array MethodInfo := #[]) (fl : Nat := 33) (sup : Nat := 0) (ifs : Array Nat := #[]) (fds : Array FieldInfo := #[]) : ClassFile where
  minorVersion := 0
  majorVersion := 65
  constantPool := pool
  accessFlags := fl
  thisClass := this
  superClass := sup
  interfaces := ifs
  fields := fds
  methods := ms
  attributes := attrs
def plain (name : String) (sup : Option ClassId) : Class where
  name := name
  kind := .ordinary
  loader := none
  accessFlags := 33
  super := sup
  interfaces := #[]
  cf := none
  fields := #[]
  methods := #[]
  instanceTypes := #[]
  staticTypes := #[]
  resolved := #[]
  callSites := []
  init := .initialized
  statics := none
  mirror := none

def pool0 : Array CpInfo := pool [(5, u "<init>"), (0, u "()V"), (1, .class_ 10), (1, u "java/lang/Object")] 113

def k0c0 : Code := { maxStack := 0, maxLocals := 1, code := object_method_1_code, exceptionTable := #[], attributes := #[] }
def k0m0 : Method := { name := "<init>", desc := "()V", sig := { parameters := [], returnType := none }, accessFlags := 1, code := some k0c0 }
/-- java/lang/Object -/
def k0 : Class := { plain "java/lang/Object" none with
  accessFlags := 33
  interfaces := #[]
  cf := some (fileOf pool0 8 #[] #[{ accessFlags := 1, nameIndex := 5, descriptorIndex := 6, attributes := #[] }] 33 0 #[] #[])
  fields := #[]
  methods := #[k0m0]
  instanceTypes := #[]
  staticTypes := #[]
  resolved := Array.replicate 124 none
  statics := none }

def pool1 : Array CpInfo := pool [(2, .class_ 4), (1, u "java/lang/Object"), (0, u "<init>"), (0, u "()V"), (0, .methodref 8 9), (0, .class_ 10), (0, .nameAndType 11 12), (0, u "com/example/keen_roster/keenroster/core/IdentifierToStringPinLaw"), (0, u "sysChar"), (0, u "(I)C"), (0, .class_ 14), (0, u "java/lang/String"), (0, .methodref 13 16), (0, .nameAndType 5 17), (0, u "([C)V"), (0, .class_ 19), (0, u "com/example/keen_roster/keenroster/core/Identifier"), (0, .methodref 18 21), (0, .nameAndType 5 22), (0, u "(Ljava/lang/String;Ljava/lang/String;)V"), (0, .methodref 18 24), (0, .nameAndType 25 26), (0, u "toString"), (0, u "()Ljava/lang/String;"), (0, .methodref 13 28), (0, .nameAndType 29 30), (0, u "equals"), (0, u "(Ljava/lang/Object;)Z"), (3, u "law"), (0, u "(II)Z")] 4

def k1m0 : Method := { name := "<init>", desc := "()V", sig := { parameters := [], returnType := none }, accessFlags := 1, code := none }
def k1c1 : Code := { maxStack := 2, maxLocals := 2, code := method_2_code, exceptionTable := #[], attributes := #[] }
def k1m1 : Method := { name := "sysChar", desc := "(I)C", sig := { parameters := [.int], returnType := some .char }, accessFlags := 10, code := some k1c1 }
def k1c2 : Code := { maxStack := 6, maxLocals := 13, code := code, exceptionTable := #[], attributes := #[] }
def k1m2 : Method := { name := "law", desc := "(II)Z", sig := { parameters := [.int, .int], returnType := some .boolean }, accessFlags := 9, code := some k1c2 }
/-- com/example/keen_roster/keenroster/core/IdentifierToStringPinLaw -/
def k1 : Class := { plain "com/example/keen_roster/keenroster/core/IdentifierToStringPinLaw" (some 0) with
  accessFlags := 49
  interfaces := #[]
  cf := some (fileOf pool1 8 #[] #[{ accessFlags := 1, nameIndex := 5, descriptorIndex := 6, attributes := #[] }, { accessFlags := 10, nameIndex := 11, descriptorIndex := 12, attributes := #[] }, { accessFlags := 9, nameIndex := 34, descriptorIndex := 35, attributes := #[] }] 49 2 #[] #[])
  fields := #[]
  methods := #[k1m0, k1m1, k1m2]
  instanceTypes := #[]
  staticTypes := #[]
  resolved := Array.replicate 40 none
  statics := none }

def pool2 : Array CpInfo := pool [(1, .class_ 2), (0, u "java/io/Serializable"), (0, .class_ 4), (0, u "java/lang/Object")] 2

/-- java/io/Serializable -/
def k2 : Class := { plain "java/io/Serializable" (some 0) with
  accessFlags := 1537
  interfaces := #[]
  cf := some (fileOf pool2 1 #[] #[] 1537 3 #[] #[])
  fields := #[]
  methods := #[]
  instanceTypes := #[]
  staticTypes := #[]
  resolved := Array.replicate 7 none
  statics := none }

def pool3 : Array CpInfo := pool [(1, .class_ 2), (0, u "java/lang/Comparable"), (0, .class_ 4), (0, u "java/lang/Object")] 7

/-- java/lang/Comparable -/
def k3 : Class := { plain "java/lang/Comparable" (some 0) with
  accessFlags := 1537
  interfaces := #[]
  cf := some (fileOf pool3 1 #[] #[] 1537 3 #[] #[])
  fields := #[]
  methods := #[]
  instanceTypes := #[]
  staticTypes := #[]
  resolved := Array.replicate 12 none
  statics := none }

def pool4 : Array CpInfo := pool [(2, .class_ 4), (1, u "java/lang/CharSequence"), (42, .class_ 48), (0, u "java/lang/CharSequence$1CodePointIterator"), (10, .class_ 60), (0, u "java/lang/CharSequence$1CharIterator"), (5, .class_ 67), (0, u "java/lang/Object")] 63

/-- java/lang/CharSequence -/
def k4 : Class := { plain "java/lang/CharSequence" (some 0) with
  accessFlags := 1537
  interfaces := #[]
  cf := some (fileOf pool4 2 #[.nestMembers #[47, 59]] #[] 1537 66 #[] #[])
  fields := #[]
  methods := #[]
  instanceTypes := #[]
  staticTypes := #[]
  resolved := Array.replicate 131 none
  statics := none }

def pool5 : Array CpInfo := pool [(1, .class_ 2), (0, u "java/lang/constant/Constable"), (0, .class_ 4), (0, u "java/lang/Object")] 6

/-- java/lang/constant/Constable -/
def k5 : Class := { plain "java/lang/constant/Constable" (some 0) with
  accessFlags := 1537
  interfaces := #[]
  cf := some (fileOf pool5 1 #[] #[] 1537 3 #[] #[])
  fields := #[]
  methods := #[]
  instanceTypes := #[]
  staticTypes := #[]
  resolved := Array.replicate 11 none
  statics := none }

def pool6 : Array CpInfo := pool [(1, .class_ 2), (0, u "java/lang/constant/ConstantDesc"), (0, .class_ 4), (0, u "java/lang/Object")] 32

/-- java/lang/constant/ConstantDesc -/
def k6 : Class := { plain "java/lang/constant/ConstantDesc" (some 0) with
  accessFlags := 1537
  interfaces := #[]
  cf := some (fileOf pool6 1 #[] #[] 1537 3 #[] #[])
  fields := #[]
  methods := #[]
  instanceTypes := #[]
  staticTypes := #[]
  resolved := Array.replicate 37 none
  statics := none }

def pool7 : Array CpInfo := pool [(1, .methodref 2 3), (0, .class_ 4), (0, .nameAndType 5 6), (0, u "java/lang/Object"), (0, u "<init>"), (0, u "()V"), (2, .fieldref 10 11), (0, .class_ 12), (0, .nameAndType 13 14), (0, u "java/lang/String"), (0, u "value"), (0, u "[B"), (0, .fieldref 10 16), (0, .nameAndType 17 18), (0, u "coder"), (0, u "B"), (2, u "hash"), (0, u "I"), (2, u "hashIsZero"), (0, u "Z"), (0, .methodref 10 28), (0, .nameAndType 5 29), (0, u "([CIILjava/lang/Void;)V"), (8, .fieldref 10 39), (0, .nameAndType 40 26), (0, u "COMPACT_STRINGS"), (1, .class_ 44), (1, u "java/lang/StringUTF16"), (0, u "compress"), (1, .methodref 42 48), (0, .nameAndType 49 50), (0, u "coderFromArrayLen"), (0, u "([BI)B"), (3, .methodref 55 56), (0, .class_ 57), (0, .nameAndType 58 59), (0, u "java/util/Arrays"), (0, u "copyOfRange"), (0, u "([BII)[B"), (47, .class_ 109), (1, u "java/lang/StringLatin1"), (32, u "()Z"), (34, .methodref 42 178), (0, .nameAndType 45 179), (0, u "([CII)[B"), (13, .class_ 195), (1, u "java/lang/System"), (16, .methodref 193 213), (0, .nameAndType 214 215), (0, u "arraycopy"), (0, u "(Ljava/lang/Object;ILjava/lang/Object;II)V"), (118, u "()I"), (0, .methodref 10 336), (0, .nameAndType 17 337), (0, u "()B"), (2, u "()[B"), (148, .methodref 10 490), (0, .nameAndType 5 491), (0, u "(Ljava/lang/AbstractStringBuilder;Ljava/lang/Void;)V"), (0, .methodref 10 493), (0, .nameAndType 494 142), (0, u "isLatin1"), (10, .methodref 10 506), (0, .nameAndType 507 334), (0, u "length"), (24, u "getBytes"), (8, .methodref 107 542), (0, .nameAndType 543 544), (0, u "equals"), (0, u "([B[B)Z"), (4, .methodref 550 506), (0, .class_ 551), (0, u "java/lang/AbstractStringBuilder"), (0, .methodref 550 553), (0, .nameAndType 554 340), (0, u "getValue"), (18, u "(Ljava/lang/Object;)Z"), (1, .class_ 576), (0, u "java/lang/CharSequence"), (22, u "CASE_INSENSITIVE_ORDER"), (0, u "Ljava/util/Comparator;"), (32, .methodref 10 634), (0, .nameAndType 635 636), (0, u "indexOf"), (0, u "(II)I"), (0, .methodref 107 638), (0, .nameAndType 635 639), (0, u "([BIII)I"), (52, u "isEmpty"), (72, u "(I)I"), (55, u "([BIB)V"), (188, u "([C)V"), (36, .methodref 550 493), (53, u "serialPersistentFields"), (0, u "[Ljava/io/ObjectStreamField;"), (0, .class_ 1104), (0, u "java/lang/String$CaseInsensitiveComparator"), (1, .class_ 1107), (0, u "java/io/Serializable"), (0, .class_ 1109), (0, u "java/lang/Comparable"), (0, .class_ 1111), (0, u "java/lang/constant/Constable"), (0, .class_ 1113), (0, u "java/lang/constant/ConstantDesc"), (2, u "serialVersionUID"), (0, u "J"), (3, u "REPL"), (0, u "C"), (2, u "LATIN1"), (1, u "UTF16"), (105, u "(Ljava/lang/StringBuilder;)V")] 217

def k7m0 : Method := { name := "<init>", desc := "()V", sig := { parameters := [], returnType := none }, accessFlags := 1, code := none }
def k7c1 : Code := { maxStack := 5, maxLocals := 2, code := jdk_42_method_3_code, exceptionTable := #[], attributes := #[] }
def k7m1 : Method := { name := "<init>", desc := "([C)V", sig := { parameters := [(.array .char)], returnType := none }, accessFlags := 1, code := some k7c1 }
def k7c2 : Code := { maxStack := 3, maxLocals := 2, code := jdk_42_method_53_code, exceptionTable := #[], attributes := #[] }
def k7m2 : Method := { name := "<init>", desc := "(Ljava/lang/StringBuilder;)V", sig := { parameters := [(.object "java/lang/StringBuilder")], returnType := none }, accessFlags := 1, code := some k7c2 }
def k7c3 : Code := { maxStack := 2, maxLocals := 1, code := jdk_42_method_54_code, exceptionTable := #[], attributes := #[] }
def k7m3 : Method := { name := "length", desc := "()I", sig := { parameters := [], returnType := some .int }, accessFlags := 1, code := some k7c3 }
def k7c4 : Code := { maxStack := 1, maxLocals := 1, code := jdk_42_method_55_code, exceptionTable := #[], attributes := #[] }
def k7m4 : Method := { name := "isEmpty", desc := "()Z", sig := { parameters := [], returnType := some .boolean }, accessFlags := 1, code := some k7c4 }
def k7c5 : Code := { maxStack := 2, maxLocals := 3, code := jdk_42_method_66_code, exceptionTable := #[], attributes := #[] }
def k7m5 : Method := { name := "equals", desc := "(Ljava/lang/Object;)Z", sig := { parameters := [(.object "java/lang/Object")], returnType := some .boolean }, accessFlags := 1, code := some k7c5 }
def k7c6 : Code := { maxStack := 3, maxLocals := 2, code := jdk_42_method_79_code, exceptionTable := #[], attributes := #[] }
def k7m6 : Method := { name := "indexOf", desc := "(I)I", sig := { parameters := [.int], returnType := some .int }, accessFlags := 1, code := some k7c6 }
def k7c7 : Code := { maxStack := 4, maxLocals := 3, code := jdk_42_method_80_code, exceptionTable := #[], attributes := #[] }
def k7m7 : Method := { name := "indexOf", desc := "(II)I", sig := { parameters := [.int, .int], returnType := some .int }, accessFlags := 1, code := some k7c7 }
def k7c8 : Code := { maxStack := 5, maxLocals := 4, code := jdk_42_method_147_code, exceptionTable := #[], attributes := #[] }
def k7m8 : Method := { name := "getBytes", desc := "([BIB)V", sig := { parameters := [(.array .byte), .int, .byte], returnType := none }, accessFlags := 0, code := some k7c8 }
def k7c9 : Code := { maxStack := 4, maxLocals := 6, code := jdk_42_method_149_code, exceptionTable := #[], attributes := #[] }
def k7m9 : Method := { name := "<init>", desc := "([CIILjava/lang/Void;)V", sig := { parameters := [(.array .char), .int, .int, (.object "java/lang/Void")], returnType := none }, accessFlags := 2, code := some k7c9 }
def k7c10 : Code := { maxStack := 5, maxLocals := 5, code := jdk_42_method_150_code, exceptionTable := #[], attributes := #[] }
def k7m10 : Method := { name := "<init>", desc := "(Ljava/lang/AbstractStringBuilder;Ljava/lang/Void;)V", sig := { parameters := [(.object "java/lang/AbstractStringBuilder"), (.object "java/lang/Void")], returnType := none }, accessFlags := 0, code := some k7c10 }
def k7c11 : Code := { maxStack := 1, maxLocals := 1, code := jdk_42_method_152_code, exceptionTable := #[], attributes := #[] }
def k7m11 : Method := { name := "coder", desc := "()B", sig := { parameters := [], returnType := some .byte }, accessFlags := 0, code := some k7c11 }
def k7c12 : Code := { maxStack := 1, maxLocals := 1, code := jdk_42_method_154_code, exceptionTable := #[], attributes := #[] }
def k7m12 : Method := { name := "isLatin1", desc := "()Z", sig := { parameters := [], returnType := some .boolean }, accessFlags := 0, code := some k7c12 }
/-- java/lang/String -/
def k7 : Class := { plain "java/lang/String" (some 0) with
  accessFlags := 49
  interfaces := #[2, 3, 4, 5, 6]
  cf := some (fileOf pool7 10 #[.nestMembers #[1103]] #[{ accessFlags := 1, nameIndex := 5, descriptorIndex := 6, attributes := #[] }, { accessFlags := 1, nameIndex := 5, descriptorIndex := 1010, attributes := #[] }, { accessFlags := 1, nameIndex := 5, descriptorIndex := 1233, attributes := #[] }, { accessFlags := 1, nameIndex := 507, descriptorIndex := 334, attributes := #[] }, { accessFlags := 1, nameIndex := 692, descriptorIndex := 142, attributes := #[] }, { accessFlags := 1, nameIndex := 543, descriptorIndex := 573, attributes := #[] }, { accessFlags := 1, nameIndex := 635, descriptorIndex := 765, attributes := #[] }, { accessFlags := 1, nameIndex := 635, descriptorIndex := 636, attributes := #[] }, { accessFlags := 0, nameIndex := 532, descriptorIndex := 821, attributes := #[] }, { accessFlags := 2, nameIndex := 5, descriptorIndex := 29, attributes := #[] }, { accessFlags := 0, nameIndex := 5, descriptorIndex := 491, attributes := #[] }, { accessFlags := 0, nameIndex := 17, descriptorIndex := 337, attributes := #[] }, { accessFlags := 0, nameIndex := 494, descriptorIndex := 142, attributes := #[] }] 49 2 #[1106, 1108, 575, 1110, 1112] #[{ accessFlags := 18, nameIndex := 13, descriptorIndex := 14, attributes := #[] }, { accessFlags := 18, nameIndex := 17, descriptorIndex := 18, attributes := #[] }, { accessFlags := 2, nameIndex := 21, descriptorIndex := 22, attributes := #[] }, { accessFlags := 2, nameIndex := 25, descriptorIndex := 26, attributes := #[] }, { accessFlags := 26, nameIndex := 1116, descriptorIndex := 1117, attributes := #[] }, { accessFlags := 24, nameIndex := 40, descriptorIndex := 26, attributes := #[] }, { accessFlags := 26, nameIndex := 1101, descriptorIndex := 1102, attributes := #[] }, { accessFlags := 26, nameIndex := 1121, descriptorIndex := 1122, attributes := #[] }, { accessFlags := 25, nameIndex := 599, descriptorIndex := 600, attributes := #[] }, { accessFlags := 24, nameIndex := 1125, descriptorIndex := 18, attributes := #[] }, { accessFlags := 24, nameIndex := 1127, descriptorIndex := 18, attributes := #[] }])
  fields := #[{ name := "value", type := (.array .byte), accessFlags := 18, slot := 0, constantValue := 0 }, { name := "coder", type := .byte, accessFlags := 18, slot := 1, constantValue := 0 }, { name := "hash", type := .int, accessFlags := 2, slot := 2, constantValue := 0 }, { name := "hashIsZero", type := .boolean, accessFlags := 2, slot := 3, constantValue := 0 }, { name := "serialVersionUID", type := .long, accessFlags := 26, slot := 0, constantValue := 0 }, { name := "COMPACT_STRINGS", type := .boolean, accessFlags := 24, slot := 1, constantValue := 0 }, { name := "serialPersistentFields", type := (.array (.object "java/io/ObjectStreamField")), accessFlags := 26, slot := 2, constantValue := 0 }, { name := "REPL", type := .char, accessFlags := 26, slot := 3, constantValue := 0 }, { name := "CASE_INSENSITIVE_ORDER", type := (.object "java/util/Comparator"), accessFlags := 25, slot := 4, constantValue := 0 }, { name := "LATIN1", type := .byte, accessFlags := 24, slot := 5, constantValue := 0 }, { name := "UTF16", type := .byte, accessFlags := 24, slot := 6, constantValue := 0 }]
  methods := #[k7m0, k7m1, k7m2, k7m3, k7m4, k7m5, k7m6, k7m7, k7m8, k7m9, k7m10, k7m11, k7m12]
  instanceTypes := #[(.array .byte), .byte, .int, .boolean]
  staticTypes := #[.long, .boolean, (.array (.object "java/io/ObjectStreamField")), .char, (.object "java/util/Comparator"), .byte, .byte]
  resolved := Array.replicate 1451 none
  statics := some 0 }

def pool8 : Array CpInfo := pool [(6, .class_ 8), (1, u "java/lang/Object"), (0, u "<init>"), (0, u "()V"), (1, .class_ 14), (1, u "java/lang/StringUTF16"), (31, u "$assertionsDisabled"), (0, u "Z"), (13, u "HI_BYTE_SHIFT"), (0, u "I"), (2, u "LO_BYTE_SHIFT"), (49, .methodref 12 116), (0, .nameAndType 117 118), (0, u "compress"), (0, u "([CI[BII)I"), (3, u "([CII)[B"), (138, u "coderFromArrayLen"), (0, u "([BI)B"), (106, .class_ 371), (1, u "java/lang/StringUTF16$LinesSpliterator"), (58, u "MAX_LENGTH"), (196, .class_ 628), (0, u "java/lang/StringUTF16$CodePointsSpliterator"), (0, .class_ 630), (0, u "java/lang/StringUTF16$CharsSpliterator")] 4

def k8m0 : Method := { name := "<init>", desc := "()V", sig := { parameters := [], returnType := none }, accessFlags := 0, code := none }
def k8c1 : Code := { maxStack := 2, maxLocals := 2, code := jdk_52_method_15_code, exceptionTable := #[], attributes := #[] }
def k8m1 : Method := { name := "coderFromArrayLen", desc := "([BI)B", sig := { parameters := [(.array .byte), .int], returnType := some .byte }, accessFlags := 8, code := some k8c1 }
def k8c2 : Code := { maxStack := 5, maxLocals := 6, code := jdk_52_method_16_code, exceptionTable := #[], attributes := #[] }
def k8m2 : Method := { name := "compress", desc := "([CII)[B", sig := { parameters := [(.array .char), .int, .int], returnType := some (.array .byte) }, accessFlags := 9, code := some k8c2 }
def k8c3 : Code := { maxStack := 3, maxLocals := 7, code := jdk_52_method_21_code, exceptionTable := #[], attributes := #[] }
def k8m3 : Method := { name := "compress", desc := "([CI[BII)I", sig := { parameters := [(.array .char), .int, (.array .byte), .int, .int], returnType := some .int }, accessFlags := 9, code := some k8c3 }
/-- java/lang/StringUTF16 -/
def k8 : Class := { plain "java/lang/StringUTF16" (some 0) with
  accessFlags := 48
  interfaces := #[]
  cf := some (fileOf pool8 12 #[.nestMembers #[627, 629, 369]] #[{ accessFlags := 0, nameIndex := 9, descriptorIndex := 10, attributes := #[] }, { accessFlags := 8, nameIndex := 261, descriptorIndex := 262, attributes := #[] }, { accessFlags := 9, nameIndex := 117, descriptorIndex := 122, attributes := #[] }, { accessFlags := 9, nameIndex := 117, descriptorIndex := 118, attributes := #[] }] 48 6 #[] #[{ accessFlags := 26, nameIndex := 61, descriptorIndex := 62, attributes := #[] }, { accessFlags := 26, nameIndex := 65, descriptorIndex := 62, attributes := #[] }, { accessFlags := 24, nameIndex := 430, descriptorIndex := 62, attributes := #[] }, { accessFlags := 4120, nameIndex := 46, descriptorIndex := 47, attributes := #[] }])
  fields := #[{ name := "HI_BYTE_SHIFT", type := .int, accessFlags := 26, slot := 0, constantValue := 0 }, { name := "LO_BYTE_SHIFT", type := .int, accessFlags := 26, slot := 1, constantValue := 0 }, { name := "MAX_LENGTH", type := .int, accessFlags := 24, slot := 2, constantValue := 0 }, { name := "$assertionsDisabled", type := .boolean, accessFlags := 4120, slot := 3, constantValue := 0 }]
  methods := #[k8m0, k8m1, k8m2, k8m3]
  instanceTypes := #[]
  staticTypes := #[.int, .int, .int, .boolean]
  resolved := Array.replicate 635 none
  statics := none }

def pool9 : Array CpInfo := pool [(1, .methodref 2 3), (0, .class_ 4), (0, .nameAndType 5 6), (0, u "java/lang/Object"), (0, u "<init>"), (0, u "()V"), (0, .class_ 8), (0, u "java/lang/Record")] 13

def k9c0 : Code := { maxStack := 1, maxLocals := 1, code := jdk_30_method_1_code, exceptionTable := #[], attributes := #[] }
def k9m0 : Method := { name := "<init>", desc := "()V", sig := { parameters := [], returnType := none }, accessFlags := 4, code := some k9c0 }
/-- java/lang/Record -/
def k9 : Class := { plain "java/lang/Record" (some 0) with
  accessFlags := 1057
  interfaces := #[]
  cf := some (fileOf pool9 7 #[] #[{ accessFlags := 4, nameIndex := 5, descriptorIndex := 6, attributes := #[] }] 1057 2 #[] #[])
  fields := #[]
  methods := #[k9m0]
  instanceTypes := #[]
  staticTypes := #[]
  resolved := Array.replicate 22 none
  statics := none }

def pool10 : Array CpInfo := pool [(1, .methodref 2 3), (0, .class_ 4), (0, .nameAndType 5 6), (0, u "java/lang/Record"), (0, u "<init>"), (0, u "()V"), (0, .string 8), (0, u "system"), (0, .methodref 10 11), (0, .class_ 12), (0, .nameAndType 13 14), (0, u "java/util/Objects"), (0, u "requireNonNull"), (0, u "(Ljava/lang/Object;Ljava/lang/String;)Ljava/lang/Object;"), (0, .string 16), (0, u "id"), (0, .methodref 18 19), (0, .class_ 20), (0, .nameAndType 21 22), (0, u "java/lang/String"), (0, u "isEmpty"), (0, u "()Z"), (0, .methodref 18 24), (0, .nameAndType 25 26), (0, u "indexOf"), (0, u "(I)I"), (2, .class_ 30), (0, u "java/lang/StringBuilder"), (0, .methodref 29 3), (2, .methodref 29 35), (0, .nameAndType 36 37), (0, u "append"), (0, u "(Ljava/lang/String;)Ljava/lang/StringBuilder;"), (2, .methodref 29 41), (0, .nameAndType 42 43), (0, u "toString"), (0, u "()Ljava/lang/String;"), (5, .fieldref 50 51), (0, .class_ 52), (0, .nameAndType 8 53), (0, u "com/example/keen_roster/keenroster/core/Identifier"), (0, u "Ljava/lang/String;"), (0, .fieldref 50 55), (0, .nameAndType 16 53), (11, u "(Ljava/lang/String;Ljava/lang/String;)V"), (0, .string 69), (0, u ":")] 37

def k10c0 : Code := { maxStack := 4, maxLocals := 3, code := prog_2_method_1_code, exceptionTable := #[], attributes := #[] }
def k10m0 : Method := { name := "<init>", desc := "(Ljava/lang/String;Ljava/lang/String;)V", sig := { parameters := [(.object "java/lang/String"), (.object "java/lang/String")], returnType := none }, accessFlags := 1, code := some k10c0 }
def k10c1 : Code := { maxStack := 2, maxLocals := 1, code := prog_2_method_3_code, exceptionTable := #[], attributes := #[] }
def k10m1 : Method := { name := "toString", desc := "()Ljava/lang/String;", sig := { parameters := [], returnType := some (.object "java/lang/String") }, accessFlags := 1, code := some k10c1 }
/-- com/example/keen_roster/keenroster/core/Identifier -/
def k10 : Class := { plain "com/example/keen_roster/keenroster/core/Identifier" (some 9) with
  accessFlags := 49
  interfaces := #[]
  cf := some (fileOf pool10 50 #[] #[{ accessFlags := 1, nameIndex := 5, descriptorIndex := 67, attributes := #[] }, { accessFlags := 1, nameIndex := 42, descriptorIndex := 43, attributes := #[] }] 49 2 #[] #[{ accessFlags := 18, nameIndex := 8, descriptorIndex := 53, attributes := #[] }, { accessFlags := 18, nameIndex := 16, descriptorIndex := 53, attributes := #[] }])
  fields := #[{ name := "system", type := (.object "java/lang/String"), accessFlags := 18, slot := 0, constantValue := 0 }, { name := "id", type := (.object "java/lang/String"), accessFlags := 18, slot := 1, constantValue := 0 }]
  methods := #[k10m0, k10m1]
  instanceTypes := #[(.object "java/lang/String"), (.object "java/lang/String")]
  staticTypes := #[]
  resolved := Array.replicate 107 none
  statics := none }

def pool11 : Array CpInfo := pool [(2, .class_ 4), (1, u "java/lang/Object"), (0, u "<init>"), (0, u "()V"), (35, .class_ 44), (1, u "java/util/Objects"), (0, u "requireNonNull"), (48, u "(Ljava/lang/Object;Ljava/lang/String;)Ljava/lang/Object;")] 89

def k11m0 : Method := { name := "<init>", desc := "()V", sig := { parameters := [], returnType := none }, accessFlags := 2, code := none }
def k11c1 : Code := { maxStack := 3, maxLocals := 2, code := jdk_31_method_11_code, exceptionTable := #[], attributes := #[] }
def k11m1 : Method := { name := "requireNonNull", desc := "(Ljava/lang/Object;Ljava/lang/String;)Ljava/lang/Object;", sig := { parameters := [(.object "java/lang/Object"), (.object "java/lang/String")], returnType := some (.object "java/lang/Object") }, accessFlags := 9, code := some k11c1 }
/-- java/util/Objects -/
def k11 : Class := { plain "java/util/Objects" (some 0) with
  accessFlags := 49
  interfaces := #[]
  cf := some (fileOf pool11 42 #[] #[{ accessFlags := 2, nameIndex := 5, descriptorIndex := 6, attributes := #[] }, { accessFlags := 9, nameIndex := 45, descriptorIndex := 94, attributes := #[] }] 49 2 #[] #[])
  fields := #[]
  methods := #[k11m0, k11m1]
  instanceTypes := #[]
  staticTypes := #[]
  resolved := Array.replicate 184 none
  statics := none }

def pool12 : Array CpInfo := pool [(4, .class_ 6), (1, u "java/lang/Object"), (0, u "<init>"), (0, u "()V"), (5, .class_ 16), (1, u "java/lang/StringLatin1"), (21, .methodref 39 40), (0, .class_ 41), (0, .nameAndType 42 43), (0, u "java/lang/Math"), (0, u "min"), (0, u "(II)I"), (44, .methodref 14 89), (0, .nameAndType 90 91), (0, u "canEncode"), (0, u "(I)Z"), (0, .methodref 39 93), (0, .nameAndType 94 43), (0, u "max"), (0, .methodref 14 96), (0, .nameAndType 97 98), (0, u "indexOfChar"), (0, u "([BIII)I"), (2, u "indexOf"), (19, u "$assertionsDisabled"), (0, u "Z"), (98, .class_ 223), (1, u "java/lang/StringLatin1$LinesSpliterator"), (57, u "equals"), (0, u "([B[B)Z"), (107, .class_ 391), (0, u "java/lang/StringLatin1$CharsSpliterator")] 3

def k12m0 : Method := { name := "<init>", desc := "()V", sig := { parameters := [], returnType := none }, accessFlags := 0, code := none }
def k12c1 : Code := { maxStack := 2, maxLocals := 1, code := jdk_43_method_4_code, exceptionTable := #[], attributes := #[] }
def k12m1 : Method := { name := "canEncode", desc := "(I)Z", sig := { parameters := [.int], returnType := some .boolean }, accessFlags := 9, code := some k12c1 }
def k12c2 : Code := { maxStack := 3, maxLocals := 3, code := jdk_43_method_13_code, exceptionTable := #[], attributes := #[] }
def k12m2 : Method := { name := "equals", desc := "([B[B)Z", sig := { parameters := [(.array .byte), (.array .byte)], returnType := some .boolean }, accessFlags := 9, code := some k12c2 }
def k12c3 : Code := { maxStack := 4, maxLocals := 4, code := jdk_43_method_22_code, exceptionTable := #[], attributes := #[] }
def k12m3 : Method := { name := "indexOf", desc := "([BIII)I", sig := { parameters := [(.array .byte), .int, .int, .int], returnType := some .int }, accessFlags := 9, code := some k12c3 }
def k12c4 : Code := { maxStack := 2, maxLocals := 6, code := jdk_43_method_23_code, exceptionTable := #[], attributes := #[] }
def k12m4 : Method := { name := "indexOfChar", desc := "([BIII)I", sig := { parameters := [(.array .byte), .int, .int, .int], returnType := some .int }, accessFlags := 10, code := some k12c4 }
/-- java/lang/StringLatin1 -/
def k12 : Class := { plain "java/lang/StringLatin1" (some 0) with
  accessFlags := 48
  interfaces := #[]
  cf := some (fileOf pool12 14 #[.nestMembers #[390, 221]] #[{ accessFlags := 0, nameIndex := 7, descriptorIndex := 8, attributes := #[] }, { accessFlags := 9, nameIndex := 90, descriptorIndex := 91, attributes := #[] }, { accessFlags := 9, nameIndex := 281, descriptorIndex := 282, attributes := #[] }, { accessFlags := 9, nameIndex := 101, descriptorIndex := 98, attributes := #[] }, { accessFlags := 10, nameIndex := 97, descriptorIndex := 98, attributes := #[] }] 48 4 #[] #[{ accessFlags := 4120, nameIndex := 121, descriptorIndex := 122, attributes := #[] }])
  fields := #[{ name := "$assertionsDisabled", type := .boolean, accessFlags := 4120, slot := 0, constantValue := 0 }]
  methods := #[k12m0, k12m1, k12m2, k12m3, k12m4]
  instanceTypes := #[]
  staticTypes := #[.boolean]
  resolved := Array.replicate 395 none
  statics := none }

def pool13 : Array CpInfo := pool [(1, .class_ 2), (0, u "java/lang/Math"), (1, .class_ 6), (1, u "java/lang/Object"), (0, u "<init>"), (0, u "()V"), (89, .class_ 100), (1, u "java/lang/Math$RandomNumberGeneratorHolder"), (71, u "negativeZeroFloatBits"), (0, u "J"), (2, u "negativeZeroDoubleBits"), (21, u "max"), (2, u "min"), (43, u "$assertionsDisabled"), (0, u "Z"), (88, u "(II)I"), (2, u "twoToTheDoubleScaleDown"), (0, u "D"), (4, u "twoToTheDoubleScaleUp"), (9, u "E"), (3, u "PI"), (2, u "TAU"), (2, u "DEGREES_TO_RADIANS"), (0, u "RADIANS_TO_DEGREES")] 94

def k13m0 : Method := { name := "<init>", desc := "()V", sig := { parameters := [], returnType := none }, accessFlags := 2, code := none }
def k13c1 : Code := { maxStack := 2, maxLocals := 2, code := jdk_29_method_65_code, exceptionTable := #[], attributes := #[] }
def k13m1 : Method := { name := "max", desc := "(II)I", sig := { parameters := [.int, .int], returnType := some .int }, accessFlags := 9, code := some k13c1 }
def k13c2 : Code := { maxStack := 2, maxLocals := 2, code := jdk_29_method_69_code, exceptionTable := #[], attributes := #[] }
def k13m2 : Method := { name := "min", desc := "(II)I", sig := { parameters := [.int, .int], returnType := some .int }, accessFlags := 9, code := some k13c2 }
/-- java/lang/Math -/
def k13 : Class := { plain "java/lang/Math" (some 0) with
  accessFlags := 49
  interfaces := #[]
  cf := some (fileOf pool13 1 #[.nestMembers #[98]] #[{ accessFlags := 2, nameIndex := 7, descriptorIndex := 8, attributes := #[] }, { accessFlags := 9, nameIndex := 198, descriptorIndex := 335, attributes := #[] }, { accessFlags := 9, nameIndex := 201, descriptorIndex := 335, attributes := #[] }] 49 4 #[] #[{ accessFlags := 25, nameIndex := 354, descriptorIndex := 339, attributes := #[] }, { accessFlags := 25, nameIndex := 358, descriptorIndex := 339, attributes := #[] }, { accessFlags := 25, nameIndex := 361, descriptorIndex := 339, attributes := #[] }, { accessFlags := 26, nameIndex := 364, descriptorIndex := 339, attributes := #[] }, { accessFlags := 26, nameIndex := 365, descriptorIndex := 339, attributes := #[] }, { accessFlags := 26, nameIndex := 172, descriptorIndex := 173, attributes := #[] }, { accessFlags := 26, nameIndex := 176, descriptorIndex := 173, attributes := #[] }, { accessFlags := 8, nameIndex := 344, descriptorIndex := 339, attributes := #[] }, { accessFlags := 8, nameIndex := 338, descriptorIndex := 339, attributes := #[] }, { accessFlags := 4120, nameIndex := 245, descriptorIndex := 246, attributes := #[] }])
  fields := #[{ name := "E", type := .double, accessFlags := 25, slot := 0, constantValue := 0 }, { name := "PI", type := .double, accessFlags := 25, slot := 1, constantValue := 0 }, { name := "TAU", type := .double, accessFlags := 25, slot := 2, constantValue := 0 }, { name := "DEGREES_TO_RADIANS", type := .double, accessFlags := 26, slot := 3, constantValue := 0 }, { name := "RADIANS_TO_DEGREES", type := .double, accessFlags := 26, slot := 4, constantValue := 0 }, { name := "negativeZeroFloatBits", type := .long, accessFlags := 26, slot := 5, constantValue := 0 }, { name := "negativeZeroDoubleBits", type := .long, accessFlags := 26, slot := 6, constantValue := 0 }, { name := "twoToTheDoubleScaleUp", type := .double, accessFlags := 8, slot := 7, constantValue := 0 }, { name := "twoToTheDoubleScaleDown", type := .double, accessFlags := 8, slot := 8, constantValue := 0 }, { name := "$assertionsDisabled", type := .boolean, accessFlags := 4120, slot := 9, constantValue := 0 }]
  methods := #[k13m0, k13m1, k13m2]
  instanceTypes := #[]
  staticTypes := #[.double, .double, .double, .double, .double, .long, .long, .double, .double, .boolean]
  resolved := Array.replicate 460 none
  statics := none }

def pool14 : Array CpInfo := pool [(1, .class_ 2), (0, u "java/lang/Appendable"), (0, .class_ 4), (0, u "java/lang/Object")] 9

/-- java/lang/Appendable -/
def k14 : Class := { plain "java/lang/Appendable" (some 0) with
  accessFlags := 1537
  interfaces := #[]
  cf := some (fileOf pool14 1 #[] #[] 1537 3 #[] #[])
  fields := #[]
  methods := #[]
  instanceTypes := #[]
  staticTypes := #[]
  resolved := Array.replicate 14 none
  statics := none }

def pool15 : Array CpInfo := pool [(1, .class_ 2), (0, u "java/lang/String"), (0, .methodref 4 5), (0, .class_ 6), (0, .nameAndType 7 8), (0, u "java/lang/Object"), (0, u "<init>"), (0, u "()V"), (1, .class_ 12), (1, u "java/lang/AbstractStringBuilder"), (0, u "EMPTYVALUE"), (0, u "[B"), (0, .fieldref 10 16), (0, .nameAndType 17 14), (0, u "value"), (0, .fieldref 1 19), (0, .nameAndType 20 21), (0, u "COMPACT_STRINGS"), (0, u "Z"), (0, .fieldref 10 23), (0, .nameAndType 24 25), (0, u "coder"), (0, u "B"), (6, .methodref 1 33), (0, .nameAndType 34 35), (0, u "length"), (0, u "()I"), (4, .methodref 1 41), (0, .nameAndType 24 42), (0, u "()B"), (2, u "append"), (0, u "(Ljava/lang/String;)Ljava/lang/AbstractStringBuilder;"), (1, .class_ 49), (0, u "java/lang/CharSequence"), (19, u "(Ljava/lang/String;)V"), (5, u "maybeLatin1"), (3, .fieldref 10 80), (0, .nameAndType 81 82), (0, u "count"), (0, u "I"), (2, u "isLatin1"), (0, u "()Z"), (13, .methodref 10 101), (0, .nameAndType 102 103), (0, u "ensureCapacityInternal"), (0, u "(I)V"), (104, .methodref 10 209), (0, .nameAndType 210 211), (0, u "putStringAt"), (0, u "(ILjava/lang/String;)V"), (5, u "inflateIfNeededFor"), (2, .nameAndType 221 222), (0, u "getBytes"), (0, u "([BIB)V"), (174, .methodref 10 398), (0, .nameAndType 217 69), (0, .methodref 1 220), (3, u "()[B"), (40, .class_ 445), (0, u "java/lang/Appendable"), (106, u "getValue")] 56

def k15m0 : Method := { name := "<init>", desc := "()V", sig := { parameters := [], returnType := none }, accessFlags := 0, code := none }
def k15c1 : Code := { maxStack := 2, maxLocals := 2, code := jdk_68_method_2_code, exceptionTable := #[], attributes := #[] }
def k15m1 : Method := { name := "<init>", desc := "(I)V", sig := { parameters := [.int], returnType := none }, accessFlags := 0, code := some k15c1 }
def k15c2 : Code := { maxStack := 1, maxLocals := 1, code := jdk_68_method_6_code, exceptionTable := #[], attributes := #[] }
def k15m2 : Method := { name := "length", desc := "()I", sig := { parameters := [], returnType := some .int }, accessFlags := 1, code := some k15c2 }
def k15c3 : Code := { maxStack := 4, maxLocals := 3, code := jdk_68_method_9_code, exceptionTable := #[], attributes := #[] }
def k15m3 : Method := { name := "ensureCapacityInternal", desc := "(I)V", sig := { parameters := [.int], returnType := none }, accessFlags := 2, code := some k15c3 }
def k15c4 : Code := { maxStack := 3, maxLocals := 3, code := jdk_68_method_22_code, exceptionTable := #[], attributes := #[] }
def k15m4 : Method := { name := "append", desc := "(Ljava/lang/String;)Ljava/lang/AbstractStringBuilder;", sig := { parameters := [(.object "java/lang/String")], returnType := some (.object "java/lang/AbstractStringBuilder") }, accessFlags := 1, code := some k15c4 }
def k15c5 : Code := { maxStack := 1, maxLocals := 1, code := jdk_68_method_64_code, exceptionTable := #[], attributes := #[] }
def k15m5 : Method := { name := "getValue", desc := "()[B", sig := { parameters := [], returnType := some (.array .byte) }, accessFlags := 16, code := some k15c5 }
def k15c6 : Code := { maxStack := 1, maxLocals := 1, code := jdk_68_method_68_code, exceptionTable := #[], attributes := #[] }
def k15m6 : Method := { name := "isLatin1", desc := "()Z", sig := { parameters := [], returnType := some .boolean }, accessFlags := 16, code := some k15c6 }
def k15c7 : Code := { maxStack := 2, maxLocals := 2, code := jdk_68_method_71_code, exceptionTable := #[], attributes := #[] }
def k15m7 : Method := { name := "inflateIfNeededFor", desc := "(Ljava/lang/String;)V", sig := { parameters := [(.object "java/lang/String")], returnType := none }, accessFlags := 2, code := some k15c7 }
def k15c8 : Code := { maxStack := 4, maxLocals := 3, code := jdk_68_method_73_code, exceptionTable := #[], attributes := #[] }
def k15m8 : Method := { name := "putStringAt", desc := "(ILjava/lang/String;)V", sig := { parameters := [.int, (.object "java/lang/String")], returnType := none }, accessFlags := 2, code := some k15c8 }
/-- java/lang/AbstractStringBuilder -/
def k15 : Class := { plain "java/lang/AbstractStringBuilder" (some 0) with
  accessFlags := 1056
  interfaces := #[14, 4]
  cf := some (fileOf pool15 10 #[] #[{ accessFlags := 0, nameIndex := 7, descriptorIndex := 8, attributes := #[] }, { accessFlags := 0, nameIndex := 7, descriptorIndex := 103, attributes := #[] }, { accessFlags := 1, nameIndex := 34, descriptorIndex := 35, attributes := #[] }, { accessFlags := 2, nameIndex := 102, descriptorIndex := 103, attributes := #[] }, { accessFlags := 1, nameIndex := 45, descriptorIndex := 46, attributes := #[] }, { accessFlags := 16, nameIndex := 552, descriptorIndex := 403, attributes := #[] }, { accessFlags := 16, nameIndex := 85, descriptorIndex := 86, attributes := #[] }, { accessFlags := 2, nameIndex := 217, descriptorIndex := 69, attributes := #[] }, { accessFlags := 2, nameIndex := 210, descriptorIndex := 211, attributes := #[] }] 1056 4 #[444, 48] #[{ accessFlags := 0, nameIndex := 17, descriptorIndex := 14, attributes := #[] }, { accessFlags := 0, nameIndex := 24, descriptorIndex := 25, attributes := #[] }, { accessFlags := 0, nameIndex := 75, descriptorIndex := 21, attributes := #[] }, { accessFlags := 0, nameIndex := 81, descriptorIndex := 82, attributes := #[] }, { accessFlags := 26, nameIndex := 13, descriptorIndex := 14, attributes := #[] }])
  fields := #[{ name := "value", type := (.array .byte), accessFlags := 0, slot := 0, constantValue := 0 }, { name := "coder", type := .byte, accessFlags := 0, slot := 1, constantValue := 0 }, { name := "maybeLatin1", type := .boolean, accessFlags := 0, slot := 2, constantValue := 0 }, { name := "count", type := .int, accessFlags := 0, slot := 3, constantValue := 0 }, { name := "EMPTYVALUE", type := (.array .byte), accessFlags := 26, slot := 0, constantValue := 0 }]
  methods := #[k15m0, k15m1, k15m2, k15m3, k15m4, k15m5, k15m6, k15m7, k15m8]
  instanceTypes := #[(.array .byte), .byte, .boolean, .int]
  staticTypes := #[(.array .byte)]
  resolved := Array.replicate 609 none
  statics := none }

def pool16 : Array CpInfo := pool [(1, .methodref 2 3), (0, .class_ 4), (0, .nameAndType 5 6), (0, u "java/lang/AbstractStringBuilder"), (0, u "<init>"), (0, u "(I)V"), (11, .class_ 20), (1, u "java/lang/String"), (3, .class_ 26), (1, u "java/lang/StringBuilder"), (0, u "append"), (0, u "(Ljava/lang/String;)Ljava/lang/StringBuilder;"), (0, .methodref 2 30), (0, .nameAndType 27 31), (0, u "(Ljava/lang/String;)Ljava/lang/AbstractStringBuilder;"), (105, .methodref 18 138), (0, .nameAndType 5 139), (0, u "(Ljava/lang/StringBuilder;)V"), (5, u "()V"), (10, u "()I"), (186, .methodref 2 344), (0, .nameAndType 345 156), (0, u "length"), (3, .class_ 350), (0, u "java/lang/Appendable"), (0, .class_ 352), (0, u "java/io/Serializable"), (0, .class_ 354), (0, u "java/lang/Comparable"), (0, .class_ 356), (0, u "java/lang/CharSequence"), (0, u "serialVersionUID"), (0, u "J"), (40, u "toString"), (0, u "()Ljava/lang/String;")] 21

def k16c0 : Code := { maxStack := 2, maxLocals := 1, code := jdk_67_method_1_code, exceptionTable := #[], attributes := #[] }
def k16m0 : Method := { name := "<init>", desc := "()V", sig := { parameters := [], returnType := none }, accessFlags := 1, code := some k16c0 }
def k16c1 : Code := { maxStack := 2, maxLocals := 2, code := jdk_67_method_7_code, exceptionTable := #[], attributes := #[] }
def k16m1 : Method := { name := "append", desc := "(Ljava/lang/String;)Ljava/lang/StringBuilder;", sig := { parameters := [(.object "java/lang/String")], returnType := some (.object "java/lang/StringBuilder") }, accessFlags := 1, code := some k16c1 }
def k16c2 : Code := { maxStack := 3, maxLocals := 1, code := jdk_67_method_42_code, exceptionTable := #[], attributes := #[] }
def k16m2 : Method := { name := "toString", desc := "()Ljava/lang/String;", sig := { parameters := [], returnType := some (.object "java/lang/String") }, accessFlags := 1, code := some k16c2 }
def k16c3 : Code := { maxStack := 1, maxLocals := 1, code := jdk_67_method_93_code, exceptionTable := #[], attributes := #[] }
def k16m3 : Method := { name := "length", desc := "()I", sig := { parameters := [], returnType := some .int }, accessFlags := 4161, code := some k16c3 }
/-- java/lang/StringBuilder -/
def k16 : Class := { plain "java/lang/StringBuilder" (some 15) with
  accessFlags := 49
  interfaces := #[14, 2, 3, 4]
  cf := some (fileOf pool16 24 #[] #[{ accessFlags := 1, nameIndex := 5, descriptorIndex := 145, attributes := #[] }, { accessFlags := 1, nameIndex := 27, descriptorIndex := 28, attributes := #[] }, { accessFlags := 1, nameIndex := 399, descriptorIndex := 400, attributes := #[] }, { accessFlags := 4161, nameIndex := 345, descriptorIndex := 156, attributes := #[] }] 49 2 #[349, 351, 353, 355] #[{ accessFlags := 24, nameIndex := 357, descriptorIndex := 358, attributes := #[] }])
  fields := #[{ name := "serialVersionUID", type := .long, accessFlags := 24, slot := 0, constantValue := 0 }]
  methods := #[k16m0, k16m1, k16m2, k16m3]
  instanceTypes := #[(.array .byte), .byte, .boolean, .int]
  staticTypes := #[.long]
  resolved := Array.replicate 422 none
  statics := none }

def pool17 : Array CpInfo := pool [(2, .class_ 4), (1, u "java/lang/Object"), (0, u "<init>"), (0, u "()V"), (1, .class_ 10), (1, u "java/lang/System"), (0, u "allowSecurityManager"), (0, u "I"), (16, u "cons"), (0, u "Ljava/io/Console;"), (77, .class_ 110), (1, u "java/lang/System$CallersHolder"), (43, u "initialErrStream"), (0, u "Ljava/io/PrintStream;"), (19, u "security"), (0, u "Ljava/lang/SecurityManager;"), (31, .class_ 209), (0, u "java/lang/System$1"), (7, u "props"), (0, u "Ljava/util/Properties;"), (2, u "lineSeparator"), (0, u "Ljava/lang/String;"), (96, .class_ 321), (1, u "java/lang/System$LoggerFinder"), (5, .class_ 328), (0, u "java/lang/System$Logger"), (67, u "err"), (2, u "out"), (91, u "notSupportedJnuEncoding"), (15, u "in"), (17, u "initialIn"), (0, u "Ljava/io/InputStream;"), (35, u "bootLayer"), (0, u "Ljava/lang/ModuleLayer;"), (99, .class_ 664), (0, u "java/lang/System$2"), (9, u "NEVER"), (2, u "MAYBE"), (49, u "arraycopy"), (0, u "(Ljava/lang/Object;ILjava/lang/Object;II)V"), (72, .class_ 802), (0, u "java/lang/System$Logger$Level")] 31

def k17m0 : Method := { name := "<init>", desc := "()V", sig := { parameters := [], returnType := none }, accessFlags := 2, code := none }
def k17m1 : Method := { name := "arraycopy", desc := "(Ljava/lang/Object;ILjava/lang/Object;II)V", sig := { parameters := [(.object "java/lang/Object"), .int, (.object "java/lang/Object"), .int, .int], returnType := none }, accessFlags := 265, code := none }
/-- java/lang/System -/
def k17 : Class := { plain "java/lang/System" (some 0) with
  accessFlags := 49
  interfaces := #[]
  cf := some (fileOf pool17 8 #[.nestMembers #[319, 327, 801, 108, 663, 208]] #[{ accessFlags := 2, nameIndex := 5, descriptorIndex := 6, attributes := #[] }, { accessFlags := 265, nameIndex := 727, descriptorIndex := 728, attributes := #[] }] 49 2 #[] #[{ accessFlags := 25, nameIndex := 507, descriptorIndex := 526, attributes := #[] }, { accessFlags := 25, nameIndex := 399, descriptorIndex := 155, attributes := #[] }, { accessFlags := 25, nameIndex := 396, descriptorIndex := 155, attributes := #[] }, { accessFlags := 10, nameIndex := 525, descriptorIndex := 526, attributes := #[] }, { accessFlags := 26, nameIndex := 674, descriptorIndex := 12, attributes := #[] }, { accessFlags := 26, nameIndex := 677, descriptorIndex := 12, attributes := #[] }, { accessFlags := 10, nameIndex := 11, descriptorIndex := 12, attributes := #[] }, { accessFlags := 74, nameIndex := 175, descriptorIndex := 176, attributes := #[] }, { accessFlags := 10, nameIndex := 491, descriptorIndex := 222, attributes := #[] }, { accessFlags := 74, nameIndex := 29, descriptorIndex := 30, attributes := #[] }, { accessFlags := 74, nameIndex := 154, descriptorIndex := 155, attributes := #[] }, { accessFlags := 10, nameIndex := 217, descriptorIndex := 218, attributes := #[] }, { accessFlags := 10, nameIndex := 221, descriptorIndex := 222, attributes := #[] }, { accessFlags := 8, nameIndex := 562, descriptorIndex := 563, attributes := #[] }])
  fields := #[{ name := "in", type := (.object "java/io/InputStream"), accessFlags := 25, slot := 0, constantValue := 0 }, { name := "out", type := (.object "java/io/PrintStream"), accessFlags := 25, slot := 1, constantValue := 0 }, { name := "err", type := (.object "java/io/PrintStream"), accessFlags := 25, slot := 2, constantValue := 0 }, { name := "initialIn", type := (.object "java/io/InputStream"), accessFlags := 10, slot := 3, constantValue := 0 }, { name := "NEVER", type := .int, accessFlags := 26, slot := 4, constantValue := 0 }, { name := "MAYBE", type := .int, accessFlags := 26, slot := 5, constantValue := 0 }, { name := "allowSecurityManager", type := .int, accessFlags := 10, slot := 6, constantValue := 0 }, { name := "security", type := (.object "java/lang/SecurityManager"), accessFlags := 74, slot := 7, constantValue := 0 }, { name := "notSupportedJnuEncoding", type := (.object "java/lang/String"), accessFlags := 10, slot := 8, constantValue := 0 }, { name := "cons", type := (.object "java/io/Console"), accessFlags := 74, slot := 9, constantValue := 0 }, { name := "initialErrStream", type := (.object "java/io/PrintStream"), accessFlags := 74, slot := 10, constantValue := 0 }, { name := "props", type := (.object "java/util/Properties"), accessFlags := 10, slot := 11, constantValue := 0 }, { name := "lineSeparator", type := (.object "java/lang/String"), accessFlags := 10, slot := 12, constantValue := 0 }, { name := "bootLayer", type := (.object "java/lang/ModuleLayer"), accessFlags := 8, slot := 13, constantValue := 0 }]
  methods := #[k17m0, k17m1]
  instanceTypes := #[]
  staticTypes := #[(.object "java/io/InputStream"), (.object "java/io/PrintStream"), (.object "java/io/PrintStream"), (.object "java/io/InputStream"), .int, .int, .int, (.object "java/lang/SecurityManager"), (.object "java/lang/String"), (.object "java/io/Console"), (.object "java/io/PrintStream"), (.object "java/util/Properties"), (.object "java/lang/String"), (.object "java/lang/ModuleLayer")]
  resolved := Array.replicate 834 none
  statics := none }

def pool18 : Array CpInfo := pool [(2, .class_ 4), (1, u "java/lang/Object"), (0, u "<init>"), (0, u "()V"), (7, .class_ 16), (1, u "java/util/Arrays"), (57, .class_ 76), (1, u "java/util/Arrays$NaturalOrder"), (36, .class_ 115), (1, u "java/util/Arrays$LegacyMergeSort"), (1, u "Z"), (21, u "copyOfRange"), (10, .methodref 151 152), (0, .class_ 153), (0, .nameAndType 154 155), (0, u "java/lang/System"), (0, u "arraycopy"), (0, u "(Ljava/lang/Object;ILjava/lang/Object;II)V"), (148, .methodref 305 306), (0, .class_ 307), (0, .nameAndType 308 309), (0, u "java/lang/Math"), (0, u "min"), (0, u "(II)I"), (29, .methodref 14 340), (0, .nameAndType 341 342), (0, u "copyOfRangeByte"), (0, u "([BII)[B"), (0, .methodref 14 344), (0, .nameAndType 345 346), (0, u "checkLength"), (0, u "(II)V"), (28, .class_ 376), (0, u "java/util/Arrays$ArrayList"), (68, u "$assertionsDisabled"), (269, u "MIN_ARRAY_SORT_GRAN"), (0, u "I"), (2, u "INSERTIONSORT_THRESHOLD"), (255, .class_ 976), (0, u "java/util/Arrays$ArrayItr")] 52

def k18m0 : Method := { name := "<init>", desc := "()V", sig := { parameters := [], returnType := none }, accessFlags := 2, code := none }
def k18c1 : Code := { maxStack := 4, maxLocals := 2, code := jdk_65_method_131_code, exceptionTable := #[], attributes := #[] }
def k18m1 : Method := { name := "checkLength", desc := "(II)V", sig := { parameters := [.int, .int], returnType := none }, accessFlags := 10, code := some k18c1 }
def k18c2 : Code := { maxStack := 3, maxLocals := 3, code := jdk_65_method_132_code, exceptionTable := #[], attributes := #[] }
def k18m2 : Method := { name := "copyOfRange", desc := "([BII)[B", sig := { parameters := [(.array .byte), .int, .int], returnType := some (.array .byte) }, accessFlags := 9, code := some k18c2 }
def k18c3 : Code := { maxStack := 6, maxLocals := 5, code := jdk_65_method_133_code, exceptionTable := #[], attributes := #[] }
def k18m3 : Method := { name := "copyOfRangeByte", desc := "([BII)[B", sig := { parameters := [(.array .byte), .int, .int], returnType := some (.array .byte) }, accessFlags := 10, code := some k18c3 }
/-- java/util/Arrays -/
def k18 : Class := { plain "java/util/Arrays" (some 0) with
  accessFlags := 49
  interfaces := #[]
  cf := some (fileOf pool18 14 #[.nestMembers #[975, 375, 113, 74]] #[{ accessFlags := 2, nameIndex := 5, descriptorIndex := 6, attributes := #[] }, { accessFlags := 10, nameIndex := 345, descriptorIndex := 346, attributes := #[] }, { accessFlags := 9, nameIndex := 139, descriptorIndex := 342, attributes := #[] }, { accessFlags := 10, nameIndex := 341, descriptorIndex := 342, attributes := #[] }] 49 2 #[] #[{ accessFlags := 26, nameIndex := 715, descriptorIndex := 716, attributes := #[] }, { accessFlags := 26, nameIndex := 719, descriptorIndex := 716, attributes := #[] }, { accessFlags := 4120, nameIndex := 445, descriptorIndex := 117, attributes := #[] }])
  fields := #[{ name := "MIN_ARRAY_SORT_GRAN", type := .int, accessFlags := 26, slot := 0, constantValue := 0 }, { name := "INSERTIONSORT_THRESHOLD", type := .int, accessFlags := 26, slot := 1, constantValue := 0 }, { name := "$assertionsDisabled", type := .boolean, accessFlags := 4120, slot := 2, constantValue := 0 }]
  methods := #[k18m0, k18m1, k18m2, k18m3]
  instanceTypes := #[]
  staticTypes := #[.int, .int, .boolean]
  resolved := Array.replicate 1029 none
  statics := none }

def pool19 : Array CpInfo := pool [(2, .class_ 4), (1, u "java/lang/Object"), (0, u "<init>"), (0, u "()V"), (17, .class_ 26), (1, u "jdk/internal/util/Preconditions"), (28, .class_ 56), (0, u "jdk/internal/util/Preconditions$4"), (57, .class_ 115), (0, u "jdk/internal/util/Preconditions$1"), (7, u "SIOOBE_FORMATTER"), (0, u "Ljava/util/function/BiFunction;"), (0, .class_ 126), (0, u "jdk/internal/util/Preconditions$2"), (3, u "AIOOBE_FORMATTER"), (0, .class_ 132), (0, u "jdk/internal/util/Preconditions$3"), (3, u "IOOBE_FORMATTER")] 57

def k19m0 : Method := { name := "<init>", desc := "()V", sig := { parameters := [], returnType := none }, accessFlags := 1, code := none }
/-- jdk/internal/util/Preconditions -/
def k19 : Class := { plain "jdk/internal/util/Preconditions" (some 0) with
  accessFlags := 33
  interfaces := #[]
  cf := some (fileOf pool19 24 #[.nestMembers #[55, 131, 125, 114]] #[{ accessFlags := 1, nameIndex := 5, descriptorIndex := 6, attributes := #[] }] 33 2 #[] #[{ accessFlags := 25, nameIndex := 123, descriptorIndex := 124, attributes := #[] }, { accessFlags := 25, nameIndex := 130, descriptorIndex := 124, attributes := #[] }, { accessFlags := 25, nameIndex := 136, descriptorIndex := 124, attributes := #[] }])
  fields := #[{ name := "SIOOBE_FORMATTER", type := (.object "java/util/function/BiFunction"), accessFlags := 25, slot := 0, constantValue := 0 }, { name := "AIOOBE_FORMATTER", type := (.object "java/util/function/BiFunction"), accessFlags := 25, slot := 1, constantValue := 0 }, { name := "IOOBE_FORMATTER", type := (.object "java/util/function/BiFunction"), accessFlags := 25, slot := 2, constantValue := 0 }]
  methods := #[k19m0]
  instanceTypes := #[]
  staticTypes := #[(.object "java/util/function/BiFunction"), (.object "java/util/function/BiFunction"), (.object "java/util/function/BiFunction")]
  resolved := Array.replicate 194 none
  statics := some 1 }

def pool20 : Array CpInfo := pool [(9, u "<init>"), (6, .class_ 18), (1, u "java/lang/Object"), (0, u "()V"), (1, .class_ 23), (1, u "jdk/internal/util/ArraysSupport"), (0, u "LOG2_ARRAY_LONG_INDEX_SCALE"), (0, u "I"), (2, u "U"), (0, u "Ljdk/internal/misc/Unsafe;"), (8, u "BIG_ENDIAN"), (0, u "Z"), (8, u "LOG2_BYTE_BIT_SIZE"), (4, u "LOG2_ARRAY_INT_INDEX_SCALE"), (54, u "JLA"), (0, u "Ljdk/internal/access/JavaLangAccess;"), (11, u "LOG2_ARRAY_BOOLEAN_INDEX_SCALE"), (9, u "LOG2_ARRAY_BYTE_INDEX_SCALE"), (5, u "LOG2_ARRAY_CHAR_INDEX_SCALE"), (5, u "LOG2_ARRAY_SHORT_INDEX_SCALE"), (18, u "LOG2_ARRAY_FLOAT_INDEX_SCALE"), (24, u "LOG2_ARRAY_DOUBLE_INDEX_SCALE"), (89, u "T_BOOLEAN"), (2, u "T_CHAR"), (1, u "T_FLOAT"), (1, u "T_DOUBLE"), (1, u "T_BYTE"), (1, u "T_SHORT"), (1, u "T_INT"), (1, u "T_LONG"), (1, u "SOFT_MAX_ARRAY_LENGTH")] 83

def k20m0 : Method := { name := "<init>", desc := "()V", sig := { parameters := [], returnType := none }, accessFlags := 2, code := none }
/-- jdk/internal/util/ArraysSupport -/
def k20 : Class := { plain "jdk/internal/util/ArraysSupport" (some 0) with
  accessFlags := 33
  interfaces := #[]
  cf := some (fileOf pool20 21 #[] #[{ accessFlags := 2, nameIndex := 9, descriptorIndex := 19, attributes := #[] }] 33 16 #[] #[{ accessFlags := 24, nameIndex := 28, descriptorIndex := 29, attributes := #[] }, { accessFlags := 26, nameIndex := 38, descriptorIndex := 39, attributes := #[] }, { accessFlags := 25, nameIndex := 121, descriptorIndex := 25, attributes := #[] }, { accessFlags := 25, nameIndex := 131, descriptorIndex := 25, attributes := #[] }, { accessFlags := 25, nameIndex := 137, descriptorIndex := 25, attributes := #[] }, { accessFlags := 25, nameIndex := 143, descriptorIndex := 25, attributes := #[] }, { accessFlags := 25, nameIndex := 53, descriptorIndex := 25, attributes := #[] }, { accessFlags := 25, nameIndex := 24, descriptorIndex := 25, attributes := #[] }, { accessFlags := 25, nameIndex := 162, descriptorIndex := 25, attributes := #[] }, { accessFlags := 25, nameIndex := 187, descriptorIndex := 25, attributes := #[] }, { accessFlags := 26, nameIndex := 48, descriptorIndex := 25, attributes := #[] }, { accessFlags := 25, nameIndex := 277, descriptorIndex := 25, attributes := #[] }, { accessFlags := 25, nameIndex := 280, descriptorIndex := 25, attributes := #[] }, { accessFlags := 25, nameIndex := 282, descriptorIndex := 25, attributes := #[] }, { accessFlags := 25, nameIndex := 284, descriptorIndex := 25, attributes := #[] }, { accessFlags := 25, nameIndex := 286, descriptorIndex := 25, attributes := #[] }, { accessFlags := 25, nameIndex := 288, descriptorIndex := 25, attributes := #[] }, { accessFlags := 25, nameIndex := 290, descriptorIndex := 25, attributes := #[] }, { accessFlags := 25, nameIndex := 292, descriptorIndex := 25, attributes := #[] }, { accessFlags := 26, nameIndex := 108, descriptorIndex := 109, attributes := #[] }, { accessFlags := 25, nameIndex := 294, descriptorIndex := 25, attributes := #[] }])
  fields := #[{ name := "U", type := (.object "jdk/internal/misc/Unsafe"), accessFlags := 24, slot := 0, constantValue := 0 }, { name := "BIG_ENDIAN", type := .boolean, accessFlags := 26, slot := 1, constantValue := 0 }, { name := "LOG2_ARRAY_BOOLEAN_INDEX_SCALE", type := .int, accessFlags := 25, slot := 2, constantValue := 0 }, { name := "LOG2_ARRAY_BYTE_INDEX_SCALE", type := .int, accessFlags := 25, slot := 3, constantValue := 0 }, { name := "LOG2_ARRAY_CHAR_INDEX_SCALE", type := .int, accessFlags := 25, slot := 4, constantValue := 0 }, { name := "LOG2_ARRAY_SHORT_INDEX_SCALE", type := .int, accessFlags := 25, slot := 5, constantValue := 0 }, { name := "LOG2_ARRAY_INT_INDEX_SCALE", type := .int, accessFlags := 25, slot := 6, constantValue := 0 }, { name := "LOG2_ARRAY_LONG_INDEX_SCALE", type := .int, accessFlags := 25, slot := 7, constantValue := 0 }, { name := "LOG2_ARRAY_FLOAT_INDEX_SCALE", type := .int, accessFlags := 25, slot := 8, constantValue := 0 }, { name := "LOG2_ARRAY_DOUBLE_INDEX_SCALE", type := .int, accessFlags := 25, slot := 9, constantValue := 0 }, { name := "LOG2_BYTE_BIT_SIZE", type := .int, accessFlags := 26, slot := 10, constantValue := 0 }, { name := "T_BOOLEAN", type := .int, accessFlags := 25, slot := 11, constantValue := 0 }, { name := "T_CHAR", type := .int, accessFlags := 25, slot := 12, constantValue := 0 }, { name := "T_FLOAT", type := .int, accessFlags := 25, slot := 13, constantValue := 0 }, { name := "T_DOUBLE", type := .int, accessFlags := 25, slot := 14, constantValue := 0 }, { name := "T_BYTE", type := .int, accessFlags := 25, slot := 15, constantValue := 0 }, { name := "T_SHORT", type := .int, accessFlags := 25, slot := 16, constantValue := 0 }, { name := "T_INT", type := .int, accessFlags := 25, slot := 17, constantValue := 0 }, { name := "T_LONG", type := .int, accessFlags := 25, slot := 18, constantValue := 0 }, { name := "JLA", type := (.object "jdk/internal/access/JavaLangAccess"), accessFlags := 26, slot := 19, constantValue := 0 }, { name := "SOFT_MAX_ARRAY_LENGTH", type := .int, accessFlags := 25, slot := 20, constantValue := 0 }]
  methods := #[k20m0]
  instanceTypes := #[]
  staticTypes := #[(.object "jdk/internal/misc/Unsafe"), .boolean, .int, .int, .int, .int, .int, .int, .int, .int, .int, .int, .int, .int, .int, .int, .int, .int, .int, (.object "jdk/internal/access/JavaLangAccess"), .int]
  resolved := Array.replicate 378 none
  statics := none }

def pool21 : Array CpInfo := pool [(1, u "java/lang/Cloneable"), (0, .class_ 1), (0, u "java/lang/Object"), (0, .class_ 3)] 3

/-- java/lang/Cloneable -/
def k21 : Class := { plain "java/lang/Cloneable" (some 0) with
  accessFlags := 1537
  interfaces := #[]
  cf := some (fileOf pool21 2 #[] #[] 1537 4 #[] #[])
  fields := #[]
  methods := #[]
  instanceTypes := #[]
  staticTypes := #[]
  resolved := Array.replicate 8 none
  statics := none }

/-- the primitive byte -/
def k22 : Class := { plain "byte" none with kind := .primitive 'B', accessFlags := 0x411 }
/-- [B -/
def k23 : Class := { plain "[B" (some 0) with kind := .array 22 .byte, interfaces := #[21, 2], accessFlags := 1041 }

/-- the primitive char -/
def k24 : Class := { plain "char" none with kind := .primitive 'C', accessFlags := 0x411 }
/-- [C -/
def k25 : Class := { plain "[C" (some 0) with kind := .array 24 .char, interfaces := #[21, 2], accessFlags := 1041 }

/-- the primitive int -/
def k26 : Class := { plain "int" none with kind := .primitive 'I', accessFlags := 0x411 }
/-- [I -/
def k27 : Class := { plain "[I" (some 0) with kind := .array 26 .int, interfaces := #[21, 2], accessFlags := 1041 }

def heap : Heap := #[{ cls := 7, slots := #[.long 0, .int 1, .null, .int 0, .null, .int 0, .int 0], vm := .statics 7 },
  { cls := 19, slots := #[.null, .null, .null], vm := .statics 19 }]
def classes : Array Class := #[k0, k1, k2, k3, k4, k5, k6, k7, k8, k9, k10, k11, k12, k13, k14, k15, k16, k17, k18, k19, k20, k21, k22, k23, k24, k25, k26, k27]
def interned : List (Array UInt16 × Addr) := []
def slotsUsed : Nat := 10
def theMethod : MethodId := ⟨1, 2⟩
def args0 : Array Value := #[.int 5, .int 3]
def aboutOver (below : List Frame) : State where
  vm := { classes := classes, interned := interned.toArray }
  heap := heap
  slotsUsed := slotsUsed
  threads := #[{ frames := .invoking theMethod args0 :: below }]
def below0 : List Frame := [.native { method := ⟨0, 0⟩, args := #[] }]
def about1 : State := aboutOver below0
def p0 : Program := .bare "" "" ""
def e0 : Env := launch0.env 0 0 0
theorem w_frames : about1.frames = Frame.invoking theMethod args0 :: below0 := rfl
set_option maxRecDepth 65536 in
theorem w_args : argsFit about1.vm theMethod args0 = true := by decide +kernel
set_option maxRecDepth 65536 in
theorem w_heap : heapFits about1 = true := by decide +kernel
set_option maxRecDepth 65536 in
theorem w_runnable : about1.curStatus? = some .runnable := by decide +kernel
set_option maxRecDepth 65536 in
theorem w_alone : about1.alone = true := by decide +kernel
set_option maxRecDepth 65536 in
theorem w_named : about1.methodNamed? x = some theMethod := by decide +kernel
set_option maxRecDepth 65536 in
theorem w_hears : about1.hears theMethod below0 = true := by decide +kernel
set_option maxRecDepth 65536 in
theorem w_ripe : about1.ripe theMethod args0 below0 = true := by decide +kernel
theorem w_running : about1.status = .running := rfl
set_option maxRecDepth 65536 in
theorem w_room : about1.hasRoom e0.platform room_1 = true :=
  launch0.hasRoom_least _ room_1 (by decide +kernel) (by decide +kernel) (by decide +kernel) (by decide +kernel) (by decide +kernel) (by decide +kernel)
theorem allAtoms_all (ts : List Jvm.Cond) (a : Array Jvm.Value) (st : Jvm.State) : (allAtoms ts).before a st = ts.all (fun c => c.before a st) := by
  induction ts with
  | nil => rfl
  | cons c t ih =>
    show (Jvm.Cond.and c (allAtoms t)).before a st = _
    rw [Jvm.Cond.before_and, ih, List.all_cons]
def words1 : List Jvm.Cond := Jvm.Cond.code x code maxLocals ret :: tables_1
/-- a 'code' word, met by the world's own term for the bytes: nothing is compared byte by byte -/
theorem code_word {y : MethodName} {bytes : ByteArray} {mx : Nat} {rt : Option FieldType} {a : Array Value} {s : State} {m : MethodId} {meth : Method} {c : Code} (h1 : s.methodNamed? y = some m) (h2 : s.vm.method? m = some meth) (h3 : meth.code = some c) (h4 : c.code = bytes)
    (h5 : (c.maxLocals == mx && c.exceptionTable.isEmpty && decide (c.maxStack ≤ mostOperands) && decide (meth.sig.returnType = rt) && !meth.locks && decide (parseMethodDescriptor y.desc = some meth.sig)) = true) : (Jvm.Cond.code y bytes mx rt).before a s = true := by
  simp only [Bool.and_eq_true, beq_iff_eq, Bool.not_eq_true', decide_eq_true_eq] at h5
  obtain ⟨⟨⟨⟨⟨g1, g2⟩, g3⟩, g4⟩, g5⟩, g6⟩ := h5
  simp [Cond.before, Cond.holds, Cond.value, h1, h2, h3, h4, g1, g2, g3, g4, g5, g6]
def isCode : Jvm.Cond → Bool
  | .code _ _ _ _ => true
  | _ => false
theorem all_split {L : List Jvm.Cond} {P : Jvm.Cond → Bool} (h1 : L.all (fun c => isCode c || P c) = true) (h2 : ∀ c ∈ L.filter isCode, P c = true) : L.all P = true := by
  refine List.all_eq_true.mpr fun c hc => ?_
  have h := List.all_eq_true.mp h1 c hc
  rcases Bool.eq_false_or_eq_true (isCode c) with hi | hi
  · exact h2 c (List.mem_filter.mpr ⟨hc, hi⟩)
  · simpa [hi] using h
set_option maxRecDepth 65536 in
theorem w_c0 : (Jvm.Cond.code x code maxLocals ret).before args0 about1 = true := code_word (m := ⟨1, 2⟩) (meth := k1m2) (c := k1c2) (by decide +kernel) rfl rfl rfl (by decide +kernel)
set_option maxRecDepth 65536 in
theorem w_c1 : (Jvm.Cond.code ({ cls := "com/example/keen_roster/keenroster/core/IdentifierToStringPinLaw", name := "sysChar", desc := "(I)C" } : Jvm.MethodName) method_2_code (2 : Nat) (Option.some Jvm.ClassFile.FieldType.char)).before args0 about1 = true := code_word (m := ⟨1, 1⟩) (meth := k1m1) (c := k1c1) (by decide +kernel) rfl rfl rfl (by decide +kernel)
set_option maxRecDepth 65536 in
theorem w_c2 : (Jvm.Cond.code ({ cls := "java/lang/String", name := "<init>", desc := "([C)V" } : Jvm.MethodName) jdk_42_method_3_code (2 : Nat) (Option.none : Option Jvm.ClassFile.FieldType)).before args0 about1 = true := code_word (m := ⟨7, 1⟩) (meth := k7m1) (c := k7c1) (by decide +kernel) rfl rfl rfl (by decide +kernel)
set_option maxRecDepth 65536 in
theorem w_c3 : (Jvm.Cond.code ({ cls := "java/lang/String", name := "<init>", desc := "([CIILjava/lang/Void;)V" } : Jvm.MethodName) jdk_42_method_149_code (6 : Nat) (Option.none : Option Jvm.ClassFile.FieldType)).before args0 about1 = true := code_word (m := ⟨7, 9⟩) (meth := k7m9) (c := k7c9) (by decide +kernel) rfl rfl rfl (by decide +kernel)
set_option maxRecDepth 65536 in
theorem w_c4 : (Jvm.Cond.code ({ cls := "java/lang/Object", name := "<init>", desc := "()V" } : Jvm.MethodName) object_method_1_code (1 : Nat) (Option.none : Option Jvm.ClassFile.FieldType)).before args0 about1 = true := code_word (m := ⟨0, 0⟩) (meth := k0m0) (c := k0c0) (by decide +kernel) rfl rfl rfl (by decide +kernel)
set_option maxRecDepth 65536 in
theorem w_c5 : (Jvm.Cond.code ({ cls := "java/lang/StringUTF16", name := "compress", desc := "([CII)[B" } : Jvm.MethodName) jdk_52_method_16_code (6 : Nat) (Option.some (Jvm.ClassFile.FieldType.array Jvm.ClassFile.FieldType.byte))).before args0 about1 = true := code_word (m := ⟨8, 2⟩) (meth := k8m2) (c := k8c2) (by decide +kernel) rfl rfl rfl (by decide +kernel)
set_option maxRecDepth 65536 in
theorem w_c6 : (Jvm.Cond.code ({ cls := "java/lang/StringUTF16", name := "compress", desc := "([CI[BII)I" } : Jvm.MethodName) jdk_52_method_21_code (7 : Nat) (Option.some Jvm.ClassFile.FieldType.int)).before args0 about1 = true := code_word (m := ⟨8, 3⟩) (meth := k8m3) (c := k8c3) (by decide +kernel) rfl rfl rfl (by decide +kernel)
set_option maxRecDepth 65536 in
theorem w_c7 : (Jvm.Cond.code ({ cls := "java/lang/StringUTF16", name := "coderFromArrayLen", desc := "([BI)B" } : Jvm.MethodName) jdk_52_method_15_code (2 : Nat) (Option.some Jvm.ClassFile.FieldType.byte)).before args0 about1 = true := code_word (m := ⟨8, 1⟩) (meth := k8m1) (c := k8c1) (by decide +kernel) rfl rfl rfl (by decide +kernel)
set_option maxRecDepth 65536 in
theorem w_c8 : (Jvm.Cond.code ({ cls := "com/example/keen_roster/keenroster/core/Identifier", name := "<init>", desc := "(Ljava/lang/String;Ljava/lang/String;)V" } : Jvm.MethodName) prog_2_method_1_code (3 : Nat) (Option.none : Option Jvm.ClassFile.FieldType)).before args0 about1 = true := code_word (m := ⟨10, 0⟩) (meth := k10m0) (c := k10c0) (by decide +kernel) rfl rfl rfl (by decide +kernel)
set_option maxRecDepth 65536 in
theorem w_c9 : (Jvm.Cond.code ({ cls := "java/lang/Record", name := "<init>", desc := "()V" } : Jvm.MethodName) jdk_30_method_1_code (1 : Nat) (Option.none : Option Jvm.ClassFile.FieldType)).before args0 about1 = true := code_word (m := ⟨9, 0⟩) (meth := k9m0) (c := k9c0) (by decide +kernel) rfl rfl rfl (by decide +kernel)
set_option maxRecDepth 65536 in
theorem w_c10 : (Jvm.Cond.code ({ cls := "java/util/Objects", name := "requireNonNull", desc := "(Ljava/lang/Object;Ljava/lang/String;)Ljava/lang/Object;" } : Jvm.MethodName) jdk_31_method_11_code (2 : Nat) (Option.some (Jvm.ClassFile.FieldType.object "java/lang/Object"))).before args0 about1 = true := code_word (m := ⟨11, 1⟩) (meth := k11m1) (c := k11c1) (by decide +kernel) rfl rfl rfl (by decide +kernel)
set_option maxRecDepth 65536 in
theorem w_c11 : (Jvm.Cond.code ({ cls := "java/lang/String", name := "isEmpty", desc := "()Z" } : Jvm.MethodName) jdk_42_method_55_code (1 : Nat) (Option.some Jvm.ClassFile.FieldType.boolean)).before args0 about1 = true := code_word (m := ⟨7, 4⟩) (meth := k7m4) (c := k7c4) (by decide +kernel) rfl rfl rfl (by decide +kernel)
set_option maxRecDepth 65536 in
theorem w_c12 : (Jvm.Cond.code ({ cls := "java/lang/String", name := "indexOf", desc := "(I)I" } : Jvm.MethodName) jdk_42_method_79_code (2 : Nat) (Option.some Jvm.ClassFile.FieldType.int)).before args0 about1 = true := code_word (m := ⟨7, 6⟩) (meth := k7m6) (c := k7c6) (by decide +kernel) rfl rfl rfl (by decide +kernel)
set_option maxRecDepth 65536 in
theorem w_c13 : (Jvm.Cond.code ({ cls := "java/lang/String", name := "indexOf", desc := "(II)I" } : Jvm.MethodName) jdk_42_method_80_code (3 : Nat) (Option.some Jvm.ClassFile.FieldType.int)).before args0 about1 = true := code_word (m := ⟨7, 7⟩) (meth := k7m7) (c := k7c7) (by decide +kernel) rfl rfl rfl (by decide +kernel)
set_option maxRecDepth 65536 in
theorem w_c14 : (Jvm.Cond.code ({ cls := "java/lang/String", name := "isLatin1", desc := "()Z" } : Jvm.MethodName) jdk_42_method_154_code (1 : Nat) (Option.some Jvm.ClassFile.FieldType.boolean)).before args0 about1 = true := code_word (m := ⟨7, 12⟩) (meth := k7m12) (c := k7c12) (by decide +kernel) rfl rfl rfl (by decide +kernel)
set_option maxRecDepth 65536 in
theorem w_c15 : (Jvm.Cond.code ({ cls := "java/lang/String", name := "length", desc := "()I" } : Jvm.MethodName) jdk_42_method_54_code (1 : Nat) (Option.some Jvm.ClassFile.FieldType.int)).before args0 about1 = true := code_word (m := ⟨7, 3⟩) (meth := k7m3) (c := k7c3) (by decide +kernel) rfl rfl rfl (by decide +kernel)
set_option maxRecDepth 65536 in
theorem w_c16 : (Jvm.Cond.code ({ cls := "java/lang/String", name := "coder", desc := "()B" } : Jvm.MethodName) jdk_42_method_152_code (1 : Nat) (Option.some Jvm.ClassFile.FieldType.byte)).before args0 about1 = true := code_word (m := ⟨7, 11⟩) (meth := k7m11) (c := k7c11) (by decide +kernel) rfl rfl rfl (by decide +kernel)
set_option maxRecDepth 65536 in
theorem w_c17 : (Jvm.Cond.code ({ cls := "java/lang/StringLatin1", name := "indexOf", desc := "([BIII)I" } : Jvm.MethodName) jdk_43_method_22_code (4 : Nat) (Option.some Jvm.ClassFile.FieldType.int)).before args0 about1 = true := code_word (m := ⟨12, 3⟩) (meth := k12m3) (c := k12c3) (by decide +kernel) rfl rfl rfl (by decide +kernel)
set_option maxRecDepth 65536 in
theorem w_c18 : (Jvm.Cond.code ({ cls := "java/lang/StringLatin1", name := "canEncode", desc := "(I)Z" } : Jvm.MethodName) jdk_43_method_4_code (1 : Nat) (Option.some Jvm.ClassFile.FieldType.boolean)).before args0 about1 = true := code_word (m := ⟨12, 1⟩) (meth := k12m1) (c := k12c1) (by decide +kernel) rfl rfl rfl (by decide +kernel)
set_option maxRecDepth 65536 in
theorem w_c19 : (Jvm.Cond.code ({ cls := "java/lang/Math", name := "max", desc := "(II)I" } : Jvm.MethodName) jdk_29_method_65_code (2 : Nat) (Option.some Jvm.ClassFile.FieldType.int)).before args0 about1 = true := code_word (m := ⟨13, 1⟩) (meth := k13m1) (c := k13c1) (by decide +kernel) rfl rfl rfl (by decide +kernel)
set_option maxRecDepth 65536 in
theorem w_c20 : (Jvm.Cond.code ({ cls := "java/lang/Math", name := "min", desc := "(II)I" } : Jvm.MethodName) jdk_29_method_69_code (2 : Nat) (Option.some Jvm.ClassFile.FieldType.int)).before args0 about1 = true := code_word (m := ⟨13, 2⟩) (meth := k13m2) (c := k13c2) (by decide +kernel) rfl rfl rfl (by decide +kernel)
set_option maxRecDepth 65536 in
theorem w_c21 : (Jvm.Cond.code ({ cls := "java/lang/StringLatin1", name := "indexOfChar", desc := "([BIII)I" } : Jvm.MethodName) jdk_43_method_23_code (6 : Nat) (Option.some Jvm.ClassFile.FieldType.int)).before args0 about1 = true := code_word (m := ⟨12, 4⟩) (meth := k12m4) (c := k12c4) (by decide +kernel) rfl rfl rfl (by decide +kernel)
set_option maxRecDepth 65536 in
theorem w_c22 : (Jvm.Cond.code ({ cls := "com/example/keen_roster/keenroster/core/Identifier", name := "toString", desc := "()Ljava/lang/String;" } : Jvm.MethodName) prog_2_method_3_code (1 : Nat) (Option.some (Jvm.ClassFile.FieldType.object "java/lang/String"))).before args0 about1 = true := code_word (m := ⟨10, 1⟩) (meth := k10m1) (c := k10c1) (by decide +kernel) rfl rfl rfl (by decide +kernel)
set_option maxRecDepth 65536 in
theorem w_c23 : (Jvm.Cond.code ({ cls := "java/lang/StringBuilder", name := "<init>", desc := "()V" } : Jvm.MethodName) jdk_67_method_1_code (1 : Nat) (Option.none : Option Jvm.ClassFile.FieldType)).before args0 about1 = true := code_word (m := ⟨16, 0⟩) (meth := k16m0) (c := k16c0) (by decide +kernel) rfl rfl rfl (by decide +kernel)
set_option maxRecDepth 65536 in
theorem w_c24 : (Jvm.Cond.code ({ cls := "java/lang/AbstractStringBuilder", name := "<init>", desc := "(I)V" } : Jvm.MethodName) jdk_68_method_2_code (2 : Nat) (Option.none : Option Jvm.ClassFile.FieldType)).before args0 about1 = true := code_word (m := ⟨15, 1⟩) (meth := k15m1) (c := k15c1) (by decide +kernel) rfl rfl rfl (by decide +kernel)
set_option maxRecDepth 65536 in
theorem w_c25 : (Jvm.Cond.code ({ cls := "java/lang/StringBuilder", name := "append", desc := "(Ljava/lang/String;)Ljava/lang/StringBuilder;" } : Jvm.MethodName) jdk_67_method_7_code (2 : Nat) (Option.some (Jvm.ClassFile.FieldType.object "java/lang/StringBuilder"))).before args0 about1 = true := code_word (m := ⟨16, 1⟩) (meth := k16m1) (c := k16c1) (by decide +kernel) rfl rfl rfl (by decide +kernel)
set_option maxRecDepth 65536 in
theorem w_c26 : (Jvm.Cond.code ({ cls := "java/lang/AbstractStringBuilder", name := "append", desc := "(Ljava/lang/String;)Ljava/lang/AbstractStringBuilder;" } : Jvm.MethodName) jdk_68_method_22_code (3 : Nat) (Option.some (Jvm.ClassFile.FieldType.object "java/lang/AbstractStringBuilder"))).before args0 about1 = true := code_word (m := ⟨15, 4⟩) (meth := k15m4) (c := k15c4) (by decide +kernel) rfl rfl rfl (by decide +kernel)
set_option maxRecDepth 65536 in
theorem w_c27 : (Jvm.Cond.code ({ cls := "java/lang/AbstractStringBuilder", name := "ensureCapacityInternal", desc := "(I)V" } : Jvm.MethodName) jdk_68_method_9_code (3 : Nat) (Option.none : Option Jvm.ClassFile.FieldType)).before args0 about1 = true := code_word (m := ⟨15, 3⟩) (meth := k15m3) (c := k15c3) (by decide +kernel) rfl rfl rfl (by decide +kernel)
set_option maxRecDepth 65536 in
theorem w_c28 : (Jvm.Cond.code ({ cls := "java/lang/AbstractStringBuilder", name := "putStringAt", desc := "(ILjava/lang/String;)V" } : Jvm.MethodName) jdk_68_method_73_code (3 : Nat) (Option.none : Option Jvm.ClassFile.FieldType)).before args0 about1 = true := code_word (m := ⟨15, 8⟩) (meth := k15m8) (c := k15c8) (by decide +kernel) rfl rfl rfl (by decide +kernel)
set_option maxRecDepth 65536 in
theorem w_c29 : (Jvm.Cond.code ({ cls := "java/lang/AbstractStringBuilder", name := "inflateIfNeededFor", desc := "(Ljava/lang/String;)V" } : Jvm.MethodName) jdk_68_method_71_code (2 : Nat) (Option.none : Option Jvm.ClassFile.FieldType)).before args0 about1 = true := code_word (m := ⟨15, 7⟩) (meth := k15m7) (c := k15c7) (by decide +kernel) rfl rfl rfl (by decide +kernel)
set_option maxRecDepth 65536 in
theorem w_c30 : (Jvm.Cond.code ({ cls := "java/lang/String", name := "getBytes", desc := "([BIB)V" } : Jvm.MethodName) jdk_42_method_147_code (4 : Nat) (Option.none : Option Jvm.ClassFile.FieldType)).before args0 about1 = true := code_word (m := ⟨7, 8⟩) (meth := k7m8) (c := k7c8) (by decide +kernel) rfl rfl rfl (by decide +kernel)
set_option maxRecDepth 65536 in
theorem w_c31 : (Jvm.Cond.code ({ cls := "java/lang/StringBuilder", name := "toString", desc := "()Ljava/lang/String;" } : Jvm.MethodName) jdk_67_method_42_code (1 : Nat) (Option.some (Jvm.ClassFile.FieldType.object "java/lang/String"))).before args0 about1 = true := code_word (m := ⟨16, 2⟩) (meth := k16m2) (c := k16c2) (by decide +kernel) rfl rfl rfl (by decide +kernel)
set_option maxRecDepth 65536 in
theorem w_c32 : (Jvm.Cond.code ({ cls := "java/lang/String", name := "<init>", desc := "(Ljava/lang/StringBuilder;)V" } : Jvm.MethodName) jdk_42_method_53_code (2 : Nat) (Option.none : Option Jvm.ClassFile.FieldType)).before args0 about1 = true := code_word (m := ⟨7, 2⟩) (meth := k7m2) (c := k7c2) (by decide +kernel) rfl rfl rfl (by decide +kernel)
set_option maxRecDepth 65536 in
theorem w_c33 : (Jvm.Cond.code ({ cls := "java/lang/String", name := "<init>", desc := "(Ljava/lang/AbstractStringBuilder;Ljava/lang/Void;)V" } : Jvm.MethodName) jdk_42_method_150_code (5 : Nat) (Option.none : Option Jvm.ClassFile.FieldType)).before args0 about1 = true := code_word (m := ⟨7, 10⟩) (meth := k7m10) (c := k7c10) (by decide +kernel) rfl rfl rfl (by decide +kernel)
set_option maxRecDepth 65536 in
theorem w_c34 : (Jvm.Cond.code ({ cls := "java/lang/AbstractStringBuilder", name := "getValue", desc := "()[B" } : Jvm.MethodName) jdk_68_method_64_code (1 : Nat) (Option.some (Jvm.ClassFile.FieldType.array Jvm.ClassFile.FieldType.byte))).before args0 about1 = true := code_word (m := ⟨15, 5⟩) (meth := k15m5) (c := k15c5) (by decide +kernel) rfl rfl rfl (by decide +kernel)
set_option maxRecDepth 65536 in
theorem w_c35 : (Jvm.Cond.code ({ cls := "java/lang/StringBuilder", name := "length", desc := "()I" } : Jvm.MethodName) jdk_67_method_93_code (1 : Nat) (Option.some Jvm.ClassFile.FieldType.int)).before args0 about1 = true := code_word (m := ⟨16, 3⟩) (meth := k16m3) (c := k16c3) (by decide +kernel) rfl rfl rfl (by decide +kernel)
set_option maxRecDepth 65536 in
theorem w_c36 : (Jvm.Cond.code ({ cls := "java/lang/AbstractStringBuilder", name := "length", desc := "()I" } : Jvm.MethodName) jdk_68_method_6_code (1 : Nat) (Option.some Jvm.ClassFile.FieldType.int)).before args0 about1 = true := code_word (m := ⟨15, 2⟩) (meth := k15m2) (c := k15c2) (by decide +kernel) rfl rfl rfl (by decide +kernel)
set_option maxRecDepth 65536 in
theorem w_c37 : (Jvm.Cond.code ({ cls := "java/lang/AbstractStringBuilder", name := "isLatin1", desc := "()Z" } : Jvm.MethodName) jdk_68_method_68_code (1 : Nat) (Option.some Jvm.ClassFile.FieldType.boolean)).before args0 about1 = true := code_word (m := ⟨15, 6⟩) (meth := k15m6) (c := k15c6) (by decide +kernel) rfl rfl rfl (by decide +kernel)
set_option maxRecDepth 65536 in
theorem w_c38 : (Jvm.Cond.code ({ cls := "java/util/Arrays", name := "copyOfRange", desc := "([BII)[B" } : Jvm.MethodName) jdk_65_method_132_code (3 : Nat) (Option.some (Jvm.ClassFile.FieldType.array Jvm.ClassFile.FieldType.byte))).before args0 about1 = true := code_word (m := ⟨18, 2⟩) (meth := k18m2) (c := k18c2) (by decide +kernel) rfl rfl rfl (by decide +kernel)
set_option maxRecDepth 65536 in
theorem w_c39 : (Jvm.Cond.code ({ cls := "java/util/Arrays", name := "copyOfRangeByte", desc := "([BII)[B" } : Jvm.MethodName) jdk_65_method_133_code (5 : Nat) (Option.some (Jvm.ClassFile.FieldType.array Jvm.ClassFile.FieldType.byte))).before args0 about1 = true := code_word (m := ⟨18, 3⟩) (meth := k18m3) (c := k18c3) (by decide +kernel) rfl rfl rfl (by decide +kernel)
set_option maxRecDepth 65536 in
theorem w_c40 : (Jvm.Cond.code ({ cls := "java/util/Arrays", name := "checkLength", desc := "(II)V" } : Jvm.MethodName) jdk_65_method_131_code (2 : Nat) (Option.none : Option Jvm.ClassFile.FieldType)).before args0 about1 = true := code_word (m := ⟨18, 1⟩) (meth := k18m1) (c := k18c1) (by decide +kernel) rfl rfl rfl (by decide +kernel)
set_option maxRecDepth 65536 in
theorem w_c41 : (Jvm.Cond.code ({ cls := "java/lang/String", name := "equals", desc := "(Ljava/lang/Object;)Z" } : Jvm.MethodName) jdk_42_method_66_code (3 : Nat) (Option.some Jvm.ClassFile.FieldType.boolean)).before args0 about1 = true := code_word (m := ⟨7, 5⟩) (meth := k7m5) (c := k7c5) (by decide +kernel) rfl rfl rfl (by decide +kernel)
set_option maxRecDepth 65536 in
theorem w_c42 : (Jvm.Cond.code ({ cls := "java/lang/StringLatin1", name := "equals", desc := "([B[B)Z" } : Jvm.MethodName) jdk_43_method_13_code (3 : Nat) (Option.some Jvm.ClassFile.FieldType.boolean)).before args0 about1 = true := code_word (m := ⟨12, 2⟩) (meth := k12m2) (c := k12c2) (by decide +kernel) rfl rfl rfl (by decide +kernel)
def codes1 : List Jvm.Cond := [Jvm.Cond.code x code maxLocals ret, Jvm.Cond.code ({ cls := "com/example/keen_roster/keenroster/core/IdentifierToStringPinLaw", name := "sysChar", desc := "(I)C" } : Jvm.MethodName) method_2_code (2 : Nat) (Option.some Jvm.ClassFile.FieldType.char), Jvm.Cond.code ({ cls := "java/lang/String", name := "<init>", desc := "([C)V" } : Jvm.MethodName) jdk_42_method_3_code (2 : Nat) (Option.none : Option Jvm.ClassFile.FieldType), Jvm.Cond.code ({ cls := "java/lang/String", name := "<init>", desc := "([CIILjava/lang/Void;)V" } : Jvm.MethodName) jdk_42_method_149_code (6 : Nat) (Option.none : Option Jvm.ClassFile.FieldType), Jvm.Cond.code ({ cls := "java/lang/Object", name := "<init>", desc := "()V" } : Jvm.MethodName) object_method_1_code (1 : Nat) (Option.none : Option Jvm.ClassFile.FieldType), Jvm.Cond.code ({ cls := "java/lang/StringUTF16", name := "compress", desc := "([CII)[B" } : Jvm.MethodName) jdk_52_method_16_code (6 : Nat) (Option.some (Jvm.ClassFile.FieldType.array Jvm.ClassFile.FieldType.byte)), Jvm.Cond.code ({ cls := "java/lang/StringUTF16", name := "compress", desc := "([CI[BII)I" } : Jvm.MethodName) jdk_52_method_21_code (7 : Nat) (Option.some Jvm.ClassFile.FieldType.int), Jvm.Cond.code ({ cls := "java/lang/StringUTF16", name := "coderFromArrayLen", desc := "([BI)B" } : Jvm.MethodName) jdk_52_method_15_code (2 : Nat) (Option.some Jvm.ClassFile.FieldType.byte), Jvm.Cond.code ({ cls := "com/example/keen_roster/keenroster/core/Identifier", name := "<init>", desc := "(Ljava/lang/String;Ljava/lang/String;)V" } : Jvm.MethodName) prog_2_method_1_code (3 : Nat) (Option.none : Option Jvm.ClassFile.FieldType), Jvm.Cond.code ({ cls := "java/lang/Record", name := "<init>", desc := "()V" } : Jvm.MethodName) jdk_30_method_1_code (1 : Nat) (Option.none : Option Jvm.ClassFile.FieldType), Jvm.Cond.code ({ cls := "java/util/Objects", name := "requireNonNull", desc := "(Ljava/lang/Object;Ljava/lang/String;)Ljava/lang/Object;" } : Jvm.MethodName) jdk_31_method_11_code (2 : Nat) (Option.some (Jvm.ClassFile.FieldType.object "java/lang/Object")), Jvm.Cond.code ({ cls := "java/lang/String", name := "isEmpty", desc := "()Z" } : Jvm.MethodName) jdk_42_method_55_code (1 : Nat) (Option.some Jvm.ClassFile.FieldType.boolean), Jvm.Cond.code ({ cls := "java/lang/String", name := "indexOf", desc := "(I)I" } : Jvm.MethodName) jdk_42_method_79_code (2 : Nat) (Option.some Jvm.ClassFile.FieldType.int), Jvm.Cond.code ({ cls := "java/lang/String", name := "indexOf", desc := "(II)I" } : Jvm.MethodName) jdk_42_method_80_code (3 : Nat) (Option.some Jvm.ClassFile.FieldType.int), Jvm.Cond.code ({ cls := "java/lang/String", name := "isLatin1", desc := "()Z" } : Jvm.MethodName) jdk_42_method_154_code (1 : Nat) (Option.some Jvm.ClassFile.FieldType.boolean), Jvm.Cond.code ({ cls := "java/lang/String", name := "length", desc := "()I" } : Jvm.MethodName) jdk_42_method_54_code (1 : Nat) (Option.some Jvm.ClassFile.FieldType.int), Jvm.Cond.code ({ cls := "java/lang/String", name := "coder", desc := "()B" } : Jvm.MethodName) jdk_42_method_152_code (1 : Nat) (Option.some Jvm.ClassFile.FieldType.byte), Jvm.Cond.code ({ cls := "java/lang/StringLatin1", name := "indexOf", desc := "([BIII)I" } : Jvm.MethodName) jdk_43_method_22_code (4 : Nat) (Option.some Jvm.ClassFile.FieldType.int), Jvm.Cond.code ({ cls := "java/lang/StringLatin1", name := "canEncode", desc := "(I)Z" } : Jvm.MethodName) jdk_43_method_4_code (1 : Nat) (Option.some Jvm.ClassFile.FieldType.boolean), Jvm.Cond.code ({ cls := "java/lang/Math", name := "max", desc := "(II)I" } : Jvm.MethodName) jdk_29_method_65_code (2 : Nat) (Option.some Jvm.ClassFile.FieldType.int), Jvm.Cond.code ({ cls := "java/lang/Math", name := "min", desc := "(II)I" } : Jvm.MethodName) jdk_29_method_69_code (2 : Nat) (Option.some Jvm.ClassFile.FieldType.int), Jvm.Cond.code ({ cls := "java/lang/StringLatin1", name := "indexOfChar", desc := "([BIII)I" } : Jvm.MethodName) jdk_43_method_23_code (6 : Nat) (Option.some Jvm.ClassFile.FieldType.int), Jvm.Cond.code ({ cls := "com/example/keen_roster/keenroster/core/Identifier", name := "toString", desc := "()Ljava/lang/String;" } : Jvm.MethodName) prog_2_method_3_code (1 : Nat) (Option.some (Jvm.ClassFile.FieldType.object "java/lang/String")), Jvm.Cond.code ({ cls := "java/lang/StringBuilder", name := "<init>", desc := "()V" } : Jvm.MethodName) jdk_67_method_1_code (1 : Nat) (Option.none : Option Jvm.ClassFile.FieldType), Jvm.Cond.code ({ cls := "java/lang/AbstractStringBuilder", name := "<init>", desc := "(I)V" } : Jvm.MethodName) jdk_68_method_2_code (2 : Nat) (Option.none : Option Jvm.ClassFile.FieldType), Jvm.Cond.code ({ cls := "java/lang/StringBuilder", name := "append", desc := "(Ljava/lang/String;)Ljava/lang/StringBuilder;" } : Jvm.MethodName) jdk_67_method_7_code (2 : Nat) (Option.some (Jvm.ClassFile.FieldType.object "java/lang/StringBuilder")), Jvm.Cond.code ({ cls := "java/lang/AbstractStringBuilder", name := "append", desc := "(Ljava/lang/String;)Ljava/lang/AbstractStringBuilder;" } : Jvm.MethodName) jdk_68_method_22_code (3 : Nat) (Option.some (Jvm.ClassFile.FieldType.object "java/lang/AbstractStringBuilder")), Jvm.Cond.code ({ cls := "java/lang/AbstractStringBuilder", name := "ensureCapacityInternal", desc := "(I)V" } : Jvm.MethodName) jdk_68_method_9_code (3 : Nat) (Option.none : Option Jvm.ClassFile.FieldType), Jvm.Cond.code ({ cls := "java/lang/AbstractStringBuilder", name := "putStringAt", desc := "(ILjava/lang/String;)V" } : Jvm.MethodName) jdk_68_method_73_code (3 : Nat) (Option.none : Option Jvm.ClassFile.FieldType), Jvm.Cond.code ({ cls := "java/lang/AbstractStringBuilder", name := "inflateIfNeededFor", desc := "(Ljava/lang/String;)V" } : Jvm.MethodName) jdk_68_method_71_code (2 : Nat) (Option.none : Option Jvm.ClassFile.FieldType), Jvm.Cond.code ({ cls := "java/lang/String", name := "getBytes", desc := "([BIB)V" } : Jvm.MethodName) jdk_42_method_147_code (4 : Nat) (Option.none : Option Jvm.ClassFile.FieldType), Jvm.Cond.code ({ cls := "java/lang/StringBuilder", name := "toString", desc := "()Ljava/lang/String;" } : Jvm.MethodName) jdk_67_method_42_code (1 : Nat) (Option.some (Jvm.ClassFile.FieldType.object "java/lang/String")), Jvm.Cond.code ({ cls := "java/lang/String", name := "<init>", desc := "(Ljava/lang/StringBuilder;)V" } : Jvm.MethodName) jdk_42_method_53_code (2 : Nat) (Option.none : Option Jvm.ClassFile.FieldType), Jvm.Cond.code ({ cls := "java/lang/String", name := "<init>", desc := "(Ljava/lang/AbstractStringBuilder;Ljava/lang/Void;)V" } : Jvm.MethodName) jdk_42_method_150_code (5 : Nat) (Option.none : Option Jvm.ClassFile.FieldType), Jvm.Cond.code ({ cls := "java/lang/AbstractStringBuilder", name := "getValue", desc := "()[B" } : Jvm.MethodName) jdk_68_method_64_code (1 : Nat) (Option.some (Jvm.ClassFile.FieldType.array Jvm.ClassFile.FieldType.byte)), Jvm.Cond.code ({ cls := "java/lang/StringBuilder", name := "length", desc := "()I" } : Jvm.MethodName) jdk_67_method_93_code (1 : Nat) (Option.some Jvm.ClassFile.FieldType.int), Jvm.Cond.code ({ cls := "java/lang/AbstractStringBuilder", name := "length", desc := "()I" } : Jvm.MethodName) jdk_68_method_6_code (1 : Nat) (Option.some Jvm.ClassFile.FieldType.int), Jvm.Cond.code ({ cls := "java/lang/AbstractStringBuilder", name := "isLatin1", desc := "()Z" } : Jvm.MethodName) jdk_68_method_68_code (1 : Nat) (Option.some Jvm.ClassFile.FieldType.boolean), Jvm.Cond.code ({ cls := "java/util/Arrays", name := "copyOfRange", desc := "([BII)[B" } : Jvm.MethodName) jdk_65_method_132_code (3 : Nat) (Option.some (Jvm.ClassFile.FieldType.array Jvm.ClassFile.FieldType.byte)), Jvm.Cond.code ({ cls := "java/util/Arrays", name := "copyOfRangeByte", desc := "([BII)[B" } : Jvm.MethodName) jdk_65_method_133_code (5 : Nat) (Option.some (Jvm.ClassFile.FieldType.array Jvm.ClassFile.FieldType.byte)), Jvm.Cond.code ({ cls := "java/util/Arrays", name := "checkLength", desc := "(II)V" } : Jvm.MethodName) jdk_65_method_131_code (2 : Nat) (Option.none : Option Jvm.ClassFile.FieldType), Jvm.Cond.code ({ cls := "java/lang/String", name := "equals", desc := "(Ljava/lang/Object;)Z" } : Jvm.MethodName) jdk_42_method_66_code (3 : Nat) (Option.some Jvm.ClassFile.FieldType.boolean), Jvm.Cond.code ({ cls := "java/lang/StringLatin1", name := "equals", desc := "([B[B)Z" } : Jvm.MethodName) jdk_43_method_13_code (3 : Nat) (Option.some Jvm.ClassFile.FieldType.boolean)]
set_option maxRecDepth 65536 in
theorem codes_eq : words1.filter isCode = codes1 := rfl
theorem w_codes : ∀ c ∈ words1.filter isCode, c.before args0 about1 = true := by
  rw [codes_eq]
  intro c hc
  simp only [codes1, List.mem_cons, List.not_mem_nil, or_false] at hc
  rcases hc with rfl | rfl | rfl | rfl | rfl | rfl | rfl | rfl | rfl | rfl | rfl | rfl | rfl | rfl | rfl | rfl | rfl | rfl | rfl | rfl | rfl | rfl | rfl | rfl | rfl | rfl | rfl | rfl | rfl | rfl | rfl | rfl | rfl | rfl | rfl | rfl | rfl | rfl | rfl | rfl | rfl | rfl | rfl
  · exact w_c0
  · exact w_c1
  · exact w_c2
  · exact w_c3
  · exact w_c4
  · exact w_c5
  · exact w_c6
  · exact w_c7
  · exact w_c8
  · exact w_c9
  · exact w_c10
  · exact w_c11
  · exact w_c12
  · exact w_c13
  · exact w_c14
  · exact w_c15
  · exact w_c16
  · exact w_c17
  · exact w_c18
  · exact w_c19
  · exact w_c20
  · exact w_c21
  · exact w_c22
  · exact w_c23
  · exact w_c24
  · exact w_c25
  · exact w_c26
  · exact w_c27
  · exact w_c28
  · exact w_c29
  · exact w_c30
  · exact w_c31
  · exact w_c32
  · exact w_c33
  · exact w_c34
  · exact w_c35
  · exact w_c36
  · exact w_c37
  · exact w_c38
  · exact w_c39
  · exact w_c40
  · exact w_c41
  · exact w_c42
set_option maxRecDepth 65536 in
theorem w_t1 : (words1.take 24).all (fun c => isCode c || c.before args0 about1) = true := by decide +kernel
set_option maxRecDepth 65536 in
theorem w_t2 : ((words1.drop 24).take 24).all (fun c => isCode c || c.before args0 about1) = true := by decide +kernel
set_option maxRecDepth 65536 in
theorem w_t3 : (((words1.drop 24).drop 24).take 24).all (fun c => isCode c || c.before args0 about1) = true := by decide +kernel
set_option maxRecDepth 65536 in
theorem w_t4 : ((((words1.drop 24).drop 24).drop 24).take 24).all (fun c => isCode c || c.before args0 about1) = true := by decide +kernel
set_option maxRecDepth 65536 in
theorem w_t5 : (((((words1.drop 24).drop 24).drop 24).drop 24).take 24).all (fun c => isCode c || c.before args0 about1) = true := by decide +kernel
set_option maxRecDepth 65536 in
theorem w_t6 : ((((((words1.drop 24).drop 24).drop 24).drop 24).drop 24).take 24).all (fun c => isCode c || c.before args0 about1) = true := by decide +kernel
set_option maxRecDepth 65536 in
theorem w_t7 : (((((((words1.drop 24).drop 24).drop 24).drop 24).drop 24).drop 24).take 24).all (fun c => isCode c || c.before args0 about1) = true := by decide +kernel
set_option maxRecDepth 65536 in
theorem w_t8 : ((((((((words1.drop 24).drop 24).drop 24).drop 24).drop 24).drop 24).drop 24).take 24).all (fun c => isCode c || c.before args0 about1) = true := by decide +kernel
set_option maxRecDepth 65536 in
theorem w_t9 : (((((((((words1.drop 24).drop 24).drop 24).drop 24).drop 24).drop 24).drop 24).drop 24).take 24).all (fun c => isCode c || c.before args0 about1) = true := by decide +kernel
set_option maxRecDepth 65536 in
theorem w_t10 : (((((((((words1.drop 24).drop 24).drop 24).drop 24).drop 24).drop 24).drop 24).drop 24).drop 24).all (fun c => isCode c || c.before args0 about1) = true := by decide +kernel
theorem w_tables : (allAtoms (Jvm.Cond.code x code maxLocals ret :: tables_1)).before args0 about1 = true := by
  rw [allAtoms_all]
  show words1.all (fun c => c.before args0 about1) = true
  refine all_split ?_ w_codes
  rw [← List.take_append_drop 24 words1, List.all_append, w_t1, ← List.take_append_drop 24 (words1.drop 24), List.all_append, w_t2, ← List.take_append_drop 24 ((words1.drop 24).drop 24), List.all_append, w_t3, ← List.take_append_drop 24 (((words1.drop 24).drop 24).drop 24), List.all_append, w_t4, ← List.take_append_drop 24 ((((words1.drop 24).drop 24).drop 24).drop 24), List.all_append, w_t5, ← List.take_append_drop 24 (((((words1.drop 24).drop 24).drop 24).drop 24).drop 24), List.all_append, w_t6, ← List.take_append_drop 24 ((((((words1.drop 24).drop 24).drop 24).drop 24).drop 24).drop 24), List.all_append, w_t7, ← List.take_append_drop 24 (((((((words1.drop 24).drop 24).drop 24).drop 24).drop 24).drop 24).drop 24), List.all_append, w_t8, ← List.take_append_drop 24 ((((((((words1.drop 24).drop 24).drop 24).drop 24).drop 24).drop 24).drop 24).drop 24), List.all_append, w_t9, w_t10]
  rfl
set_option maxRecDepth 65536 in
theorem w_rest : rest_1_c.before args0 about1 = true := by decide +kernel
set_option maxRecDepth 65536 in
theorem w_case : (Jvm.Cond.and given_1 narrow_1).before args0 about1 = true := by decide +kernel
set_option maxRecDepth 65536 in
theorem w_consts : constsHeld consts_1 about1 := Jvm.Lit.constsHeldB_iff.mp (by decide +kernel)
theorem w_applies : (headSpec (Jvm.Cond.code x code maxLocals ret :: tables_1) room_1).applies x e0.platform about1 = true :=
  (Spec.applies_iff w_frames).mpr ⟨w_running, w_runnable, w_alone, w_named, w_hears, w_ripe, w_room, w_tables⟩
theorem atStart : AtStart classFile x code maxLocals ret World_1 tables_1 room_1 Calls_1 rest_1 Pre_1 launch0 p0 e0 about1 theMethod args0 below0 :=
  ⟨lists_1, trivial, launch0.admits_env _ _ _, launch0.least_env, fairChoices_fair.cas, fairChoices_fair.clock, w_frames, w_args, w_heap, w_applies, ⟨w_consts, trivial⟩, w_rest, w_case⟩
end start1
theorem witness_1 : WitnessClaimed_1 := ⟨start1.p0, start1.e0, start1.about1, start1.theMethod, start1.args0, start1.below0, start1.atStart⟩
end Jvm.Pilot.@@N@@
