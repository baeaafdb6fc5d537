import JvmDerived
import JvmDerived.Pilot.@@N@@Statement
import JvmDerived.Pilot.@@N@@Code
set_option linter.unusedVariables false
set_option linter.unusedSimpArgs false

namespace Jvm.RoadKit
open Sem ClassFile Op Lib Jvm.Stand Jvm.Free Jvm.LawKit
section OwnKit
variable {p : Program} {l : Launch} {e : Env} {R : Room} {s : State} {m : MethodId} {args : Array Value} {below : List Frame} {meth : Method} {c : Code} {T : State} {locs : List Loc} {cells slots : Nat} {Z : State} {a0 : Array Value} {h : Heap}
/-- one for a truth, nought else -/
def own_bi (q : Prop) [Decidable q] : Int32 := if q then 1 else 0
theorem own_bi_t {q : Prop} [Decidable q] (h : q) : own_bi q = 1 := if_pos h
theorem own_bi_f {q : Prop} [Decidable q] (h : ¬ q) : own_bi q = 0 := if_neg h
theorem own_bi_01 (q : Prop) [Decidable q] : own_bi q = 0 ∨ own_bi q = 1 := by unfold own_bi; split <;> simp
theorem own_bi_0 {q : Prop} [Decidable q] : own_bi q = 0 ↔ ¬ q := by unfold own_bi; split <;> simp_all
theorem own_bi_1 {q : Prop} [Decidable q] : own_bi q = 1 ↔ q := by unfold own_bi; split <;> simp_all
theorem own_bi_eq {q r : Prop} [Decidable q] [Decidable r] : own_bi q = own_bi r ↔ (q ↔ r) := by unfold own_bi; split <;> split <;> simp_all
theorem own_bi_fits (q : Prop) [Decidable q] : fits .boolean (.int (own_bi q)) = true := by unfold own_bi; split <;> rfl
theorem own_bi_nar (q : Prop) [Decidable q] : narrow .boolean (.int (own_bi q)) = .int (own_bi q) := by unfold own_bi; split <;> rfl
/-- from U the invocation comes to an end of which Rr holds -/
def Gl (p : Program) (e : Env) (below : List Frame) (Rr : State → Outcome → Prop) (U : State) : Prop := ∃ s₂ o, Steps p.tables e below U s₂ ∧ Rr s₂ o
theorem Gl.st {Rr : State → Outcome → Prop} {U U' : State} (f : ∀ t, Steps p.tables e below U' t → Steps p.tables e below U t) (g : Gl p e below Rr U') : Gl p e below Rr U := by
  obtain ⟨a, b, h1, h2⟩ := g
  exact ⟨a, b, f _ h1, h2⟩
/-- what is asked of the end -/
def Rq (s : State) (below : List Frame) (QQ : Option Value → Heap → List Loc → Prop) (k n : Nat) (s₂ : State) (o : Outcome) : Prop := s₂.status = .running ∧ Ended s₂ below o ∧ ∃ v L, o = .returned v ∧ QQ v s₂.heap L ∧ FrameEnd s o s₂ L k n
theorem Gl.join {Rr : State → Outcome → Prop} {U : State} {α : Type} (P : α → Prop) (f : α → State) (k : (∀ b, P b → Gl p e below Rr (f b)) → Gl p e below Rr U) (j : ∀ b, P b → Gl p e below Rr (f b)) : Gl p e below Rr U := k j
theorem Gl.joinS (X : Stand p l e R s m args below meth c T locs cells slots) {Rr : State → Outcome → Prop} {U : State} {β : Type} (kc ks : Nat) (P : State → List Loc → β → Prop) (f : State → β → State)
    (k : (∀ T' locs' b, Stand p l e R s m args below meth c T' locs' kc ks → P T' locs' b → Gl p e below Rr (f T' b)) → Gl p e below Rr U) (j : ∀ T' locs' b, Stand p l e R s m args below meth c T' locs' kc ks → P T' locs' b → Gl p e below Rr (f T' b)) : Gl p e below Rr U := k j
/-- a cell of the machine's own kind isn't there -/
def own_K (h : Heap) (a : Addr) : Prop := ∃ cell : Cell, h[a]? = some cell ∧ cell.vm ≠ .unknown
theorem own_K_wr {h h' : Heap} {a b : Addr} {sl : Nat} {v : Value} (W : Wr h h' a sl v) (F : own_K h b) : own_K h' b := by
  obtain ⟨cell, h1, h2⟩ := F
  obtain ⟨c', e1, -, e3, -⟩ := wr_at W h1
  exact ⟨c', e1, by rw [e3]; exact h2⟩
theorem own_K_ext {h h' : Heap} {b : Addr} (E : Ext h h') (F : own_K h b) : own_K h' b := by
  obtain ⟨cell, h1, h2⟩ := F
  exact ⟨cell, E.2 _ _ h1, h2⟩
theorem own_K_keep {h h' : Heap} {b : Addr} {ws : List Addr} (K : Keep h h' ws) (F : own_K h b) : own_K h' b := by
  obtain ⟨cell, h1, h2⟩ := F
  obtain ⟨c', q, -, r2, -⟩ := K.2.2 b cell h1
  exact ⟨c', q, by rw [r2]; exact h2⟩
theorem own_K_new {h : Heap} {a : Addr} (F : ∃ cell : Cell, h[a]? = some cell ∧ cell.vm = .none ∧ cell.monitor = {}) : own_K h a := by
  obtain ⟨cell, h1, h2, -⟩ := F
  exact ⟨cell, h1, by rw [h2]; simp⟩
theorem own_K_fld {h : Heap} {a : Addr} {C n d : String} {v : Value} (F : Fld Z h a C n d v) : own_K h a := by
  obtain ⟨cell, _, _, _, _, h1, -, -, h4, -⟩ := F
  exact ⟨cell, h1, h4⟩
/-- the type that a descriptor names -/
def own_ty (d : String) : FieldType := (parseFieldDescriptor d).getD .int
theorem own_ty_eq {d : String} (h : (parseFieldDescriptor d).isSome = true) : parseFieldDescriptor d = some (own_ty d) := by
  unfold own_ty
  cases q : parseFieldDescriptor d with
  | none => rw [q] at h; cases h
  | some t => rfl
theorem own_nn {t : FieldType} : narrow t .null = .null := by cases t <;> rfl
theorem own_lenOf {d : String} {n : Nat} (hd : (parseMethodDescriptor d).map (fun s => s.parameters.length) = some n) {L : List Value} (hl : L.length = n) : ∀ sig, parseMethodDescriptor d = some sig → L.length = sig.parameters.length := fun sig h => by
  rw [h] at hd
  rw [hl]
  exact (Option.some.inj hd).symm
theorem own_nz {z : Int32} (h : z = 0 ∨ z = 1) : narrow .boolean (.int z) = .int z := by rcases h with rfl | rfl <;> rfl
theorem own_fz {z : Int32} (h : z = 0 ∨ z = 1) : fits .boolean (.int z) = true := by rcases h with rfl | rfl <;> rfl
theorem own_nr {v : Value} {C : String} : narrow (.object C) v = v := by cases v <;> rfl
theorem own_fr {v : Value} {C : String} (h : v.isRef = true) : fits (.object C) v = true := by rcases ref_cases h with rfl | ⟨a, rfl⟩ <;> rfl
theorem own_cat1 {v : Value} (h : v.isRef = true) : v.category = 1 := by cases v <;> first | rfl | simp_all [Value.isRef]
theorem Gl.fin (X : Stand p l e R s m args below meth c T locs cells slots) {v : Option Value} (hv : meth.sig.returnType = none → v = none) (hlk : meth.locks = false) {QQ : Option Value → Heap → List Loc → Prop} {k n : Nat} {g : JFrame}
    (hst : ∀ fs, (∀ (f : JFrame) (acts : List Action), f.method = m → f.locked = none → f.entered = [] → (doReturn e (T.setTop f) acts v).1 = T.setFrames fs) → Steps p.tables e below (T.setTop g) (T.setFrames fs))
    (hq : QQ v T.heap locs) (hk : cells ≤ k) (hn : slots ≤ n) : Gl p e below (Rq s below QQ k n) (T.setTop g) := by
  obtain ⟨fs, hr, hrun, hended, hW, hsame⟩ := X.leave (v := v) hv hlk
  exact ⟨_, _, hst fs hr, hrun, hended, v, locs, rfl, hq, ⟨v, rfl⟩, hW, hsame.mono hk hn⟩
theorem Gl.retW (X : Stand p l e R s m args below meth c T locs cells slots) (hx : p.tables.exec = Jvm.exec) {t : FieldType} (hret : meth.sig.returnType = some t) (hlk : meth.locks = false) {pc : Nat} {Ls : Array Slot} {w : Value} {i : Instr} {rest : List Value} (hn : narrow t w = w)
    (hi : (i = .ireturn ∧ (t = .int ∨ t = .boolean ∨ t = .byte ∨ t = .char ∨ t = .short) ∧ ∃ z, w = .int z) ∨ (i = .lreturn ∧ t = .long ∧ ∃ z, w = .long z) ∨ (i = .dreturn ∧ t = .double ∧ ∃ z, w = .double z) ∨ (i = .freturn ∧ t = .float ∧ ∃ z, w = .float z) ∨ (i = .areturn ∧ t.isReference = true ∧ w.isRef = true))
    (hd : decode c.code pc = .ok (i, 1)) {QQ : Option Value → Heap → List Loc → Prop} {k n : Nat} (hq : QQ (some w) T.heap locs) (hk : cells ≤ k) (hs : slots ≤ n) : Gl p e below (Rq s below QQ k n) (T.setTop (mkF m pc Ls (w :: rest))) :=
  Gl.fin X (fun q => by rw [hret] at q; cases q) hlk (fun _ hr => retOut X hx hret hn hi hd hr) hq hk hs
theorem Gl.retZ (X : Stand p l e R s m args below meth c T locs cells slots) (hx : p.tables.exec = Jvm.exec) (hret : meth.sig.returnType = some .boolean) (hlk : meth.locks = false) {pc : Nat} {Ls : Array Slot} {z : Int32} {rest : List Value}
    (hd : decode c.code pc = .ok (.ireturn, 1)) (hz : z = 0 ∨ z = 1) {QQ : Option Value → Heap → List Loc → Prop} {k n : Nat} (hq : QQ (some (.int z)) T.heap locs) (hk : cells ≤ k) (hs : slots ≤ n) : Gl p e below (Rq s below QQ k n) (T.setTop (mkF m pc Ls (.int z :: rest))) :=
  Gl.retW X hx hret hlk (by rcases hz with rfl | rfl <;> rfl) (Or.inl ⟨rfl, by simp, z, rfl⟩) hd hq hk hs
theorem Gl.retI (X : Stand p l e R s m args below meth c T locs cells slots) (hx : p.tables.exec = Jvm.exec) (hret : meth.sig.returnType = some .int) (hlk : meth.locks = false) {pc : Nat} {Ls : Array Slot} {z : Int32} {rest : List Value}
    (hd : decode c.code pc = .ok (.ireturn, 1)) {QQ : Option Value → Heap → List Loc → Prop} {k n : Nat} (hq : QQ (some (.int z)) T.heap locs) (hk : cells ≤ k) (hs : slots ≤ n) : Gl p e below (Rq s below QQ k n) (T.setTop (mkF m pc Ls (.int z :: rest))) :=
  Gl.retW X hx hret hlk rfl (Or.inl ⟨rfl, by simp, z, rfl⟩) hd hq hk hs
theorem Gl.retJ (X : Stand p l e R s m args below meth c T locs cells slots) (hx : p.tables.exec = Jvm.exec) (hret : meth.sig.returnType = some .long) (hlk : meth.locks = false) {pc : Nat} {Ls : Array Slot} {z : Int64} {rest : List Value}
    (hd : decode c.code pc = .ok (.lreturn, 1)) {QQ : Option Value → Heap → List Loc → Prop} {k n : Nat} (hq : QQ (some (.long z)) T.heap locs) (hk : cells ≤ k) (hs : slots ≤ n) : Gl p e below (Rq s below QQ k n) (T.setTop (mkF m pc Ls (.long z :: rest))) :=
  Gl.retW X hx hret hlk rfl (Or.inr (Or.inl ⟨rfl, rfl, z, rfl⟩)) hd hq hk hs
theorem Gl.retA (X : Stand p l e R s m args below meth c T locs cells slots) (hx : p.tables.exec = Jvm.exec) {t : FieldType} (hret : meth.sig.returnType = some t) (ht : t.isReference = true) (hlk : meth.locks = false) {pc : Nat} {Ls : Array Slot} {w : Value} {rest : List Value} (hw : w.isRef = true)
    (hd : decode c.code pc = .ok (.areturn, 1)) {QQ : Option Value → Heap → List Loc → Prop} {k n : Nat} (hq : QQ (some w) T.heap locs) (hk : cells ≤ k) (hs : slots ≤ n) : Gl p e below (Rq s below QQ k n) (T.setTop (mkF m pc Ls (w :: rest))) :=
  Gl.retW X hx hret hlk (by cases t <;> first | rfl | cases ht) (Or.inr (Or.inr (Or.inr (Or.inr ⟨rfl, ht, hw⟩)))) hd hq hk hs
theorem Gl.retV (X : Stand p l e R s m args below meth c T locs cells slots) (hx : p.tables.exec = Jvm.exec) (hret : meth.sig.returnType = none) (hlk : meth.locks = false) {pc : Nat} {Ls : Array Slot}
    (hd : decode c.code pc = .ok (.return_, 1)) {QQ : Option Value → Heap → List Loc → Prop} {k n : Nat} (hq : QQ none T.heap locs) (hk : cells ≤ k) (hs : slots ≤ n) : Gl p e below (Rq s below QQ k n) (T.setTop (mkF m pc Ls [])) :=
  Gl.fin X (fun _ => rfl) hlk (fun _ hr => X.returnOut hx hret hd hr) hq hk hs
/-- what a body does from the heap h0 with these arguments -/
def Con (ws : List Cond) (l : Launch) (Z : State) (y : MethodName) (bytes : ByteArray) (maxL : Nat) (ret : Option FieldType) (rm : Room) (as' : Array Value) (h0 : Heap) (QQ : Option Value → Heap → List Loc → Prop) : Prop :=
  MetFree l y (head1 (Cond.code y bytes maxL ret :: ws) rm) (fun a U => a = as' ∧ Z.Warmed39 U.vm ∧ U.heap = h0) (fun _ _ _ _ _ => True) (fun _ U o U' => ∃ v L, o = .returned v ∧ QQ v U'.heap L ∧ FrameEnd U o U' L rm.cells rm.slots)
theorem Con.of {ws : List Cond} {l : Launch} {Z : State} {y : MethodName} {bytes : ByteArray} {maxL : Nat} {ret : Option FieldType} {rm : Room} {as' : Array Value} {h0 : Heap} {QQ : Option Value → Heap → List Loc → Prop} {Ls : Array Slot}
    (hp : plainFor y = true) (ef : ∀ m : MethodId, entryFrame m as' maxL = mkF m 0 Ls [])
    (body : ∀ (p : Program) (e : Env) (s : State) (m : MethodId) (below : List Frame) (meth : Method) (c : Code) (T : State), p.tables.exec = Jvm.exec → c.code = bytes → c.maxLocals = maxL → s.vm.findClass y.cls = some m.cls → meth.name = y.name → meth.sig.returnType = ret → meth.locks = false → Z.Warmed39 s.vm → T.heap = h0 → Stand p l e rm s m as' below meth c T [] 0 0 →
      Gl p e below (Rq s below QQ rm.cells rm.slots) (T.setTop (mkF m 0 Ls []))) : Con ws l Z y bytes maxL ret rm as' h0 QQ := by
  refine MetFree.of_bodySF hp hisR ?_
  intro p e s m args below meth c s₁ Bd hml0 hP hK
  obtain ⟨rfl, hZ, hh⟩ := hP
  obtain ⟨s₂, o, h1, h2, h3, h4⟩ := body p e s m below meth c s₁ Bd.exec Bd.bytes hml0 (findClass_of_methodNamed Bd.named) (name_of_methodNamed Bd.named Bd.method).1 Bd.returns Bd.notSynchronized hZ (by rw [← hh, Bd.state]; rfl) (Stand.of_body Bd)
  exact ⟨s₂, o, castTop (ef m) h1, h2, h3, h4⟩
theorem gCallS (X : Stand p l e R s m args below meth c T locs cells slots) (hx : p.tables.exec = Jvm.exec) (hZ : Z.Warmed39 s.vm) {own : String} {index : Nat} {y : MethodName} {bytes : ByteArray} {maxL : Nat} {ret : Option FieldType} (hown : s.vm.findClass own = some m.cls)
    (w1 : (Cond.methodLink own index y).before a0 Z = true) (w2 : (Cond.static y).before a0 Z = true) (w3 : (Cond.initialized y.cls).before a0 Z = true) (w4 : (Cond.code y bytes maxL ret).before a0 Z = true) (hy : y.cls ≠ "java/lang/invoke/MethodHandle" ∧ y.cls ≠ "java/lang/invoke/VarHandle")
    {rm : Room} {as' : Array Value} {QQ : Option Value → Heap → List Loc → Prop} (hC : Con [] l Z y bytes maxL ret rm as' h QQ) (eT : T.heap = h) (hf : rm.frames + 1 ≤ R.frames) {W : Nat} (hl : W + (maxL + 11) + rm.locals ≤ R.locals) (hc : cells + rm.cells ≤ R.cells) (hs : slots + rm.slots ≤ R.slots)
    {g : JFrame} (hg : g.method = m) (hsize : g.locals.size = c.maxLocals) {argsL rest : List Value} (hlen : ∀ sig, parseMethodDescriptor y.desc = some sig → argsL.length = sig.parameters.length) (hstack : g.stack = argsL.reverse ++ rest) (has : argsL.toArray = as') (hW : 2 * g.monitorRoom + (rest.map fun v => v.category).sum ≤ W) (hd : decode c.code g.pc = .ok (.invokestatic index, 3))
    {Rr : State → Outcome → Prop} (k : ∀ (v : Option Value) (T' : State) (L : List Loc), Stand p l e R s m args below meth c T' (locs ++ L) (cells + rm.cells) (slots + rm.slots) → QQ v T'.heap L → Gl p e below Rr (T'.setTop { g with pc := g.pc + 3, stack := v.toList ++ rest })) : Gl p e below Rr (T.setTop g) := by
  obtain ⟨v, vm₁, ⟨T', L', c', n'⟩, -, X', ⟨L, hQ, q1, q2, q3⟩, st⟩ := Jvm.LawKit.callS X hx (y := y) hown (mvT hZ w1) (mvT hZ w2) (mvT hZ w3) (mvT hZ w4) hy (backOf (W := W) hC hZ w4 w3 hf hl) hg hsize hlen hstack hW hd (fun _ _ => ⟨has, eT, hc, hs⟩)
  dsimp only [Pt.U, Pt.locs, Pt.cells, Pt.slots] at X' q1 q2 q3 st hQ
  subst q1 q2 q3
  exact Gl.st st (k v T' L X' hQ)
theorem gCallI (X : Stand p l e R s m args below meth c T locs cells slots) (hx : p.tables.exec = Jvm.exec) (hZ : Z.Warmed39 s.vm) {own : String} {index : Nat} {y : MethodName} {bytes : ByteArray} {maxL : Nat} (hy1 : y.name = "<init>") (hown : s.vm.findClass own = some m.cls)
    (w1 : (Cond.methodLink own index y).before a0 Z = true) (w2 : (Cond.instanceMethod y).before a0 Z = true) (w3 : (Cond.initialized y.cls).before a0 Z = true) (w4 : (Cond.code y bytes maxL none).before a0 Z = true) (hy : y.cls ≠ "java/lang/invoke/MethodHandle" ∧ y.cls ≠ "java/lang/invoke/VarHandle")
    {rm : Room} {as' : Array Value} {QQ : Option Value → Heap → List Loc → Prop} (hC : Con [] l Z y bytes maxL none rm as' h QQ) (eT : T.heap = h) (hf : rm.frames + 1 ≤ R.frames) {W : Nat} (hl : W + (maxL + 11) + rm.locals ≤ R.locals) (hc : cells + rm.cells ≤ R.cells) (hs : slots + rm.slots ≤ R.slots)
    {g : JFrame} (hg : g.method = m) (hsize : g.locals.size = c.maxLocals) {a : Addr} {argsL rest : List Value} (hlen : ∀ sig, parseMethodDescriptor y.desc = some sig → argsL.length = sig.parameters.length) (hstack : g.stack = argsL.reverse ++ .ref a :: rest) (has : (.ref a :: argsL).toArray = as') (hW : 2 * g.monitorRoom + (rest.map fun v => v.category).sum ≤ W) (hd : decode c.code g.pc = .ok (.invokespecial index, 3))
    {Rr : State → Outcome → Prop} (k : ∀ (v : Option Value) (T' : State) (L : List Loc), Stand p l e R s m args below meth c T' (locs ++ L) (cells + rm.cells) (slots + rm.slots) → QQ v T'.heap L → Gl p e below Rr (T'.setTop { g with pc := g.pc + 3, stack := v.toList ++ rest })) : Gl p e below Rr (T.setTop g) := by
  obtain ⟨v, vm₁, ⟨T', L', c', n'⟩, -, X', ⟨L, hQ, q1, q2, q3⟩, st⟩ := X.specialBack hx (y := y) hy1 hown (mvT hZ w1) (mvT hZ w2) (mvT hZ w4) hy (backOf (W := W) hC hZ w4 w3 hf hl) hg hsize (Steps.refl _) hlen hstack hW hd (fun _ _ => ⟨has, eT, hc, hs⟩)
  dsimp only [Pt.U, Pt.locs, Pt.cells, Pt.slots] at X' q1 q2 q3 st hQ
  subst q1 q2 q3
  exact Gl.st (fun _ kk => st.trans kk) (k v T' L X' hQ)
/-- a constructor, paid by a Back of the shape that backOf and the pasted String laws have -/
theorem gBackI (X : Stand p l e R s m args below meth c T locs cells slots) (hx : p.tables.exec = Jvm.exec) (hZ : Z.Warmed39 s.vm) {own : String} {index : Nat} {y : MethodName} {bytes : ByteArray} {maxL : Nat} (hy1 : y.name = "<init>") (hown : s.vm.findClass own = some m.cls)
    (w1 : (Cond.methodLink own index y).before a0 Z = true) (w2 : (Cond.instanceMethod y).before a0 Z = true) (w4 : (Cond.code y bytes maxL none).before a0 Z = true) (hy : y.cls ≠ "java/lang/invoke/MethodHandle" ∧ y.cls ≠ "java/lang/invoke/VarHandle")
    {kc ks W : Nat} {as' : Array Value} {QQ : Option Value → Heap → List Loc → Prop} (hK : Back l R p e below s args y 3 W (fun A a => a = as' ∧ A.U.heap = h ∧ A.cells + kc ≤ R.cells ∧ A.slots + ks ≤ R.slots) (fun A _ v B => ∃ L, QQ v B.U.heap L ∧ B.locs = A.locs ++ L ∧ B.cells = A.cells + kc ∧ B.slots = A.slots + ks)) (eT : T.heap = h) (hc : cells + kc ≤ R.cells) (hs : slots + ks ≤ R.slots)
    {g : JFrame} (hg : g.method = m) (hsize : g.locals.size = c.maxLocals) {a : Addr} {argsL rest : List Value} (hlen : ∀ sig, parseMethodDescriptor y.desc = some sig → argsL.length = sig.parameters.length) (hstack : g.stack = argsL.reverse ++ .ref a :: rest) (has : (.ref a :: argsL).toArray = as') (hW : 2 * g.monitorRoom + (rest.map fun v => v.category).sum ≤ W) (hd : decode c.code g.pc = .ok (.invokespecial index, 3))
    {Rr : State → Outcome → Prop} (k : ∀ (v : Option Value) (T' : State) (L : List Loc), Stand p l e R s m args below meth c T' (locs ++ L) (cells + kc) (slots + ks) → QQ v T'.heap L → Gl p e below Rr (T'.setTop { g with pc := g.pc + 3, stack := v.toList ++ rest })) : Gl p e below Rr (T.setTop g) := by
  obtain ⟨v, vm₁, ⟨T', L', c', n'⟩, -, X', ⟨L, hQ, q1, q2, q3⟩, st⟩ := X.specialBack hx (y := y) hy1 hown (mvT hZ w1) (mvT hZ w2) (mvT hZ w4) hy hK hg hsize (Steps.refl _) hlen hstack hW hd (fun _ _ => ⟨has, eT, hc, hs⟩)
  dsimp only [Pt.U, Pt.locs, Pt.cells, Pt.slots] at X' q1 q2 q3 st hQ
  subst q1 q2 q3
  exact Gl.st (fun _ kk => st.trans kk) (k v T' L X' hQ)
/-- the class of y is no interface: some call lands in a method of hers -/
theorem own_nf {s : State} {args : Array Value} {y x' z' : MethodName} {C' : String} (w : (Cond.selects C' x' z').before args s = true) (hc : z'.cls = y.cls) : NotFace s y := fun r0 h0 => by
  obtain ⟨c2, r2, m2, -, -, q3, -, kP, hkP, hkPi⟩ := Cond.selects_spec w
  have h1 := findClass_of_methodNamed h0
  have h2 := findClass_of_methodNamed q3
  rw [hc] at h2
  have q := Option.some.inj (h1.symm.trans h2)
  exact ⟨kP, by rw [q]; exact hkP, hkPi⟩
theorem gCallV (X : Stand p l e R s m args below meth c T locs cells slots) (hx : p.tables.exec = Jvm.exec) (hZ : Z.Warmed39 s.vm) {own C : String} {index : Nat} {y z : MethodName} {bytes : ByteArray} {maxL : Nat} {ret : Option FieldType} (hown : s.vm.findClass own = some m.cls)
    (w1 : (Cond.methodLink own index y).before a0 Z = true) (w2 : (Cond.declares y).before a0 Z = true) (w3 : (Cond.selects C y z).before a0 Z = true) (hnf : NotFace s y) (w4 : (Cond.instanceMethod z).before a0 Z = true) (w5 : (Cond.initialized z.cls).before a0 Z = true) (w6 : (Cond.code z bytes maxL ret).before a0 Z = true) (hy : y.cls ≠ "java/lang/invoke/MethodHandle" ∧ y.cls ≠ "java/lang/invoke/VarHandle")
    {rm : Room} {as' : Array Value} {QQ : Option Value → Heap → List Loc → Prop} (hC : Con [] l Z z bytes maxL ret rm as' h QQ) (eT : T.heap = h) {a : Addr} (E : Exa Z h a C) (hf : rm.frames + 1 ≤ R.frames) {W : Nat} (hl : W + (maxL + 11) + rm.locals ≤ R.locals) (hc : cells + rm.cells ≤ R.cells) (hs : slots + rm.slots ≤ R.slots)
    {g : JFrame} (hg : g.method = m) (hsize : g.locals.size = c.maxLocals) {argsL rest : List Value} (hlen : ∀ sig, parseMethodDescriptor y.desc = some sig → argsL.length = sig.parameters.length) (hstack : g.stack = argsL.reverse ++ .ref a :: rest) (has : (.ref a :: argsL).toArray = as') (hW : 2 * g.monitorRoom + (rest.map fun v => v.category).sum ≤ W) (hd : decode c.code g.pc = .ok (.invokevirtual index, 3))
    {Rr : State → Outcome → Prop} (k : ∀ (v : Option Value) (T' : State) (L : List Loc), Stand p l e R s m args below meth c T' (locs ++ L) (cells + rm.cells) (slots + rm.slots) → QQ v T'.heap L → Gl p e below Rr (T'.setTop { g with pc := g.pc + 3, stack := v.toList ++ rest })) : Gl p e below Rr (T.setTop g) := by
  obtain ⟨cq, kq, q34a, q34b, q34c⟩ := isOf hZ eT E
  obtain ⟨v, vm₁, ⟨T', L', c', n'⟩, -, X', ⟨L, hQ, q1, q2, q3⟩, st⟩ := X.virtualBack hx (y := y) (z := z) hown (mvT hZ w1) (mvT hZ w2) hnf (mvT hZ w3) (mvT hZ w4) hy (backOf (W := W) hC hZ w6 w5 hf hl) q34a q34c hg hsize (Steps.refl _) hlen hstack hW hd (fun _ _ => ⟨has, eT, hc, hs⟩)
  dsimp only [Pt.U, Pt.locs, Pt.cells, Pt.slots] at X' q1 q2 q3 st hQ
  subst q1 q2 q3
  exact Gl.st (fun _ kk => st.trans kk) (k v T' L X' hQ)
theorem gCallU (X : Stand p l e R s m args below meth c T locs cells slots) (hx : p.tables.exec = Jvm.exec) (hZ : Z.Warmed39 s.vm) {own C owner : String} {index : Nat} {y z : MethodName} {bytes : ByteArray} {maxL : Nat} {ret : Option FieldType} (hown : s.vm.findClass own = some m.cls)
    (w1 : (Cond.methodLink own index y).before a0 Z = true) (w0 : (Cond.sameMethod y.cls owner y.name y.desc).before a0 Z = true) (w2 : (Cond.declares ⟨owner, y.name, y.desc⟩).before a0 Z = true) (w3 : (Cond.selects C y z).before a0 Z = true) (w4 : (Cond.instanceMethod z).before a0 Z = true) (w5 : (Cond.initialized z.cls).before a0 Z = true) (w6 : (Cond.code z bytes maxL ret).before a0 Z = true) (hy : owner ≠ "java/lang/invoke/MethodHandle" ∧ owner ≠ "java/lang/invoke/VarHandle")
    {rm : Room} {as' : Array Value} {QQ : Option Value → Heap → List Loc → Prop} (hC : Con [] l Z z bytes maxL ret rm as' h QQ) (eT : T.heap = h) {a : Addr} (E : Exa Z h a C) (hf : rm.frames + 1 ≤ R.frames) {W : Nat} (hl : W + (maxL + 11) + rm.locals ≤ R.locals) (hc : cells + rm.cells ≤ R.cells) (hs : slots + rm.slots ≤ R.slots)
    {g : JFrame} (hg : g.method = m) (hsize : g.locals.size = c.maxLocals) {argsL rest : List Value} (hlen : ∀ sig, parseMethodDescriptor y.desc = some sig → argsL.length = sig.parameters.length) (hstack : g.stack = argsL.reverse ++ .ref a :: rest) (has : (.ref a :: argsL).toArray = as') (hW : 2 * g.monitorRoom + (rest.map fun v => v.category).sum ≤ W) (hd : decode c.code g.pc = .ok (.invokevirtual index, 3))
    {Rr : State → Outcome → Prop} (k : ∀ (v : Option Value) (T' : State) (L : List Loc), Stand p l e R s m args below meth c T' (locs ++ L) (cells + rm.cells) (slots + rm.slots) → QQ v T'.heap L → Gl p e below Rr (T'.setTop { g with pc := g.pc + 3, stack := v.toList ++ rest })) : Gl p e below Rr (T.setTop g) := by
  obtain ⟨cq, kq, q34a, q34b, q34c⟩ := isOf hZ eT E
  obtain ⟨v, vm₁, ⟨T', L', c', n'⟩, -, X', ⟨L, hQ, q1, q2, q3⟩, st⟩ := X.virtualBackUp hx (x := y) (y := z) hown (mvT hZ w1) (mvT hZ w0) (mvT hZ w2) hy (mvT hZ w3) (mvT hZ w4) (backOf (W := W) hC hZ w6 w5 hf hl) q34a q34c hg hsize (Steps.refl _) hlen hstack hW hd (fun _ _ => ⟨has, eT, hc, hs⟩)
  dsimp only [Pt.U, Pt.locs, Pt.cells, Pt.slots] at X' q1 q2 q3 st hQ
  subst q1 q2 q3
  exact Gl.st (fun _ kk => st.trans kk) (k v T' L X' hQ)
/-- C is no K: the chain of superclasses doesn't meet it; K by her word 'instantiable' -/
theorem own_NS_root {O K : String} {n : Nat} (w : (Cond.noSuperclass O).before a0 Z = true) (wk : (Cond.instantiable K n).before a0 Z = true) (hn : O ≠ K) : NS Z O K := by
  obtain ⟨c, k, h1, h2, h3, -, -⟩ := Cond.noSuperclass_spec w
  obtain ⟨t, kt, g1, -⟩ := Cond.instantiable_spec wk
  have ne := ids_ne h1 g1 hn
  refine ⟨c, t, h1, g1, fun fuel => ?_⟩
  cases fuel with
  | zero => rfl
  | succ f => simp [Vm.isSubclassAux, ne, h2, h3]
theorem own_NS_no {C S K : String} {n : Nat} (w : (Cond.superclass C S).before a0 Z = true) (wk : (Cond.instantiable K n).before a0 Z = true) (N : NS Z C K) (hn : C ≠ K) : ∃ c t, Z.vm.findClass C = some c ∧ Z.vm.findClass K = some t ∧ Z.vm.assignable c t = false := by
  obtain ⟨c, t, h0, g0, n3⟩ := N
  obtain ⟨pp, k, kp, h1, h2, h3, h4, h5, -, h7⟩ := Cond.superclass_spec h0 w
  obtain ⟨t', kt, g1, g2, g3, g4, -⟩ := Cond.instantiable_spec wk
  cases g0.symm.trans g1
  have gi : kt.isInterface = false := by
    rcases Bool.or_eq_false_iff.mp g4 with ⟨q, -⟩
    exact q
  have ne := ids_ne h0 g0 hn
  refine ⟨c, t, h0, g0, ?_⟩
  show Z.vm.assignableAux (255 + 1) c t = false
  simp [Vm.assignableAux, ne, h2, g2, h5, g3, gi, Vm.isSubclass, n3]
theorem own_gcls (X : Stand p l e R s m args below meth c T locs cells slots) (hx : p.tables.exec = Jvm.exec) (hZ : Z.Warmed39 s.vm) {own C : String} {index : Nat} (hown : s.vm.findClass own = some m.cls)
    (w1 : (Cond.methodLink own index ⟨"java/lang/Object", "getClass", "()Ljava/lang/Class;"⟩).before a0 Z = true) (w2 : (Cond.declares ⟨"java/lang/Object", "getClass", "()Ljava/lang/Class;"⟩).before a0 Z = true) (w3 : (Cond.noSuperclass "java/lang/Object").before a0 Z = true) (w4 : (Cond.selects C ⟨"java/lang/Object", "getClass", "()Ljava/lang/Class;"⟩ ⟨"java/lang/Object", "getClass", "()Ljava/lang/Class;"⟩).before a0 Z = true)
    (w5 : (Cond.instanceMethod ⟨"java/lang/Object", "getClass", "()Ljava/lang/Class;"⟩).before a0 Z = true) (w6 : (Cond.native ⟨"java/lang/Object", "getClass", "()Ljava/lang/Class;"⟩).before a0 Z = true) (eT : T.heap = h) {a : Addr} (E : Exa Z h a C) {mr : Addr} {cc : ClassId} {kc : Class} (m1 : Z.vm.findClass C = some cc) (m2 : Z.vm.classes[cc]? = some kc) (m3 : kc.mirror = some mr)
    {g : JFrame} (hg : g.method = m) (hsize : g.locals.size = c.maxLocals) {rest : List Value} (hs : g.stack = .ref a :: rest) (hd : decode c.code g.pc = .ok (.invokevirtual index, 3)) (hf : 1 ≤ R.frames) {W : Nat} (hW : 2 * g.monitorRoom + (rest.map fun v => v.category).sum ≤ W) (hl : W + (nativeFrameWords "java/lang/Object" "getClass" 1 + 11) ≤ R.locals) :
    ∃ T', Stand p l e R s m args below meth c T' locs cells slots ∧ T'.heap = h ∧ ∀ target, Steps p.tables e below (T'.setTop { g with pc := g.pc + 3, stack := .ref mr :: rest }) target → Steps p.tables e below (T.setTop g) target := by
  obtain ⟨cB, kB, i1, i2, i3⟩ := isOf hZ eT E
  have i1' := i1
  rw [hZ.alike.findClass] at i1'
  cases i1'.symm.trans m1
  obtain ⟨k', q, ek⟩ := hZ.alike.2.2 _ _ m2
  obtain ⟨vm', X', st⟩ := X.getClassOf hx hown (mvT hZ w1) (mvT hZ w2) (nf_top (args := #[]) (mvT hZ w3)) (mvT hZ w4) (mvT hZ w5) (mvT hZ w6) i1 i3 q (by rw [ek]; exact m3) hg hsize hs hd hf (by omega)
  exact ⟨_, X', eT, st⟩
theorem own_and255 (x : Int32) : ¬ x &&& 255 < 0 ∧ ¬ (255 : Int32) < x &&& 255 := by
  have h := c_and x 255 (by decide)
  rw [show (255 : Int32).toInt = 255 from rfl] at h
  simp only [Int32.lt_iff_toInt_lt, show (255 : Int32).toInt = 255 from rfl, show (0 : Int32).toInt = 0 from rfl]
  omega
theorem own_len {t : Term} {cl : Cell} {ty : FieldType} {a : Addr} {n : Int32} {aa : Array Value} (ev : t.eval aa Z none [] Z = some (.ref a)) (A : Arr Z Z.heap a cl ty) (hh : (Term.length t).eval aa Z none [] Z = some (.int n)) : cl.slots.size < 2 ^ 31 ∧ cl.slots.size.toInt32 = n := by
  have q := A.fin (Vm.Alike.refl _)
  by_cases z : cl.slots.size < 2 ^ 31
  · rw [len_f ev q z] at hh
    exact ⟨z, Value.int.inj (Option.some.inj hh)⟩
  · simp [Term.eval, ev, q, z] at hh
end OwnKit
end Jvm.RoadKit

namespace Jvm.RoadKit
open Jvm.FP Jvm.FP.Core Jvm.Free.Fl Jvm.Op
def own_half : UInt64 := 4602678819172646912
theorem own_half_val : val64 own_half = .fin false (2 ^ 52) (-53) := by decide +kernel
theorem own_small (x : Int32) : Small53 x.toInt64 := by
  have h1 := x.le_toInt
  have h2 := x.toInt_lt
  unfold Small53
  rw [Int32.toInt_toInt64]
  omega
theorem own_whole (x : Int32) : Whole x.toInt (val64 (FP.l2d x.toInt64)) := by
  have h := l2d_whole (own_small x)
  rwa [Int32.toInt_toInt64] at h
/-- halves, in the format's least units -/
def own_hu : Int := ((2 ^ 1073 : Nat) : Int)
theorem own_hu_pos : 0 < own_hu := Int.natCast_pos.mpr (Nat.two_pow_pos 1073)
theorem own_pow2 (k : Nat) : ((2 ^ (k + 1) : Nat) : Int) = 2 * ((2 ^ k : Nat) : Int) := by
  rw [Nat.pow_succ, Nat.mul_comm, Int.natCast_mul]
  rfl
theorem own_hu2 : ((2 ^ (-b64.qmin).toNat : Nat) : Int) = 2 * own_hu :=
  (congrArg (fun n : Nat => ((2 ^ n : Nat) : Int)) (show (-b64.qmin).toNat = 1073 + 1 by decide)).trans (own_pow2 1073)
theorem own_zint (x : Int32) : zval b64 (val64 (FP.l2d x.toInt64)) = (2 * x.toInt) * own_hu := by
  have h := whole_zval good_b64 (val64_fits _) (own_whole x)
  rw [h, own_hu2, Int.mul_comm 2 x.toInt, Int.mul_assoc]
theorem own_nan_int (x : Int32) : val64 (FP.l2d x.toInt64) ≠ .nan := (own_whole x).ne_nan
theorem own_signed (v : Int) (k : Nat) : signed (decide (v < 0)) (v.natAbs * k) = v * (k : Int) := by
  unfold signed
  by_cases h : v < 0
  · simp only [h, decide_true, if_true, Int.natCast_mul]
    rw [Int.ofNat_natAbs_of_nonpos (by omega), Int.neg_mul, Int.neg_neg]
  · simp only [h, decide_false, Bool.false_eq_true, if_false, Int.natCast_mul]
    rw [Int.natAbs_of_nonneg (by omega)]
theorem own_zhalf (x : Int32) : ∃ s c q, val64 (FP.dadd (FP.l2d x.toInt64) own_half) = .fin s c q ∧ zval b64 (.fin s c q) = (2 * x.toInt + 1) * own_hu := by
  obtain ⟨c, q, ea⟩ := l2d_shape x.toInt64
  have wa := own_whole x
  rw [ea] at wa
  rw [val64_dadd, ea, own_half_val]
  generalize decide (x.toInt64.toInt < 0) = s at wa
  have he1 : min q (-53) ≤ q := Int.min_le_left _ _
  have he2 : min q (-53) ≤ -53 := Int.min_le_right _ _
  show ∃ s' c' q', round b64 (.fin (sumSign s false (sumUnits s c q false (2 ^ 52) (-53) (min q (-53)))) (sumUnits s c q false (2 ^ 52) (-53) (min q (-53))).natAbs (min q (-53))) = .fin s' c' q' ∧ _
  generalize hE : min q (-53) = E at he1 he2
  have hu : sumUnits s c q false (2 ^ 52) (-53) E = (2 * x.toInt + 1) * ((2 ^ (-1 - E).toNat : Nat) : Int) := by
    unfold sumUnits
    have h1 := whole_units wa he1
    rw [show E.toNat = 0 by omega, Nat.pow_zero, show (-E).toNat = (-1 - E).toNat + 1 by omega, Nat.pow_succ] at h1
    have h2 : inUnits (2 ^ 52) (-53) E = 2 ^ (-1 - E).toNat := by
      unfold inUnits
      rw [← Nat.pow_add]
      congr 1
      omega
    rw [h2]
    have h3 : signed false (2 ^ (-1 - E).toNat) = ((2 ^ (-1 - E).toNat : Nat) : Int) := rfl
    rw [h3]
    rw [show ((1 : Nat) : Int) = 1 from rfl, Int.mul_one, Int.natCast_mul] at h1
    rw [h1]
    generalize ((2 ^ (-1 - E).toNat : Nat) : Int) = K
    rw [Int.add_mul, Int.one_mul, show ((2 : Nat) : Int) = 2 from rfl, Int.mul_comm K 2, ← Int.mul_assoc, Int.mul_comm x.toInt 2]
  have hK : 0 < ((2 ^ (-1 - E).toNat : Nat) : Int) := Int.natCast_pos.mpr (Nat.two_pow_pos _)
  have hne : (2 * x.toInt + 1) * ((2 ^ (-1 - E).toNat : Nat) : Int) ≠ 0 := Int.mul_ne_zero (by omega) (by omega)
  have hs : sumSign s false (sumUnits s c q false (2 ^ 52) (-53) E) = decide (2 * x.toInt + 1 < 0) := by
    unfold sumSign
    rw [hu, if_neg hne]
    congr 1
    exact propext ⟨fun h => by
      rcases Int.lt_or_le (2 * x.toInt + 1) 0 with z | z
      · exact z
      · exact absurd (Int.mul_nonneg z (Int.le_of_lt hK)) (by omega), fun h => Int.mul_neg_of_neg_of_pos h hK⟩
  rw [hs, hu, Int.natAbs_mul, Int.natAbs_natCast]
  have hr := x.le_toInt
  have hr2 := x.toInt_lt
  have e1 : round b64 (.fin (decide (2 * x.toInt + 1 < 0)) ((2 * x.toInt + 1).natAbs * 2 ^ (-1 - E).toNat) E) = round b64 (.fin (decide (2 * x.toInt + 1 < 0)) (2 * x.toInt + 1).natAbs (-1)) := by
    show roundRatio b64 _ _ 1 E = roundRatio b64 _ _ 1 (-1)
    refine roundRatio_congr (by decide) (by decide) ?_
    rw [show (E - -1).toNat = 0 by omega, Nat.pow_zero]
    simp
  rw [e1]
  obtain ⟨c', q', r1, r2⟩ := round_exact good_b64 (decide (2 * x.toInt + 1 < 0)) (c := (2 * x.toInt + 1).natAbs) (q := -1) (by
    show _ < 2 ^ 53
    omega) (by decide) (by decide)
  refine ⟨_, c', q', r1, ?_⟩
  show signed (decide (2 * x.toInt + 1 < 0)) (inUnits c' q' b64.qmin) = _
  rw [r2]
  unfold inUnits
  rw [show ((-1 : Int) - b64.qmin).toNat = 1073 by decide, own_signed]
  rfl
theorem own_nan_half (x : Int32) : val64 (FP.dadd (FP.l2d x.toInt64) own_half) ≠ .nan := by
  obtain ⟨s, c, q, h, -⟩ := own_zhalf x
  rw [h]
  exact fun z => nomatch z
theorem own_zhalf' (x : Int32) : zval b64 (val64 (FP.dadd (FP.l2d x.toInt64) own_half)) = (2 * x.toInt + 1) * own_hu := by
  obtain ⟨s, c, q, h, h2⟩ := own_zhalf x
  rw [h, h2]
theorem own_b53 (x : Int32) : B53 x.toInt64 := by
  have h1 := x.le_toInt
  have h2 := x.toInt_lt
  unfold B53
  rw [Int32.toInt_toInt64]
  omega
def own_abs (x : Int32) : Int64 := if x < 0 then -x.toInt64 else x.toInt64
def own_sg (x : Int32) : Int64 := if x < 0 then -1 else 1
theorem own_lt (x : Int32) : x.toInt64 < 0 ↔ x < 0 := by
  rw [Int64.lt_iff_toInt_lt, Int32.lt_iff_toInt_lt, Int32.toInt_toInt64]
  rfl
theorem own_abs_int (x : Int32) : 0 ≤ (own_abs x).toInt ∧ (own_abs x).toInt ≤ 2147483648 ∧ (own_abs x).toInt = x.toInt.natAbs := by
  have h1 := x.le_toInt
  have h2 := x.toInt_lt
  unfold own_abs
  by_cases q : x < 0
  · rw [if_pos q, Int64.toInt_neg, Int32.toInt_toInt64]
    rw [Int32.lt_iff_toInt_lt, show (0 : Int32).toInt = 0 from rfl] at q
    rw [Int.bmod_eq_of_le (by omega) (by omega)]
    omega
  · rw [if_neg q, Int32.toInt_toInt64]
    rw [Int32.lt_iff_toInt_lt, show (0 : Int32).toInt = 0 from rfl] at q
    omega
theorem own_abs_b (x : Int32) : B53 (own_abs x) := by
  have h := own_abs_int x
  unfold B53
  omega
theorem own_abs_and (x : Int32) : (FP.l2d x.toInt64 &&& 0x7fffffffffffffff) = FP.l2d (own_abs x) := by
  unfold own_abs
  by_cases q : x < 0
  · rw [if_pos q]; exact abs_n (own_b53 x) ((own_lt x).mpr q)
  · rw [if_neg q]; exact abs_w (fun z => q ((own_lt x).mp z))
theorem own_sg_mul (x : Int32) : FP.dmul (FP.l2d (own_sg x)) (FP.l2d (own_abs x)) = FP.l2d x.toInt64 := by
  have h := own_abs_int x
  have e : own_sg x * own_abs x = x.toInt64 := by
    unfold own_sg own_abs
    by_cases q : x < 0
    · rw [if_pos q, if_pos q]; exact (Int64.neg_mul _ _).trans (by rw [Int64.one_mul, Int64.neg_neg])
    · rw [if_neg q, if_neg q]; exact Int64.one_mul _
  have hs : (own_sg x).toInt = 1 ∨ (own_sg x).toInt = -1 := by
    unfold own_sg
    by_cases q : x < 0
    · rw [if_pos q]; exact Or.inr rfl
    · rw [if_neg q]; exact Or.inl rfl
  rw [← e]
  refine dmul_k (A := 1) (B := 2147483648) (by omega) (by omega) (by omega) (by omega) (by decide) (by decide) (by decide) (fun z => ?_) (fun z => ?_)
  · have z1 := congrArg Int64.toInt z.1
    rw [show (0 : Int64).toInt = 0 from rfl] at z1
    omega
  · have z1 := congrArg Int64.toInt z.1
    have z2 := Int64.lt_iff_toInt_lt.mp z.2
    rw [show (0 : Int64).toInt = 0 from rfl] at z1 z2
    have hx : ¬ x < 0 := fun q => by
      rw [Int32.lt_iff_toInt_lt, show (0 : Int32).toInt = 0 from rfl] at q
      omega
    unfold own_sg at z2
    rw [if_neg hx] at z2
    exact absurd z2 (by decide)
theorem own_p52 : (4841369599423283200 : UInt64) = FP.l2d 4503599627370496 := by decide +kernel
theorem own_p52_b : B53 4503599627370496 := by unfold B53; decide
theorem own_rnd (x : Int32) : FP.dsub (FP.dadd (FP.l2d 4503599627370496) (FP.l2d (own_abs x))) (FP.l2d 4503599627370496) = FP.l2d (own_abs x) := by
  have h := own_abs_int x
  have hb := own_abs_b x
  rw [dadd_w own_p52_b hb]
  have ha := RoadKit.add64 own_p52_b hb
  rw [show (4503599627370496 : Int64).toInt = 4503599627370496 from rfl] at ha
  rw [dsub_w ⟨by omega, by omega⟩ own_p52_b]
  congr 1
  apply Int64.toInt_inj.mp
  rw [RoadKit.sub64 ⟨by omega, by omega⟩ own_p52_b, ha, show (4503599627370496 : Int64).toInt = 4503599627370496 from rfl]
  omega
theorem own_top (x : Int32) : (FP.l2d x.toInt64 >>> 63 == 1) = decide (x < 0) := by
  have hz := own_zint x
  have hp := own_hu_pos
  have hlt := (FP.l2d x.toInt64).toNat_lt
  have hd : (FP.l2d x.toInt64 >>> 63).toNat = (FP.l2d x.toInt64).toNat / 2 ^ 63 := by
    rw [UInt64.toNat_shiftRight, Nat.shiftRight_eq_div_pow]
    rfl
  have hb : (FP.l2d x.toInt64 >>> 63 == 1) = decide ((FP.l2d x.toInt64).toNat / 2 ^ 63 = 1) := by
    rw [← hd, Bool.eq_iff_iff, beq_iff_eq, decide_eq_true_iff, ← UInt64.toNat_inj]
    rfl
  rw [hb]
  congr 1
  have hx : x < 0 ↔ x.toInt < 0 := by rw [Int32.lt_iff_toInt_lt]; rfl
  rw [hx]
  by_cases q : (FP.l2d x.toInt64).toNat < 2 ^ 63
  · have h1 := zval_nonneg (own_nan_int x) q
    rw [hz] at h1
    have h2 : ¬ x.toInt < 0 := fun z => absurd (Int.mul_neg_of_neg_of_pos (show 2 * x.toInt < 0 by omega) hp) (by omega)
    have h3 : ¬ (FP.l2d x.toInt64).toNat / 2 ^ 63 = 1 := by omega
    simp [h2, h3]
  · have h1 := zval_nonpos (own_nan_int x) (by omega)
    rw [hz] at h1
    have h3 : (FP.l2d x.toInt64).toNat / 2 ^ 63 = 1 := by omega
    by_cases z0 : x.toInt = 0
    · have : x = 0 := Int32.toInt_inj.mp z0
      subst this
      exact absurd q (by decide +kernel)
    · have h2 : x.toInt < 0 := by
        rcases Int.lt_or_le x.toInt 0 with z | z
        · exact z
        · exact absurd (Int.mul_pos (show 0 < 2 * x.toInt by omega) hp) (by omega)
      simp [h2, h3]
theorem own_cs (x : Int32) : copySign64 FP.dconst1 (FP.l2d x.toInt64) = FP.l2d (own_sg x) := by
  unfold copySign64 own_sg
  rw [own_top]
  by_cases q : x < 0
  · rw [if_pos q, decide_eq_true q]; decide +kernel
  · rw [if_neg q, decide_eq_false q]; decide +kernel
theorem own_notnan (x : Int32) : FP.dIsNaN (FP.l2d x.toInt64) = false := l2d_notNaN _
/-- comparing for equality -/
theorem own_deq {a b : UInt64} {u v : Int} (ha : val64 a ≠ .nan) (hb : val64 b ≠ .nan) (za : zval b64 (val64 a) = u * own_hu) (zb : zval b64 (val64 b) = v * own_hu) : cmpValue (FP.dcmp a b) .l = 0 ↔ u = v := by
  have h : FP.dcmp a b = some (compare (zval b64 (val64 a)) (zval b64 (val64 b))) := dcmp_zval ha hb
  rw [h, za, zb]
  have hp := own_hu_pos
  have e : u * own_hu = v * own_hu ↔ u = v := ⟨fun z => Int.eq_of_mul_eq_mul_right (by omega) z, fun z => by rw [z]⟩
  rw [← e, ← compare_eq_iff]
  generalize compare (u * own_hu) (v * own_hu) = o
  cases o <;> decide
theorem own_zlong {a : Int64} (h : Small53 a) : zval b64 (val64 (FP.l2d a)) = (2 * a.toInt) * own_hu := by
  have h := whole_zval good_b64 (val64_fits _) (l2d_whole h)
  rw [h, own_hu2, Int.mul_comm 2 a.toInt, Int.mul_assoc]
theorem own_p62 : zval b64 (val64 4886405595696988160) = 9223372036854775808 * own_hu := by decide +kernel
theorem own_big (x : Int32) : cmpValue (FP.dcmp (FP.l2d (own_abs x)) 4886405595696988160) .g = -1 := by
  have ha := own_abs_int x
  have hn : val64 (FP.l2d (own_abs x)) ≠ .nan := (l2d_whole (own_abs_b x)).ne_nan
  have h : FP.dcmp (FP.l2d (own_abs x)) 4886405595696988160 = some (compare (zval b64 (val64 (FP.l2d (own_abs x)))) (zval b64 (val64 4886405595696988160))) := dcmp_zval hn (by decide +kernel)
  have hl : compare (zval b64 (val64 (FP.l2d (own_abs x)))) (zval b64 (val64 4886405595696988160)) = .lt := by
    rw [own_zlong (own_abs_b x), own_p62, compare_lt_iff]
    exact Int.mul_lt_mul_of_pos_right (by omega) own_hu_pos
  rw [h, hl]
  rfl
theorem own_small52 (x : Int32) : cmpValue (FP.dcmp (FP.l2d (own_abs x)) (FP.l2d 4503599627370496)) .g = -1 := by
  have ha := own_abs_int x
  rw [dcmpV_w (own_abs_b x) own_p52_b]
  unfold lcmpW
  have h1 : ¬ (own_abs x > 4503599627370496) := fun z => by
    have := Int64.lt_iff_toInt_lt.mp z
    rw [show (4503599627370496 : Int64).toInt = 4503599627370496 from rfl] at this
    omega
  have h2 : ¬ (own_abs x = 4503599627370496) := fun z => by
    have := congrArg Int64.toInt z
    rw [show (4503599627370496 : Int64).toInt = 4503599627370496 from rfl] at this
    omega
  rw [if_neg h1, if_neg h2]
theorem own_rint_eq (x : Int32) : cmpValue (FP.dcmp (FP.l2d x.toInt64) (FP.l2d x.toInt64)) .l = 0 := (own_deq (own_nan_int x) (own_nan_int x) (own_zint x) (own_zint x)).mpr rfl
theorem own_noNaN_half (x : Int32) : NoNaN64 (FP.dadd (FP.l2d x.toInt64) own_half) := noNaN64_no.mpr ((notNaN_iff _).mpr (own_nan_half x))
end Jvm.RoadKit

namespace Jvm.RoadKit
open Sem ClassFile Op Lib Jvm.Stand Jvm.Free Jvm.LawKit
section OwnRint
variable {p : Program} {l : Launch} {e : Env} {R : Room} {s : State} {m : MethodId} {args : Array Value} {below : List Frame} {meth : Method} {c : Code} {T : State} {locs : List Loc} {cells slots : Nat} {Z : State} {a0 : Array Value} {h : Heap}
/-- the machine's own row for Math.rint: it calls StrictMath.rint back -/
def own_rintRow : NativeRow := (NativeRow.find? Native.java_lang_Math.nans.rows "java/lang/Math" "rint" "(D)D").get (by decide +kernel)
set_option maxRecDepth 100000 in
theorem own_rint_row (p : Program) : NativeRow.find? p.tables.natives "java/lang/Math" "rint" "(D)D" = some own_rintRow := by
  cases p <;> rfl
theorem own_rint_run (b : UInt64) (e : Env) (S : State) {cS : ClassId} {kS : Class} {i : Nat} (hf : S.vm.findClass "java/lang/StrictMath" = some cS) (hk : S.vm.classes[cS]? = some kS) (hi : kS.init = .initialized) (hm : kS.findMethod "rint" "(D)D" = some i) :
    ∃ acts, (own_rintRow.sem #[.double b]).run e S = .ctl (.call ⟨cS, i⟩ #[.double b] 1 #[]) S acts := by
  have hw : wpRun (own_rintRow.sem #[.double b]) (fun _ _ _ => False) (fun c s₂ _ => c = .call ⟨cS, i⟩ #[.double b] 1 #[] ∧ s₂ = S) e S := by
    show wpRun ((Native.java_lang_Math.nans.byStrictMath "rint" "nat.java_lang_Math.rint").sem #[.double b]) _ _ e S
    delta Native.java_lang_Math.nans.byStrictMath
    simp [jvm, wpRun, W.classNamed_ready hf, W.ensureInit_ready ⟨kS, hk, hi⟩, theClass, callThen, hk, hm]
    exact ⟨rfl, rfl, rfl, rfl⟩
  have hw' := (wpRun_iff_run _ _ _ _ _).mp hw
  cases hr : (own_rintRow.sem #[.double b]).run e S with
  | ok v s₂ acts₂ => rw [hr] at hw'; exact hw'.elim
  | ctl x s₂ acts₂ =>
    rw [hr] at hw'
    have h2 : x = .call ⟨cS, i⟩ #[.double b] 1 #[] ∧ s₂ = S := by cases x <;> first | exact hw' | exact hw'.elim
    obtain ⟨rfl, rfl⟩ := h2
    exact ⟨_, rfl⟩
theorem own_rint_resume {r : UInt64} (hn : r &&& 0x7fffffffffffffff ≤ 0x7ff0000000000000) (e : Env) (S : State) :
    ∃ acts, (own_rintRow.resume 1 #[] (.returned (some (.double r)))).run e S = .ok (some (.double r)) S acts := by
  have hw : wpRun (own_rintRow.resume 1 #[] (.returned (some (.double r)))) (fun v s₂ _ => v = some (.double r) ∧ s₂ = S) (fun _ _ _ => False) e S := by
    show wpRun ((Native.java_lang_Math.nans.byStrictMath "rint" "nat.java_lang_Math.rint").resume 1 #[] (.returned (some (.double r)))) _ _ e S
    delta Native.java_lang_Math.nans.byStrictMath
    simp [jvm, wpRun, anyNaN64, hn]
  have hw' := (wpRun_iff_run _ _ _ _ _).mp hw
  cases hr : (own_rintRow.resume 1 #[] (.returned (some (.double r)))).run e S with
  | ok v s₂ acts₂ => rw [hr] at hw'; obtain ⟨rfl, rfl⟩ := hw'; exact ⟨_, rfl⟩
  | ctl x s₂ acts₂ => rw [hr] at hw'; cases x <;> exact hw'.elim
/-- a static call of a method that an entry runs in its bytecode's place, over an At alone -/
theorem own_ovS (hA : At T m c below) (hx : p.tables.exec = Jvm.exec) (hadm : l.admits e) (hZ : Z.Warmed39 T.vm) {own : String} {index : Nat} {y : MethodName} {bytes : ByteArray} {maxL : Nat} {ret ret' : Option FieldType} {ps : List FieldType} {row : NativeRow}
    (hown : T.vm.findClass own = some m.cls) (w1 : (Cond.methodLink own index y).before a0 Z = true) (w2 : (Cond.static y).before a0 Z = true) (w3 : (Cond.initialized y.cls).before a0 Z = true) (w4 : (Cond.code y bytes maxL ret).before a0 Z = true)
    (hdesc : parseMethodDescriptor y.desc = some { parameters := ps, returnType := ret' }) (hy : y.cls ≠ "java/lang/invoke/MethodHandle" ∧ y.cls ≠ "java/lang/invoke/VarHandle")
    (hrow : NativeRow.find? p.tables.natives y.cls y.name y.desc = some row) (hin : overriddenIn.contains y.cls = true)
    {g : JFrame} (hg : g.method = m) {argsL rest : List Value} (hlen : argsL.length = ps.length) (hst : g.stack = argsL.reverse ++ rest) (hd : decode c.code g.pc = .ok (.invokestatic index, 3))
    (hroom : ∀ vm' : Vm, e.platform.stackFull (((((T.setVm vm').setTop { g with stack := rest }).threads[((T.setVm vm').setTop { g with stack := rest }).cur]?).getD { frames := [] })) ((T.setVm vm').setTop { g with stack := rest }).frames maxL = false)
    (hgiven : givenBack (argsToLocals argsL.toArray maxL) (ps.length + (if true then 0 else 1)) = argsL.toArray) {val : Value}
    (hw : ∀ (U : State) (Q : Option Value → Jvm.Pre), (∀ d' acts', Q (some val) d' acts' U) → wp (row.sem argsL.toArray) Q (fun _ _ _ => False) e false [] U) :
    ∃ vm', T.WarmedH vm' ∧ ∀ target, Steps p.tables e below ((T.setVm vm').setTop { g with pc := g.pc + 3, stack := val :: rest }) target → Steps p.tables e below (T.setTop g) target := by
  subst hg
  have v1 : (Cond.methodLink own index y).before #[] T = true := mvT hZ w1
  have v2 : (Cond.static y).before #[] T = true := mvT hZ w2
  have v3 : (Cond.initialized y.cls).before #[] T = true := mvT hZ w3
  have v4 : (Cond.code y bytes maxL ret).before #[] T = true := mvT hZ w4
  obtain ⟨r, k, x, code, hnamed, N, hml⟩ := OverriddenOf.of_code v4 v2 hdesc
  have hm' : T.vm.method? r = some x := by simp [Vm.method?, N.cls, N.meth]
  have hinit : k.init = .initialized := Cond.initialized_spec (findClass_of_methodNamed hnamed) N.cls v3
  have hpl : e.platform.magicAccessors = ({} : Platform).magicAccessors := by rw [hadm.platform]
  have hpv : e.platform.polymorphicOnlyByInvokevirtual = true := by rw [hadm.platform]
  obtain ⟨ci, hl, hright⟩ := Cond.methodLink_spec hown hnamed v1 e.platform hpl
  have hE : T.MethodEntry e T.vm g.method.cls index r ci := State.methodEntry (State.WarmedH.refl T) hl hright fun k' hk' => by
    cases N.cls.symm.trans hk'
    rw [N.className]; exact hy
  obtain ⟨dk, cfile, nt, mname, mdesc, via, ck, _, hd', hcf, hcp, hnt, -, -, hck, -, hnopoly, -⟩ := hl.here
  cases N.cls.symm.trans hck
  have alike := hE.warmed.alike
  obtain ⟨dk₂, hdk₂, hed₂⟩ := alike.2.2 _ _ hd'
  obtain ⟨k₂, hk₂, he₂⟩ := alike.2.2 _ _ N.cls
  have hnone : (k.methods.any fun z => z.name == mname && !z.isStatic && signaturePolymorphic k z) = false := by simp [hnopoly]
  have hnone₂ : (k₂.methods.any fun z => z.name == mname && !z.isStatic && signaturePolymorphic k₂ z) = false := by rw [he₂]; exact hnone
  obtain ⟨k', N'⟩ := N.alike alike
  refine ⟨T.vm.called g.method.cls ci index r, hE.warmed, fun target hrest => ?_⟩
  jvm_step hA [hx, hd, invokestatic.wp_cold (e := e) (s := T) (s₀ := T) (f := g) hA.top hpv (State.WarmedH.refl T) hE hd' hcf hcp hnt N.cls hnone,
    invokestatic.wp_ready (e := e) (s := T.setVm (T.vm.called g.method.cls ci index r)) (k := k₂) (meth := x) (m := r) (args := argsL) (rest := rest) (f := g)
      hA.top ⟨ci, mname, mdesc, via, r.cls, k₂, memberRef_ask_via (e := e) hdk₂ (by rw [hed₂]; exact hcf) hcp hnt, hE.classReady, hk₂, hnone₂⟩ hE.ready hk₂
      (by show (T.vm.called g.method.cls ci index r).method? r = some x; rw [alike.method?]; exact hm') (by rw [he₂]; exact hnopoly x) N.static (by rw [he₂]; exact hinit) (by rw [N.sig]; exact hlen) hst]
  intro acts
  exact Steps.overriddenEnds (g := { g with stack := rest }) (row := row) (code := code) (v := some val) (T := id) (hA.setVm alike) _ N'.cls N'.meth (by rw [N'.className]; exact hin) N'.boot N'.hasCode N'.noLock
    (by rw [N'.className, N'.name, N'.desc]; exact hrow) (by rw [hml]; exact hroom _) (by rw [hml, N'.sig, N'.static]; exact hgiven)
    (fun _ => rfl) rfl (fun fs => (hA.setVm alike).code) (fun fs Q hq => hw _ Q fun d' a' => hq d' a') hd hrest
/-- 'ldc2_w' of a double, over an At alone -/
theorem own_ldc2 (hA : At T m c below) (hx : p.tables.exec = Jvm.exec) (hZ : Z.Warmed39 T.vm) {own : String} {index : Nat} {b : UInt64} (hown : T.vm.findClass own = some m.cls) (w : (Cond.constantDouble own index b).before a0 Z = true) {g : JFrame} (hg : g.method = m) (hd : decode c.code g.pc = .ok (.ldc2_w index, 3)) :
    ∀ target, Steps p.tables e below (T.setTop { g with pc := g.pc + 3, stack := .double b :: g.stack }) target → Steps p.tables e below (T.setTop g) target := by
  have v : (Cond.constantDouble own index b).before #[] T = true := mvT hZ w
  obtain ⟨k, cf, hk, hcf, hcp⟩ := Cond.constantDouble_spec hown v
  intro target hrest
  subst hg
  jvm_step hA [hx, hd, ldc2_w.wp_double (s := T) (f := g) hA.top hk hcf hcp]
  exact hrest
/-- 'dreturn', over an At alone -/
theorem own_dret (hA : At T m c below) (hx : p.tables.exec = Jvm.exec) (hm' : T.vm.method? m = some meth) (hret : meth.sig.returnType = some .double) {pc : Nat} {Ls : Array Slot} {z : UInt64} (hd : decode c.code pc = .ok (.dreturn, 1)) {fs : List Frame}
    (hl : ∀ (f : JFrame) (acts : List Action), f.method = m → f.locked = none → f.entered = [] → (doReturn e (T.setTop f) acts (some (.double z))).1 = T.setFrames fs) :
    Steps p.tables e below (T.setTop (mkF m pc Ls [.double z])) (T.setFrames fs) := by
  have hn : narrow .double (.double z) = .double z := rfl
  show Steps p.tables e below (T.setTop { method := m, pc := pc, locals := Ls, stack := [.double z], locked := none }) _
  jvm_step hA [hA.top, hx, hd, hm', hret, hn, Value.isRef]
  first | (intro acts; rw [hl _ acts rfl rfl rfl]; exact Steps.refl _) | (rw [hl _ _ rfl rfl rfl]; exact Steps.refl _)
/-- room for one more frame over the frames F that lie on the walk's own; the note 'invoking' of the walk's start weighed as much as a native's frame -/
theorem own_full (X : Stand p l e R s m args below meth c T locs cells slots) {g : JFrame} (hsize : g.locals.size = c.maxLocals) {V : State} {F : List Frame} (hF : V.frames = F ++ .java g :: below) (hlim : e.platform.stackLimits V.me = e.platform.stackLimits T.me) {vars k : Nat} (hk : F.length = k) (hf : k + 1 ≤ R.frames)
    (hl : 2 * g.monitorRoom + (g.stack.map fun v => v.category).sum + stackWeight F + (vars + 11) ≤ R.locals + vmFrameWords) :
    e.platform.stackFull ((V.threads[V.cur]?).getD { frames := [] }) V.frames vars = false := by
  obtain ⟨-, r2, -, r4⟩ := State.hasRoom_stack X.room
  rw [State.localsInUse_invoking X.frames X.method X.code] at r4
  rw [X.frames, List.length_cons] at r2
  have hwt : stackWeight (F ++ .java g :: below) = stackWeight F + stackWeight (.java g :: below) := by
    show ((F ++ .java g :: below).map Frame.weight).sum = (F.map Frame.weight).sum + ((Frame.java g :: below).map Frame.weight).sum
    rw [List.map_append, List.sum_append]
  refine stackFull_of hF ?_ ?_
  · rw [hlim, X.limits, List.length_append, List.length_cons]; omega
  · rw [hlim, X.limits, hwt, stackWeight_java, hsize]; omega
/-- from the call of Math.rint to the first instruction of StrictMath.rint, the machine's own frame between them -/
theorem own_rintIn {b : UInt64} {U : State} {g g₀ : JFrame} (hA : At U g.method c below) (hr : U.frames = .java g₀ :: below) {mk : MethodId} {methM : Method} {kP : Class} {cM : Code}
    (hkP : U.vm.classes[mk.cls]? = some kP) (hxP : kP.methods[mk.idx]? = some methM) (hboot : kP.loader = none) (hkn : kP.name = "java/lang/Math") (hmn : methM.name = "rint") (hmd : methM.desc = "(D)D") (hps : methM.sig.parameters.length = 1) (hst : methM.isStatic = true) (hcM : methM.code = some cM) (hml : cM.maxLocals = 2) (hl : methM.locks = false)
    (hfull : e.platform.stackFull (((U.setTop g).threads[(U.setTop g).cur]?).getD { frames := [] }) (U.setTop g).frames 2 = false)
    {mS : MethodId} {kS : Class} {methS : Method} {cS : Code} (hfS : U.vm.findClass "java/lang/StrictMath" = some mS.cls) (hkS : U.vm.classes[mS.cls]? = some kS) (hiS : kS.init = .initialized) (hmS : kS.findMethod "rint" "(D)D" = some mS.idx) (hmethS : U.vm.method? mS = some methS) (hcS : methS.code = some cS) (hlS : methS.locks = false)
    (hfullS : ∀ V : State, V.frames = [.native { method := mk, args := #[.double b], stage := 1, saved := #[], awaiting := true, answer := none, words := 0 }] ++ .java g :: below → e.platform.stackLimits V.me = e.platform.stackLimits U.me → e.platform.stackFull ((V.threads[V.cur]?).getD { frames := [] }) V.frames cS.maxLocals = false) :
    Steps p.tables e below (doInvoke e (U.setTop g) [] mk #[.double b]).1 (U.setFrames (.java { method := mS, pc := 0, locals := argsToLocals #[.double b] cS.maxLocals, stack := [], locked := none } :: .native { method := mk, args := #[.double b], stage := 1, saved := #[], awaiting := true, answer := none, words := 0 } :: .java g :: below)) := by
  have hcur : U.cur < U.threads.size := State.cur_lt_of_frames hr
  have hm : (U.setTop g).vm.method? mk = some methM := by
    show U.vm.method? mk = some methM
    simp [Vm.method?, hkP, hxP]
  have htop : U.setTop g = U.setFrames (.java g :: below) := State.setTop_of_frames _ hr
  rw [(doInvoke_java (s := U.setTop g) (e := e) (acts := []) (args := #[.double b]) (meth := methM) (code := cM) hm hcM hl (by rw [hml]; exact hfull)).1, hml]
  have hU : (U.setTop g).pushFrame (.java { method := mk, pc := 0, locals := argsToLocals #[.double b] 2, stack := [], locked := none }) = U.setFrames (.java { method := mk, pc := 0, locals := argsToLocals #[.double b] 2, stack := [], locked := none } :: .java g :: below) := by
    rw [State.pushFrame, State.frames_setTop _ hr, htop, State.setFrames_setFrames]
  rw [hU]
  have hf1 : (U.setFrames (.java { method := mk, pc := 0, locals := argsToLocals #[.double b] 2, stack := [], locked := none } :: .java g :: below)).frames = .java { method := mk, pc := 0, locals := argsToLocals #[.double b] 2, stack := [], locked := none } :: .java g :: below := State.frames_setFrames _ hcur
  have hgv : givenBack (argsToLocals #[.double b] 2) (methM.sig.parameters.length + (if methM.isStatic then 0 else 1)) = #[.double b] := by
    rw [hps, hst]; exact givenBack_D b 2
  obtain ⟨acts₂, hr2⟩ := own_rint_run b e (U.setFrames (.native { method := mk, args := #[.double b], locked := none } :: .java g :: below)) (cS := mS.cls) (kS := kS) (i := mS.idx) hfS hkS hiS hmS
  have hwords : ((U.vm.classes[mk.cls]?).bind fun k => (k.methods[mk.idx]?).map fun n => upcallWords k.name n.name).getD 0 = 0 := by simp [hkP, hxP, hkn, hmn, upcallWords]
  have hstep : (stepThread p.tables e (U.setFrames (.java { method := mk, pc := 0, locals := argsToLocals #[.double b] 2, stack := [], locked := none } :: .java g :: below))).1 = (doInvoke e (U.setFrames (.native { method := mk, args := #[.double b], stage := 1, saved := #[], awaiting := true, answer := none, words := 0 } :: .java g :: below)) acts₂ mS #[.double b]).1 := by
    rw [stepThread_overridden (f := { method := mk, pc := 0, locals := argsToLocals #[.double b] 2, stack := [], locked := none }) (k := kP) (x := methM) (row := own_rintRow) hf1 rfl hkP hxP (by rw [hkn]; decide) hboot (by rw [hkn, hmn, hmd]; exact own_rint_row p)]
    simp only [hgv]
    rw [State.setFrames_setFrames, hr2]
    show (doInvoke e ((U.setFrames (.native { method := mk, args := #[.double b], locked := none } :: .java g :: below)).setFrames (.native { method := mk, args := #[.double b], stage := 1, saved := #[], awaiting := true, answer := none, words := ((U.vm.classes[mk.cls]?).bind fun k => (k.methods[mk.idx]?).map fun n => upcallWords k.name n.name).getD 0 } :: .java g :: below)) acts₂ mS #[.double b]).1 = _
    rw [hwords, State.setFrames_setFrames]
  refine Steps.head ⟨hA.running, by simpa using hA.runnable, by simpa using hA.alone⟩ ⟨[.java { method := mk, pc := 0, locals := argsToLocals #[.double b] 2, stack := [], locked := none }, .java g], hf1, by simp, by simp⟩ ?_
  rw [hstep]
  have hfN := State.frames_setFrames (s := U) (.native { method := mk, args := #[.double b], stage := 1, saved := #[], awaiting := true, answer := none, words := 0 } :: .java g :: below) hcur
  rw [(doInvoke_java (s := U.setFrames (.native { method := mk, args := #[.double b], stage := 1, saved := #[], awaiting := true, answer := none, words := 0 } :: .java g :: below)) (e := e) (acts := acts₂) (args := #[.double b]) (meth := methS) (code := cS) hmethS hcS hlS (hfullS _ hfN (State.stackLimits_setFrames _ _ _))).1]
  rw [State.pushFrame, hfN, State.setFrames_setFrames]
  exact Steps.refl _
/-- StrictMath.rint has answered: the machine's own frame hands it on -/
theorem own_rintOut {b : UInt64} {V : State} {g : JFrame} {mk : MethodId} {methM : Method} {kP : Class} (hfV : V.frames = .native { method := mk, args := #[.double b], stage := 1, saved := #[], awaiting := false, answer := some (.returned (some (.double b))), words := 0 } :: .java g :: below)
    (hrun : V.status = .running) (hcs : V.curStatus? = some .runnable) (hal : V.alone = true) (hkP : V.vm.classes[mk.cls]? = some kP) (hxP : kP.methods[mk.idx]? = some methM) (hboot : kP.loader = none) (hkn : kP.name = "java/lang/Math") (hmn : methM.name = "rint") (hmd : methM.desc = "(D)D")
    (hcode : V.code? g.method = some c) {ig : Instr} {len : Nat} (hdg : decode c.code g.pc = .ok (ig, len)) (hn : b &&& 0x7fffffffffffffff ≤ 0x7ff0000000000000) :
    Steps p.tables e below V (V.setFrames (.java { g with pc := g.pc + len, stack := .double b :: g.stack } :: below)) := by
  obtain ⟨acts₃, hr3⟩ := own_rint_resume hn e V
  have hfs : handOver V (some (.double b)) (.java g :: below) = some (.java { g with pc := g.pc + len, stack := .double b :: g.stack } :: below) := by
    simp [handOver, hcode, hdg, Except.toOption]
  have hstep : (stepThread p.tables e V).1 = V.setFrames (.java { g with pc := g.pc + len, stack := .double b :: g.stack } :: below) := by
    rw [Jvm.Free.Hsc.stepThread_resumed' (f := { method := mk, args := #[.double b], stage := 1, saved := #[], awaiting := false, answer := some (.returned (some (.double b))), words := 0 }) (o := .returned (some (.double b))) hfV hkP hboot hxP (by rw [hkn, hmn, hmd]; exact own_rint_row p) rfl]
    show (afterNative e _ _ ((own_rintRow.resume 1 #[] (.returned (some (.double b)))).run e V)).1 = _
    rw [hr3]
    exact doReturn_native (f := { method := mk, args := #[.double b], stage := 1, saved := #[], awaiting := false, answer := some (.returned (some (.double b))), words := 0 }) hfV rfl hfs
  refine Steps.head ⟨hrun, hcs, hal⟩ ⟨[.native { method := mk, args := #[.double b], stage := 1, saved := #[], awaiting := false, answer := some (.returned (some (.double b))), words := 0 }, .java g], hfV, by simp, by simp⟩ ?_
  rw [hstep]
  exact Steps.refl _
/-- a static call, paid by a Back -/
theorem gBackS (X : Stand p l e R s m args below meth c T locs cells slots) (hx : p.tables.exec = Jvm.exec) (hZ : Z.Warmed39 s.vm) {own : String} {index : Nat} {y : MethodName} {bytes : ByteArray} {maxL : Nat} {ret : Option FieldType} (hown : s.vm.findClass own = some m.cls)
    (w1 : (Cond.methodLink own index y).before a0 Z = true) (w2 : (Cond.static y).before a0 Z = true) (w3 : (Cond.initialized y.cls).before a0 Z = true) (w4 : (Cond.code y bytes maxL ret).before a0 Z = true) (hy : y.cls ≠ "java/lang/invoke/MethodHandle" ∧ y.cls ≠ "java/lang/invoke/VarHandle")
    {kc ks W : Nat} {as' : Array Value} {QQ : Option Value → Heap → List Loc → Prop} (hK : Back l R p e below s args y 3 W (fun A a => a = as' ∧ A.U.heap = h ∧ A.cells + kc ≤ R.cells ∧ A.slots + ks ≤ R.slots) (fun A _ v B => ∃ L, QQ v B.U.heap L ∧ B.locs = A.locs ++ L ∧ B.cells = A.cells + kc ∧ B.slots = A.slots + ks)) (eT : T.heap = h) (hc : cells + kc ≤ R.cells) (hs : slots + ks ≤ R.slots)
    {g : JFrame} (hg : g.method = m) (hsize : g.locals.size = c.maxLocals) {argsL rest : List Value} (hlen : ∀ sig, parseMethodDescriptor y.desc = some sig → argsL.length = sig.parameters.length) (hstack : g.stack = argsL.reverse ++ rest) (has : argsL.toArray = as') (hW : 2 * g.monitorRoom + (rest.map fun v => v.category).sum ≤ W) (hd : decode c.code g.pc = .ok (.invokestatic index, 3))
    {Rr : State → Outcome → Prop} (k : ∀ (v : Option Value) (T' : State) (L : List Loc), Stand p l e R s m args below meth c T' (locs ++ L) (cells + kc) (slots + ks) → QQ v T'.heap L → Gl p e below Rr (T'.setTop { g with pc := g.pc + 3, stack := v.toList ++ rest })) : Gl p e below Rr (T.setTop g) := by
  obtain ⟨v, vm₁, ⟨T', L', c', n'⟩, -, X', ⟨L, hQ, q1, q2, q3⟩, st⟩ := Jvm.LawKit.callS X hx (y := y) hown (mvT hZ w1) (mvT hZ w2) (mvT hZ w3) (mvT hZ w4) hy hK hg hsize hlen hstack hW hd (fun _ _ => ⟨has, eT, hc, hs⟩)
  dsimp only [Pt.U, Pt.locs, Pt.cells, Pt.slots] at X' q1 q2 q3 st hQ
  subst q1 q2 q3
  exact Gl.st st (k v T' L X' hQ)
end OwnRint
end Jvm.RoadKit

namespace Jvm.Pilot.@@N@@
open Jvm Jvm.ClassFile Sem Op Lib Jvm.Free Jvm.Stand Jvm.LawKit Jvm.RoadKit Bundle Jvm.Pilot.@@N@@.Jvm.D

open Jvm.FP.Core (val64 zval b64)
theorem own_p0 : (parseMethodDescriptor "()V").map (fun s => s.parameters.length) = some 0 := by decide +kernel
theorem own_pD : (parseMethodDescriptor "(D)V").map (fun s => s.parameters.length) = some 1 := by decide +kernel
theorem own_pJ : (parseMethodDescriptor "(J)V").map (fun s => s.parameters.length) = some 1 := by decide +kernel
theorem own_pDD : (parseMethodDescriptor "(D)D").map (fun s => s.parameters.length) = some 1 := by decide +kernel
theorem own_p2D : (parseMethodDescriptor "(DD)D").map (fun s => s.parameters.length) = some 2 := by decide +kernel
theorem own_pBI : (parseMethodDescriptor "(Ljava/math/BigInteger;)V").map (fun s => s.parameters.length) = some 1 := by decide +kernel
theorem own_pJB : (parseMethodDescriptor "(J)Ljava/math/BigInteger;").map (fun s => s.parameters.length) = some 1 := by decide +kernel
theorem own_pN : (parseMethodDescriptor "(D)Lcom/example/ironbound_models/ironboundmodels/interpreter/NumericValue;").map (fun s => s.parameters.length) = some 1 := by decide +kernel
theorem own_pCZ : (parseMethodDescriptor "(C)Z").map (fun s => s.parameters.length) = some 1 := by decide +kernel
theorem own_pCB : (parseMethodDescriptor "(C)[B").map (fun s => s.parameters.length) = some 1 := by decide +kernel
theorem own_pBB : (parseMethodDescriptor "([BB)V").map (fun s => s.parameters.length) = some 2 := by decide +kernel
theorem own_pCS : (parseMethodDescriptor "(C)Ljava/lang/String;").map (fun s => s.parameters.length) = some 1 := by decide +kernel
theorem own_pOZ : (parseMethodDescriptor "(Ljava/lang/Object;)Z").map (fun s => s.parameters.length) = some 1 := by decide +kernel
theorem d3_0 : decode prog_209_method_1_code 0 = .ok (.aload_n 0, 1) := by decide +kernel
theorem d3_1 : decode prog_209_method_1_code 1 = .ok (.invokespecial 1, 3) := by decide +kernel
theorem d3_4 : decode prog_209_method_1_code 4 = .ok (.return_, 1) := by decide +kernel
set_option maxRecDepth 65536 in
set_option maxHeartbeats 40000000 in
theorem own_vini (l : Launch) (Z : State) (a0 : Array Value) (hw : ∀ d ∈ tables_1, d.before a0 Z = true) (h0 : Heap) (a : Addr) :
    Con [] l Z (⟨"com/example/ironbound_models/ironboundmodels/interpreter/Value", "<init>", "()V"⟩ : MethodName) prog_209_method_1_code 1 none ({ frames := 1, cells := 0, slots := 0, locals := 12 } : Room) #[(.ref a)] h0 (fun v h L => v = none ∧ L = [] ∧ h = h0) := by
  refine Con.of (Ls := #[.val (.ref a)]) (by first | exact plainFor_of_name (by first | (simp [plainName, overriddenIn]; done) | decide +kernel) | decide +kernel) (fun m => by first | (simp [entryFrame, mkF, argsToLocals, Value.category]; done) | (simp [entryFrame, mkF, argsToLocals, Value.category, maxLocals]; done) | rfl) ?_
  intro p e s m below meth c T0 hx hby hml hown hnm hret hlk hZ e0 X0
  refine Gl.st (U' := (T0.setTop (mkF m 1 #[.val (.ref a)] [(.ref a)]))) (fun _ zz => XS.aloadN X0.here hx rfl (hb hby d3_0) rfl rfl zz) ?_
  obtain ⟨Tt1, Xt1, et1, stt1⟩ := initO X0 hx hZ hown (hw _ (List.mem_of_getElem? (i := 18) rfl)) (hw _ (List.mem_of_getElem? (i := 19) rfl)) (hw _ (List.mem_of_getElem? (i := 20) rfl)) e0 (g := (mkF m 1 #[.val (.ref a)] [(.ref a)])) rfl (by rw [hml]; rfl) rfl (hb hby d3_1) (by decide) (W := 0) (by show 2 * 0 + _ ≤ _; exact Nat.le_of_eq rfl) (by decide)
  refine Gl.st (U' := (Tt1.setTop (mkF m 4 #[.val (.ref a)] []))) stt1 ?_
  exact Gl.retV Xt1 hx hret hlk (hb hby d3_4) ⟨rfl, rfl, et1⟩ (by decide) (by decide)
theorem d18_0 : decode jdk_18_method_1_code 0 = .ok (.aload_n 0, 1) := by decide +kernel
theorem d18_1 : decode jdk_18_method_1_code 1 = .ok (.invokespecial 1, 3) := by decide +kernel
theorem d18_4 : decode jdk_18_method_1_code 4 = .ok (.return_, 1) := by decide +kernel
set_option maxRecDepth 65536 in
set_option maxHeartbeats 40000000 in
theorem own_nini (l : Launch) (Z : State) (a0 : Array Value) (hw : ∀ d ∈ tables_1, d.before a0 Z = true) (h0 : Heap) (a : Addr) :
    Con [] l Z (⟨"java/lang/Number", "<init>", "()V"⟩ : MethodName) jdk_18_method_1_code 1 none ({ frames := 1, cells := 0, slots := 0, locals := 12 } : Room) #[(.ref a)] h0 (fun v h L => v = none ∧ L = [] ∧ h = h0) := by
  refine Con.of (Ls := #[.val (.ref a)]) (by first | exact plainFor_of_name (by first | (simp [plainName, overriddenIn]; done) | decide +kernel) | decide +kernel) (fun m => by first | (simp [entryFrame, mkF, argsToLocals, Value.category]; done) | (simp [entryFrame, mkF, argsToLocals, Value.category, maxLocals]; done) | rfl) ?_
  intro p e s m below meth c T0 hx hby hml hown hnm hret hlk hZ e0 X0
  refine Gl.st (U' := (T0.setTop (mkF m 1 #[.val (.ref a)] [(.ref a)]))) (fun _ zz => XS.aloadN X0.here hx rfl (hb hby d18_0) rfl rfl zz) ?_
  obtain ⟨Tt2, Xt2, et2, stt2⟩ := initO X0 hx hZ hown (hw _ (List.mem_of_getElem? (i := 107) rfl)) (hw _ (List.mem_of_getElem? (i := 19) rfl)) (hw _ (List.mem_of_getElem? (i := 20) rfl)) e0 (g := (mkF m 1 #[.val (.ref a)] [(.ref a)])) rfl (by rw [hml]; rfl) rfl (hb hby d18_1) (by decide) (W := 0) (by show 2 * 0 + _ ≤ _; exact Nat.le_of_eq rfl) (by decide)
  refine Gl.st (U' := (Tt2.setTop (mkF m 4 #[.val (.ref a)] []))) stt2 ?_
  exact Gl.retV Xt2 hx hret hlk (hb hby d18_4) ⟨rfl, rfl, et2⟩ (by decide) (by decide)
theorem d2_0 : decode prog_176_method_1_code 0 = .ok (.aload_n 0, 1) := by decide +kernel
theorem d2_1 : decode prog_176_method_1_code 1 = .ok (.invokespecial 1, 3) := by decide +kernel
theorem d2_4 : decode prog_176_method_1_code 4 = .ok (.return_, 1) := by decide +kernel
set_option maxRecDepth 65536 in
set_option maxHeartbeats 40000000 in
theorem own_nvini (l : Launch) (Z : State) (a0 : Array Value) (hw : ∀ d ∈ tables_1, d.before a0 Z = true) (h0 : Heap) (a : Addr) :
    Con [] l Z (⟨"com/example/ironbound_models/ironboundmodels/interpreter/NumericValue", "<init>", "()V"⟩ : MethodName) prog_176_method_1_code 1 none ({ frames := 2, cells := 0, slots := 0, locals := 24 } : Room) #[(.ref a)] h0 (fun v h L => v = none ∧ L = [] ∧ h = h0) := by
  refine Con.of (Ls := #[.val (.ref a)]) (by first | exact plainFor_of_name (by first | (simp [plainName, overriddenIn]; done) | decide +kernel) | decide +kernel) (fun m => by first | (simp [entryFrame, mkF, argsToLocals, Value.category]; done) | (simp [entryFrame, mkF, argsToLocals, Value.category, maxLocals]; done) | rfl) ?_
  intro p e s m below meth c T0 hx hby hml hown hnm hret hlk hZ e0 X0
  refine Gl.st (U' := (T0.setTop (mkF m 1 #[.val (.ref a)] [(.ref a)]))) (fun _ zz => XS.aloadN X0.here hx rfl (hb hby d2_0) rfl rfl zz) ?_
  refine gCallI X0 hx hZ (y := (⟨"com/example/ironbound_models/ironboundmodels/interpreter/Value", "<init>", "()V"⟩ : MethodName)) rfl hown (hw _ (List.mem_of_getElem? (i := 13) rfl)) (hw _ (List.mem_of_getElem? (i := 14) rfl)) (hw _ (List.mem_of_getElem? (i := 16) rfl)) (hw _ (List.mem_of_getElem? (i := 17) rfl)) (by decide) (own_vini l Z a0 hw h0 a) e0 (by decide) (W := 0) (by decide) (by decide) (by decide) (g := (mkF m 1 #[.val (.ref a)] [(.ref a)])) rfl (by rw [hml]; rfl) (argsL := []) (rest := []) (own_lenOf own_p0 rfl) rfl rfl (by show 2 * 0 + _ ≤ _; exact Nat.le_of_eq rfl) (hb hby d2_1) ?_
  rintro _ Tt3 Lt3 Xt3 ⟨rfl, rfl, et3⟩
  show Gl p e below _ (Tt3.setTop (mkF m 4 #[.val (.ref a)] []))
  exact Gl.retV Xt3 hx hret hlk (hb hby d2_4) ⟨rfl, rfl, et3⟩ (by decide) (by decide)
def own_R (Z : State) (h : Heap) (a : Addr) (x : UInt64) : Prop := Exa Z h a "com/example/ironbound_models/ironboundmodels/interpreter/RealValue" ∧ own_K h a ∧ Fld Z h a "com/example/ironbound_models/ironboundmodels/interpreter/RealValue" "value" "D" (.double x)
theorem own_R_keep {Z : State} {h h' : Heap} {a : Addr} {x : UInt64} {ws : List Addr} (K : Keep h h' ws) (q : a ∉ ws) (H : own_R Z h a x) : own_R Z h' a x := ⟨H.1.keep K, own_K_keep K H.2.1, H.2.2.keep K q⟩
theorem own_R_ext {Z : State} {h h' : Heap} {a : Addr} {x : UInt64} (E : Ext h h') (H : own_R Z h a x) : own_R Z h' a x := ⟨H.1.ext E, own_K_ext E H.2.1, H.2.2.ext E⟩
theorem d1_0 : decode prog_188_method_1_code 0 = .ok (.aload_n 0, 1) := by decide +kernel
theorem d1_1 : decode prog_188_method_1_code 1 = .ok (.invokespecial 1, 3) := by decide +kernel
theorem d1_4 : decode prog_188_method_1_code 4 = .ok (.aload_n 0, 1) := by decide +kernel
theorem d1_5 : decode prog_188_method_1_code 5 = .ok (.dload_n 1, 1) := by decide +kernel
theorem d1_6 : decode prog_188_method_1_code 6 = .ok (.putfield 7, 3) := by decide +kernel
theorem d1_9 : decode prog_188_method_1_code 9 = .ok (.return_, 1) := by decide +kernel
set_option maxRecDepth 65536 in
set_option maxHeartbeats 40000000 in
theorem own_rini (l : Launch) (Z : State) (a0 : Array Value) (hw : ∀ d ∈ tables_1, d.before a0 Z = true) (h0 : Heap) (n0 : Nat) (a : Addr) (ga : n0 ≤ a) (E0 : Exa Z h0 a "com/example/ironbound_models/ironboundmodels/interpreter/RealValue") (K0 : own_K h0 a) (x : UInt64) :
    Con [] l Z (⟨"com/example/ironbound_models/ironboundmodels/interpreter/RealValue", "<init>", "(D)V"⟩ : MethodName) prog_188_method_1_code 3 none ({ frames := 3, cells := 0, slots := 0, locals := 36 } : Room) #[(.ref a), (.double x)] h0 (fun v h L => v = none ∧ Fr n0 L ∧ Keep h0 h [a] ∧ own_R Z h a x) := by
  refine Con.of (Ls := #[.val (.ref a), .val (.double x), .second]) (by first | exact plainFor_of_name (by first | (simp [plainName, overriddenIn]; done) | decide +kernel) | decide +kernel) (fun m => by first | (simp [entryFrame, mkF, argsToLocals, Value.category]; done) | (simp [entryFrame, mkF, argsToLocals, Value.category, maxLocals]; done) | rfl) ?_
  intro p e s m below meth c T0 hx hby hml hown hnm hret hlk hZ e0 X0
  have NF0 := Fr.nil n0
  have P0 : Keep h0 h0 [a] := Keep.refl _ _
  refine Gl.st (U' := (T0.setTop (mkF m 1 #[.val (.ref a), .val (.double x), .second] [(.ref a)]))) (fun _ zz => XS.aloadN X0.here hx rfl (hb hby d1_0) rfl rfl zz) ?_
  refine gCallI X0 hx hZ (y := (⟨"com/example/ironbound_models/ironboundmodels/interpreter/NumericValue", "<init>", "()V"⟩ : MethodName)) rfl hown (hw _ (List.mem_of_getElem? (i := 8) rfl)) (hw _ (List.mem_of_getElem? (i := 9) rfl)) (hw _ (List.mem_of_getElem? (i := 11) rfl)) (hw _ (List.mem_of_getElem? (i := 12) rfl)) (by decide) (own_nvini l Z a0 hw h0 a) e0 (by decide) (W := 0) (by decide) (by decide) (by decide) (g := (mkF m 1 #[.val (.ref a), .val (.double x), .second] [(.ref a)])) rfl (by rw [hml]; rfl) (argsL := []) (rest := []) (own_lenOf own_p0 rfl) rfl rfl (by show 2 * 0 + _ ≤ _; exact Nat.le_of_eq rfl) (hb hby d1_1) ?_
  rintro _ Tt4 Lt4 Xt4 ⟨rfl, rfl, et4⟩
  show Gl p e below _ (Tt4.setTop (mkF m 4 #[.val (.ref a), .val (.double x), .second] []))
  refine Gl.st (U' := (Tt4.setTop (mkF m 5 #[.val (.ref a), .val (.double x), .second] [(.ref a)]))) (fun _ zz => XS.aloadN Xt4.here hx rfl (hb hby d1_4) rfl rfl zz) ?_
  refine Gl.st (U' := (Tt4.setTop (mkF m 6 #[.val (.ref a), .val (.double x), .second] [(.double x), (.ref a)]))) (fun _ zz => XS.dloadN Xt4.here hx rfl (hb hby d1_5) rfl zz) ?_
  obtain ⟨ot5, Ft5⟩ := fld_laid E0 K0 (hw _ (List.mem_of_getElem? (i := 3) rfl)) (Or.inr (hw _ (List.mem_of_getElem? (i := 22) rfl)))
  obtain ⟨Tt6, ht6, Xt6, et6, Wt6, stt6⟩ := putF Xt4 hx hZ hown (host := "") (Or.inl (hw _ (List.mem_of_getElem? (i := 21) rfl))) Via.refl et4 Ft5 E0 (Or.inr ⟨(hw _ (List.mem_of_getElem? (i := 22) rfl)), rfl, hnm⟩) (hw _ (List.mem_of_getElem? (i := 3) rfl)) (ty := .double) (by decide +kernel) rfl rfl (g := (mkF m 6 #[.val (.ref a), .val (.double x), .second] [(.double x), (.ref a)])) rfl rfl (hb hby d1_6)
  refine Gl.st (U' := (Tt6.setTop (mkF m 9 #[.val (.ref a), .val (.double x), .second] []))) stt6 ?_
  have Et7 := Exa.wr Wt6 E0
  have Kt8 := own_K_wr Wt6 K0
  have Ft9 := Fld.same Wt6 Ft5
  have Pt10 := Keep.wr P0 Wt6 (Or.inl (by simp))
  have Nt11 := Fr.snoc Xt6 NF0 ga
  exact Gl.retV Xt6 hx hret hlk (hb hby d1_9) (by rw [et6]; exact ⟨rfl, by simpa using Nt11, Pt10, Et7, Kt8, Ft9⟩) (by decide) (by decide)
theorem d16_0 : decode prog_161_method_1_code 0 = .ok (.aload_n 0, 1) := by decide +kernel
theorem d16_1 : decode prog_161_method_1_code 1 = .ok (.invokespecial 1, 3) := by decide +kernel
theorem d16_4 : decode prog_161_method_1_code 4 = .ok (.aload_n 0, 1) := by decide +kernel
theorem d16_5 : decode prog_161_method_1_code 5 = .ok (.aload_n 1, 1) := by decide +kernel
theorem d16_6 : decode prog_161_method_1_code 6 = .ok (.putfield 7, 3) := by decide +kernel
theorem d16_9 : decode prog_161_method_1_code 9 = .ok (.return_, 1) := by decide +kernel
set_option maxRecDepth 65536 in
set_option maxHeartbeats 40000000 in
theorem own_iini (l : Launch) (Z : State) (a0 : Array Value) (hw : ∀ d ∈ tables_1, d.before a0 Z = true) (h0 : Heap) (n0 : Nat) (a : Addr) (ga : n0 ≤ a) (E0 : Exa Z h0 a "com/example/ironbound_models/ironboundmodels/interpreter/IntegerValue") (K0 : own_K h0 a) (u : Value) (hu : u.isRef = true) :
    Con [] l Z (⟨"com/example/ironbound_models/ironboundmodels/interpreter/IntegerValue", "<init>", "(Ljava/math/BigInteger;)V"⟩ : MethodName) prog_161_method_1_code 2 none ({ frames := 3, cells := 0, slots := 0, locals := 36 } : Room) #[(.ref a), u] h0 (fun v h L => v = none ∧ Fr n0 L ∧ Keep h0 h [a] ∧ Exa Z h a "com/example/ironbound_models/ironboundmodels/interpreter/IntegerValue") := by
  refine Con.of (Ls := #[.val (.ref a), .val u]) (by first | exact plainFor_of_name (by first | (simp [plainName, overriddenIn]; done) | decide +kernel) | decide +kernel) (fun m => by rcases ref_cases hu with rfl | ⟨_, rfl⟩ <;> first | (simp [entryFrame, mkF, argsToLocals, Value.category]; done) | rfl) ?_
  intro p e s m below meth c T0 hx hby hml hown hnm hret hlk hZ e0 X0
  have NF0 := Fr.nil n0
  have P0 : Keep h0 h0 [a] := Keep.refl _ _
  refine Gl.st (U' := (T0.setTop (mkF m 1 #[.val (.ref a), .val u] [(.ref a)]))) (fun _ zz => XS.aloadN X0.here hx rfl (hb hby d16_0) rfl rfl zz) ?_
  refine gCallI X0 hx hZ (y := (⟨"com/example/ironbound_models/ironboundmodels/interpreter/NumericValue", "<init>", "()V"⟩ : MethodName)) rfl hown (hw _ (List.mem_of_getElem? (i := 88) rfl)) (hw _ (List.mem_of_getElem? (i := 9) rfl)) (hw _ (List.mem_of_getElem? (i := 11) rfl)) (hw _ (List.mem_of_getElem? (i := 12) rfl)) (by decide) (own_nvini l Z a0 hw h0 a) e0 (by decide) (W := 0) (by decide) (by decide) (by decide) (g := (mkF m 1 #[.val (.ref a), .val u] [(.ref a)])) rfl (by rw [hml]; rfl) (argsL := []) (rest := []) (own_lenOf own_p0 rfl) rfl rfl (by show 2 * 0 + _ ≤ _; exact Nat.le_of_eq rfl) (hb hby d16_1) ?_
  rintro _ Tt12 Lt12 Xt12 ⟨rfl, rfl, et12⟩
  show Gl p e below _ (Tt12.setTop (mkF m 4 #[.val (.ref a), .val u] []))
  refine Gl.st (U' := (Tt12.setTop (mkF m 5 #[.val (.ref a), .val u] [(.ref a)]))) (fun _ zz => XS.aloadN Xt12.here hx rfl (hb hby d16_4) rfl rfl zz) ?_
  refine Gl.st (U' := (Tt12.setTop (mkF m 6 #[.val (.ref a), .val u] [u, (.ref a)]))) (fun _ zz => XS.aloadN Xt12.here hx rfl (hb hby d16_5) rfl hu zz) ?_
  obtain ⟨ot13, Ft13⟩ := fld_laid E0 K0 (hw _ (List.mem_of_getElem? (i := 77) rfl)) (Or.inr (hw _ (List.mem_of_getElem? (i := 90) rfl)))
  obtain ⟨Tt14, ht14, Xt14, et14, Wt14, stt14⟩ := putF Xt12 hx hZ hown (host := "") (Or.inl (hw _ (List.mem_of_getElem? (i := 89) rfl))) Via.refl et12 Ft13 E0 (Or.inr ⟨(hw _ (List.mem_of_getElem? (i := 90) rfl)), rfl, hnm⟩) (hw _ (List.mem_of_getElem? (i := 77) rfl)) (ty := (.object "java/math/BigInteger")) (by decide +kernel) own_nr (own_fr hu) (g := (mkF m 6 #[.val (.ref a), .val u] [u, (.ref a)])) rfl rfl (hb hby d16_6)
  refine Gl.st (U' := (Tt14.setTop (mkF m 9 #[.val (.ref a), .val u] []))) stt14 ?_
  have Et15 := Exa.wr Wt14 E0
  have Kt16 := own_K_wr Wt14 K0
  have Ft17 := Fld.same Wt14 Ft13
  have Pt18 := Keep.wr P0 Wt14 (Or.inl (by simp))
  have Nt19 := Fr.snoc Xt14 NF0 ga
  exact Gl.retV Xt14 hx hret hlk (hb hby d16_9) (by rw [et14]; exact ⟨rfl, by simpa using Nt19, Pt18, Et15⟩) (by decide) (by decide)
theorem d17_0 : decode jdk_2097_method_30_code 0 = .ok (.aload_n 0, 1) := by decide +kernel
theorem d17_1 : decode jdk_2097_method_30_code 1 = .ok (.invokespecial 3, 3) := by decide +kernel
theorem d17_4 : decode jdk_2097_method_30_code 4 = .ok (.lload_n 1, 1) := by decide +kernel
theorem d17_5 : decode jdk_2097_method_30_code 5 = .ok (.lconst 0, 1) := by decide +kernel
theorem d17_6 : decode jdk_2097_method_30_code 6 = .ok (.lcmp, 1) := by decide +kernel
theorem d17_7 : decode jdk_2097_method_30_code 7 = .ok (.ifCond .ge 14, 3) := by decide +kernel
theorem d17_10 : decode jdk_2097_method_30_code 10 = .ok (.lload_n 1, 1) := by decide +kernel
theorem d17_11 : decode jdk_2097_method_30_code 11 = .ok (.lneg, 1) := by decide +kernel
theorem d17_12 : decode jdk_2097_method_30_code 12 = .ok (.lstore_n 1, 1) := by decide +kernel
theorem d17_13 : decode jdk_2097_method_30_code 13 = .ok (.aload_n 0, 1) := by decide +kernel
theorem d17_14 : decode jdk_2097_method_30_code 14 = .ok (.iconst (-1), 1) := by decide +kernel
theorem d17_15 : decode jdk_2097_method_30_code 15 = .ok (.putfield 32, 3) := by decide +kernel
theorem d17_18 : decode jdk_2097_method_30_code 18 = .ok (.goto 8, 3) := by decide +kernel
theorem d17_21 : decode jdk_2097_method_30_code 21 = .ok (.aload_n 0, 1) := by decide +kernel
theorem d17_22 : decode jdk_2097_method_30_code 22 = .ok (.iconst 1, 1) := by decide +kernel
theorem d17_23 : decode jdk_2097_method_30_code 23 = .ok (.putfield 32, 3) := by decide +kernel
theorem d17_26 : decode jdk_2097_method_30_code 26 = .ok (.lload_n 1, 1) := by decide +kernel
theorem d17_27 : decode jdk_2097_method_30_code 27 = .ok (.bipush 32, 2) := by decide +kernel
theorem d17_29 : decode jdk_2097_method_30_code 29 = .ok (.lushr, 1) := by decide +kernel
theorem d17_30 : decode jdk_2097_method_30_code 30 = .ok (.l2i, 1) := by decide +kernel
theorem d17_31 : decode jdk_2097_method_30_code 31 = .ok (.istore_n 3, 1) := by decide +kernel
theorem d17_32 : decode jdk_2097_method_30_code 32 = .ok (.iload_n 3, 1) := by decide +kernel
theorem d17_33 : decode jdk_2097_method_30_code 33 = .ok (.ifCond .ne 21, 3) := by decide +kernel
theorem d17_36 : decode jdk_2097_method_30_code 36 = .ok (.aload_n 0, 1) := by decide +kernel
theorem d17_37 : decode jdk_2097_method_30_code 37 = .ok (.iconst 1, 1) := by decide +kernel
theorem d17_38 : decode jdk_2097_method_30_code 38 = .ok (.newarray .int, 2) := by decide +kernel
theorem d17_40 : decode jdk_2097_method_30_code 40 = .ok (.putfield 28, 3) := by decide +kernel
theorem d17_43 : decode jdk_2097_method_30_code 43 = .ok (.aload_n 0, 1) := by decide +kernel
theorem d17_44 : decode jdk_2097_method_30_code 44 = .ok (.getfield 28, 3) := by decide +kernel
theorem d17_47 : decode jdk_2097_method_30_code 47 = .ok (.iconst 0, 1) := by decide +kernel
theorem d17_48 : decode jdk_2097_method_30_code 48 = .ok (.lload_n 1, 1) := by decide +kernel
theorem d17_49 : decode jdk_2097_method_30_code 49 = .ok (.l2i, 1) := by decide +kernel
theorem d17_50 : decode jdk_2097_method_30_code 50 = .ok (.iastore, 1) := by decide +kernel
theorem d17_51 : decode jdk_2097_method_30_code 51 = .ok (.goto 25, 3) := by decide +kernel
theorem d17_54 : decode jdk_2097_method_30_code 54 = .ok (.aload_n 0, 1) := by decide +kernel
theorem d17_55 : decode jdk_2097_method_30_code 55 = .ok (.iconst 2, 1) := by decide +kernel
theorem d17_56 : decode jdk_2097_method_30_code 56 = .ok (.newarray .int, 2) := by decide +kernel
theorem d17_58 : decode jdk_2097_method_30_code 58 = .ok (.putfield 28, 3) := by decide +kernel
theorem d17_61 : decode jdk_2097_method_30_code 61 = .ok (.aload_n 0, 1) := by decide +kernel
theorem d17_62 : decode jdk_2097_method_30_code 62 = .ok (.getfield 28, 3) := by decide +kernel
theorem d17_65 : decode jdk_2097_method_30_code 65 = .ok (.iconst 0, 1) := by decide +kernel
theorem d17_66 : decode jdk_2097_method_30_code 66 = .ok (.iload_n 3, 1) := by decide +kernel
theorem d17_67 : decode jdk_2097_method_30_code 67 = .ok (.iastore, 1) := by decide +kernel
theorem d17_68 : decode jdk_2097_method_30_code 68 = .ok (.aload_n 0, 1) := by decide +kernel
theorem d17_69 : decode jdk_2097_method_30_code 69 = .ok (.getfield 28, 3) := by decide +kernel
theorem d17_72 : decode jdk_2097_method_30_code 72 = .ok (.iconst 1, 1) := by decide +kernel
theorem d17_73 : decode jdk_2097_method_30_code 73 = .ok (.lload_n 1, 1) := by decide +kernel
theorem d17_74 : decode jdk_2097_method_30_code 74 = .ok (.l2i, 1) := by decide +kernel
theorem d17_75 : decode jdk_2097_method_30_code 75 = .ok (.iastore, 1) := by decide +kernel
theorem d17_76 : decode jdk_2097_method_30_code 76 = .ok (.return_, 1) := by decide +kernel
set_option maxRecDepth 65536 in
set_option maxHeartbeats 40000000 in
theorem own_bini (l : Launch) (Z : State) (a0 : Array Value) (hw : ∀ d ∈ tables_1, d.before a0 Z = true) (h0 : Heap) (n0 : Nat) (a : Addr) (ga : n0 ≤ a) (E0 : Exa Z h0 a "java/math/BigInteger") (K0 : own_K h0 a) (O0 : Old Z n0 h0) (x : Int64) :
    Con [] l Z (⟨"java/math/BigInteger", "<init>", "(J)V"⟩ : MethodName) jdk_2097_method_30_code 4 none ({ frames := 2, cells := 1, slots := 2, locals := 24 } : Room) #[(.ref a), (.long x)] h0 (fun v h L => v = none ∧ Fr n0 L ∧ Keep h0 h [a]) := by
  refine Con.of (Ls := #[.val (.ref a), .val (.long x), .second, .unset]) (by first | exact plainFor_of_name (by first | (simp [plainName, overriddenIn]; done) | decide +kernel) | decide +kernel) (fun m => by first | (simp [entryFrame, mkF, argsToLocals, Value.category]; done) | (simp [entryFrame, mkF, argsToLocals, Value.category, maxLocals]; done) | rfl) ?_
  intro p e s m below meth c T0 hx hby hml hown hnm hret hlk hZ e0 X0
  have NF0 := Fr.nil n0
  have P0 : Keep h0 h0 [a] := Keep.refl _ _
  refine Gl.st (U' := (T0.setTop (mkF m 1 #[.val (.ref a), .val (.long x), .second, .unset] [(.ref a)]))) (fun _ zz => XS.aloadN X0.here hx rfl (hb hby d17_0) rfl rfl zz) ?_
  refine gCallI X0 hx hZ (y := (⟨"java/lang/Number", "<init>", "()V"⟩ : MethodName)) rfl hown (hw _ (List.mem_of_getElem? (i := 101) rfl)) (hw _ (List.mem_of_getElem? (i := 102) rfl)) (hw _ (List.mem_of_getElem? (i := 105) rfl)) (hw _ (List.mem_of_getElem? (i := 106) rfl)) (by decide) (own_nini l Z a0 hw h0 a) e0 (by decide) (W := 0) (by decide) (by decide) (by decide) (g := (mkF m 1 #[.val (.ref a), .val (.long x), .second, .unset] [(.ref a)])) rfl (by rw [hml]; rfl) (argsL := []) (rest := []) (own_lenOf own_p0 rfl) rfl rfl (by show 2 * 0 + _ ≤ _; exact Nat.le_of_eq rfl) (hb hby d17_1) ?_
  rintro _ Tt20 Lt20 Xt20 ⟨rfl, rfl, et20⟩
  show Gl p e below _ (Tt20.setTop (mkF m 4 #[.val (.ref a), .val (.long x), .second, .unset] []))
  refine Gl.st (U' := (Tt20.setTop (mkF m 5 #[.val (.ref a), .val (.long x), .second, .unset] [(.long x)]))) (fun _ zz => XT.lloadN Xt20.here hx rfl (hb hby d17_4) rfl zz) ?_
  refine Gl.st (U' := (Tt20.setTop (mkF m 6 #[.val (.ref a), .val (.long x), .second, .unset] [(.long (0 : Int64)), (.long x)]))) (fun _ zz => XT.lconst Xt20.here hx rfl (hb hby d17_5) zz) ?_
  refine Gl.st (U' := (Tt20.setTop (mkF m 7 #[.val (.ref a), .val (.long x), .second, .unset] [(.int (XT.cmpL x (0 : Int64)))]))) (fun _ zz => XT.lcmp Xt20.here hx rfl (hb hby d17_6) rfl zz) ?_
  by_cases qs : (XT.cmpL x (0 : Int64)) < (0 : Int32)
  · refine Gl.st (U' := (Tt20.setTop (mkF m 10 #[.val (.ref a), .val (.long x), .second, .unset] []))) (fun _ zz => XS.ifNo Xt20.here hx rfl (hb hby d17_7) rfl ((if0 _ _).trans (tlt qs).2.1) zz) ?_
    refine Gl.st (U' := (Tt20.setTop (mkF m 11 #[.val (.ref a), .val (.long x), .second, .unset] [(.long x)]))) (fun _ zz => XT.lloadN Xt20.here hx rfl (hb hby d17_10) rfl zz) ?_
    refine Gl.st (U' := (Tt20.setTop (mkF m 12 #[.val (.ref a), .val (.long x), .second, .unset] [(.long (-x))]))) (fun _ zz => XT.lneg Xt20.here hx rfl (hb hby d17_11) rfl zz) ?_
    refine Gl.st (U' := (Tt20.setTop (mkF m 13 #[.val (.ref a), .val (.long (-x)), .second, .unset] []))) (fun _ zz => XT.lstoreN Xt20.here hx rfl (hb hby d17_12) rfl (l' := #[.val (.ref a), .val (.long (-x)), .second, .unset]) rfl zz) ?_
    refine Gl.st (U' := (Tt20.setTop (mkF m 14 #[.val (.ref a), .val (.long (-x)), .second, .unset] [(.ref a)]))) (fun _ zz => XS.aloadN Xt20.here hx rfl (hb hby d17_13) rfl rfl zz) ?_
    refine Gl.st (U' := (Tt20.setTop (mkF m 15 #[.val (.ref a), .val (.long (-x)), .second, .unset] [(.int (-1 : Int32)), (.ref a)]))) (fun _ zz => XS.iconst Xt20.here hx rfl (hb hby d17_14) zz) ?_
    obtain ⟨ot21, Ft21⟩ := fld_laid E0 K0 (hw _ (List.mem_of_getElem? (i := 96) rfl)) (Or.inr (hw _ (List.mem_of_getElem? (i := 109) rfl)))
    obtain ⟨Tt22, ht22, Xt22, et22, Wt22, stt22⟩ := putF Xt20 hx hZ hown (host := "") (Or.inl (hw _ (List.mem_of_getElem? (i := 108) rfl))) Via.refl et20 Ft21 E0 (Or.inr ⟨(hw _ (List.mem_of_getElem? (i := 109) rfl)), rfl, hnm⟩) (hw _ (List.mem_of_getElem? (i := 96) rfl)) (ty := .int) (by decide +kernel) rfl rfl (g := (mkF m 15 #[.val (.ref a), .val (.long (-x)), .second, .unset] [(.int (-1 : Int32)), (.ref a)])) rfl rfl (hb hby d17_15)
    refine Gl.st (U' := (Tt22.setTop (mkF m 18 #[.val (.ref a), .val (.long (-x)), .second, .unset] []))) stt22 ?_
    have Et23 := Exa.wr Wt22 E0
    have Kt24 := own_K_wr Wt22 K0
    have Pt25 := Keep.wr P0 Wt22 (Or.inl (by simp))
    have Ot26 := Old.wr O0 Wt22 ga
    have Nt27 := Fr.snoc Xt22 NF0 ga
    refine Gl.st (U' := (Tt22.setTop (mkF m 26 #[.val (.ref a), .val (.long (-x)), .second, .unset] []))) (fun _ zz => XS.goto Xt22.here hx rfl (pc0 := 18) (pc' := 26) rfl (hb hby d17_18) (by decide) (by decide) zz) ?_
    refine Gl.st (U' := (Tt22.setTop (mkF m 27 #[.val (.ref a), .val (.long (-x)), .second, .unset] [(.long (-x))]))) (fun _ zz => XT.lloadN Xt22.here hx rfl (hb hby d17_26) rfl zz) ?_
    refine Gl.st (U' := (Tt22.setTop (mkF m 29 #[.val (.ref a), .val (.long (-x)), .second, .unset] [(.int (32 : Int32)), (.long (-x))]))) (fun _ zz => XS.bipush Xt22.here hx rfl (hb hby d17_27) zz) ?_
    refine Gl.st (U' := (Tt22.setTop (mkF m 30 #[.val (.ref a), .val (.long (-x)), .second, .unset] [(.long (XT.ushrL (-x) (32 : Int32)))]))) (fun _ zz => XT.lushr Xt22.here hx rfl (hb hby d17_29) rfl zz) ?_
    refine Gl.st (U' := (Tt22.setTop (mkF m 31 #[.val (.ref a), .val (.long (-x)), .second, .unset] [(.int ((XT.ushrL (-x) (32 : Int32)).toInt32))]))) (fun _ zz => XT.l2i Xt22.here hx rfl (hb hby d17_30) rfl zz) ?_
    refine Gl.st (U' := (Tt22.setTop (mkF m 32 #[.val (.ref a), .val (.long (-x)), .second, .val (.int ((XT.ushrL (-x) (32 : Int32)).toInt32))] []))) (fun _ zz => XS.istoreN Xt22.here hx rfl (hb hby d17_31) rfl (l' := #[.val (.ref a), .val (.long (-x)), .second, .val (.int ((XT.ushrL (-x) (32 : Int32)).toInt32))]) rfl zz) ?_
    refine Gl.st (U' := (Tt22.setTop (mkF m 33 #[.val (.ref a), .val (.long (-x)), .second, .val (.int ((XT.ushrL (-x) (32 : Int32)).toInt32))] [(.int ((XT.ushrL (-x) (32 : Int32)).toInt32))]))) (fun _ zz => XS.iloadN Xt22.here hx rfl (hb hby d17_32) rfl zz) ?_
    by_cases qh : ((XT.ushrL (-x) (32 : Int32)).toInt32) = (0 : Int32)
    · refine Gl.st (U' := (Tt22.setTop (mkF m 36 #[.val (.ref a), .val (.long (-x)), .second, .val (.int ((XT.ushrL (-x) (32 : Int32)).toInt32))] []))) (fun _ zz => XS.ifNo Xt22.here hx rfl (hb hby d17_33) rfl ((if0 _ _).trans (teq qh).2) zz) ?_
      refine Gl.st (U' := (Tt22.setTop (mkF m 37 #[.val (.ref a), .val (.long (-x)), .second, .val (.int ((XT.ushrL (-x) (32 : Int32)).toInt32))] [(.ref a)]))) (fun _ zz => XS.aloadN Xt22.here hx rfl (hb hby d17_36) rfl rfl zz) ?_
      refine Gl.st (U' := (Tt22.setTop (mkF m 38 #[.val (.ref a), .val (.long (-x)), .second, .val (.int ((XT.ushrL (-x) (32 : Int32)).toInt32))] [(.int (1 : Int32)), (.ref a)]))) (fun _ zz => XS.iconst Xt22.here hx rfl (hb hby d17_37) zz) ?_
      obtain ⟨Tt28, ht28, kt28, Xt28, et28, Et28, At28, stt28⟩ := newP Xt22 hx hZ (hw _ (List.mem_of_getElem? (i := 110) rfl)) et22 (g := (mkF m 38 #[.val (.ref a), .val (.long (-x)), .second, .val (.int ((XT.ushrL (-x) (32 : Int32)).toInt32))] [(.int (1 : Int32)), (.ref a)])) rfl (hb hby d17_38) rfl (by decide : ¬ ((1 : Int32) < (0 : Int32))) (cap := 1) (by decide) (by decide) (by decide) (by decide)
      obtain ⟨at28, gt28⟩ : ∃ z, z = ht22.size := ⟨_, rfl⟩
      rw [← gt28] at At28 stt28
      refine Gl.st (U' := (Tt28.setTop (mkF m 40 #[.val (.ref a), .val (.long (-x)), .second, .val (.int ((XT.ushrL (-x) (32 : Int32)).toInt32))] [(.ref at28), (.ref a)]))) stt28 ?_
      have net29 := (show a ≠ at28 by rw [gt28]; exact Nat.ne_of_lt (Exa.lt Et23))
      have gat30 := (show n0 ≤ at28 by rw [gt28]; exact Nat.le_trans (Nat.le_of_eq Ot26.1.symm) Ot26.2.1)
      have kgt31 := (show h0.size ≤ at28 by rw [gt28]; exact Pt25.1)
      have Et32 := Exa.ext Et28 Et23
      have Kt33 := own_K_ext Et28 Kt24
      have Pt34 := Keep.ext Pt25 Et28
      have Ot35 := Old.ext Ot26 Et28
      have Vt36 := (Arv.new At28 (by decide) : Arv Z ht28 at28 kt28 .int (1 : Int32) [] (.int (0 : Int32)))
      have Vt37 := (Arv.pad Vt36 (pad_rep [] (.int (0 : Int32)) 1) : Arv Z ht28 at28 kt28 .int (1 : Int32) [(.int (0 : Int32))] (.int (0 : Int32)))
      obtain ⟨ot38, Ft38⟩ := fld_laid Et32 Kt33 (hw _ (List.mem_of_getElem? (i := 96) rfl)) (Or.inr (hw _ (List.mem_of_getElem? (i := 112) rfl)))
      obtain ⟨Tt39, ht39, Xt39, et39, Wt39, stt39⟩ := putF Xt28 hx hZ hown (host := "") (Or.inl (hw _ (List.mem_of_getElem? (i := 111) rfl))) Via.refl et28 Ft38 Et32 (Or.inr ⟨(hw _ (List.mem_of_getElem? (i := 112) rfl)), rfl, hnm⟩) (hw _ (List.mem_of_getElem? (i := 96) rfl)) (ty := (.array .int)) (by decide +kernel) rfl rfl (g := (mkF m 40 #[.val (.ref a), .val (.long (-x)), .second, .val (.int ((XT.ushrL (-x) (32 : Int32)).toInt32))] [(.ref at28), (.ref a)])) rfl rfl (hb hby d17_40)
      refine Gl.st (U' := (Tt39.setTop (mkF m 43 #[.val (.ref a), .val (.long (-x)), .second, .val (.int ((XT.ushrL (-x) (32 : Int32)).toInt32))] []))) stt39 ?_
      have Et40 := Exa.wr Wt39 Et32
      have Kt41 := own_K_wr Wt39 Kt33
      have Ft42 := Fld.same Wt39 Ft38
      have Vt43 := Arv.other Vt37 Wt39 net29.symm
      have Pt44 := Keep.wr Pt34 Wt39 (Or.inl (by simp))
      have Ot45 := Old.wr Ot35 Wt39 ga
      have Nt46 := Fr.snoc Xt39 Nt27 ga
      refine Gl.st (U' := (Tt39.setTop (mkF m 44 #[.val (.ref a), .val (.long (-x)), .second, .val (.int ((XT.ushrL (-x) (32 : Int32)).toInt32))] [(.ref a)]))) (fun _ zz => XS.aloadN Xt39.here hx rfl (hb hby d17_43) rfl rfl zz) ?_
      obtain ⟨Tt47, Xt47, et47, stt47⟩ := getF Xt39 hx hZ hown (host := "") (Or.inl (hw _ (List.mem_of_getElem? (i := 111) rfl))) Via.refl et39 Ft42 (g := (mkF m 44 #[.val (.ref a), .val (.long (-x)), .second, .val (.int ((XT.ushrL (-x) (32 : Int32)).toInt32))] [(.ref a)])) rfl rfl (hb hby d17_44)
      refine Gl.st (U' := (Tt47.setTop (mkF m 47 #[.val (.ref a), .val (.long (-x)), .second, .val (.int ((XT.ushrL (-x) (32 : Int32)).toInt32))] [(.ref at28)]))) stt47 ?_
      refine Gl.st (U' := (Tt47.setTop (mkF m 48 #[.val (.ref a), .val (.long (-x)), .second, .val (.int ((XT.ushrL (-x) (32 : Int32)).toInt32))] [(.int (0 : Int32)), (.ref at28)]))) (fun _ zz => XS.iconst Xt47.here hx rfl (hb hby d17_47) zz) ?_
      refine Gl.st (U' := (Tt47.setTop (mkF m 49 #[.val (.ref a), .val (.long (-x)), .second, .val (.int ((XT.ushrL (-x) (32 : Int32)).toInt32))] [(.long (-x)), (.int (0 : Int32)), (.ref at28)]))) (fun _ zz => XT.lloadN Xt47.here hx rfl (hb hby d17_48) rfl zz) ?_
      refine Gl.st (U' := (Tt47.setTop (mkF m 50 #[.val (.ref a), .val (.long (-x)), .second, .val (.int ((XT.ushrL (-x) (32 : Int32)).toInt32))] [(.int ((-x).toInt32)), (.int (0 : Int32)), (.ref at28)]))) (fun _ zz => XT.l2i Xt47.here hx rfl (hb hby d17_49) rfl zz) ?_
      obtain ⟨ct48, At48, qt48, St48, Mt48, Ht48, Ut48⟩ := id Vt43
      obtain ⟨Tt48, ht48, Xt48, et48, Wt48, stt48⟩ := stI Xt47 hx hZ et47 At48 (j := (0 : Int32)) (inb_of St48 ⟨by decide, by decide⟩) (g := (mkF m 50 #[.val (.ref a), .val (.long (-x)), .second, .val (.int ((XT.ushrL (-x) (32 : Int32)).toInt32))] [(.int ((-x).toInt32)), (.int (0 : Int32)), (.ref at28)])) rfl rfl (hb hby d17_50)
      refine Gl.st (U' := (Tt48.setTop (mkF m 51 #[.val (.ref a), .val (.long (-x)), .second, .val (.int ((XT.ushrL (-x) (32 : Int32)).toInt32))] []))) stt48 ?_
      have Nt49 := Fr.snoc Xt48 Nt46 gat30
      have Vt50 := (Arv.set At48 qt48 St48 Mt48 Ht48 Ut48 rfl Wt48 0 rfl (Nat.le_of_ble_eq_true rfl) : Arv Z ht48 at28 kt28 .int (1 : Int32) [(.int ((-x).toInt32))] (.int (0 : Int32)))
      have Et51 := Exa.wr Wt48 Et40
      have Kt52 := own_K_wr Wt48 Kt41
      have Ft53 := Fld.other Wt48 Ft42 (Or.inl net29)
      have Pt54 := Keep.wr Pt44 Wt48 (Or.inr kgt31)
      have Ot55 := Old.wr Ot45 Wt48 gat30
      refine Gl.st (U' := (Tt48.setTop (mkF m 76 #[.val (.ref a), .val (.long (-x)), .second, .val (.int ((XT.ushrL (-x) (32 : Int32)).toInt32))] []))) (fun _ zz => XS.goto Xt48.here hx rfl (pc0 := 51) (pc' := 76) rfl (hb hby d17_51) (by decide) (by decide) zz) ?_
      exact Gl.retV Xt48 hx hret hlk (hb hby d17_76) (by rw [et48]; exact ⟨rfl, by simpa using Nt49, Pt54⟩) (by decide) (by decide)
    · refine Gl.st (U' := (Tt22.setTop (mkF m 54 #[.val (.ref a), .val (.long (-x)), .second, .val (.int ((XT.ushrL (-x) (32 : Int32)).toInt32))] []))) (fun _ zz => XS.ifYes Xt22.here hx rfl (pc0 := 33) (pc' := 54) rfl (hb hby d17_33) rfl ((if0 _ _).trans (feq qh).2) (by decide) (by decide) zz) ?_
      refine Gl.st (U' := (Tt22.setTop (mkF m 55 #[.val (.ref a), .val (.long (-x)), .second, .val (.int ((XT.ushrL (-x) (32 : Int32)).toInt32))] [(.ref a)]))) (fun _ zz => XS.aloadN Xt22.here hx rfl (hb hby d17_54) rfl rfl zz) ?_
      refine Gl.st (U' := (Tt22.setTop (mkF m 56 #[.val (.ref a), .val (.long (-x)), .second, .val (.int ((XT.ushrL (-x) (32 : Int32)).toInt32))] [(.int (2 : Int32)), (.ref a)]))) (fun _ zz => XS.iconst Xt22.here hx rfl (hb hby d17_55) zz) ?_
      obtain ⟨Tt56, ht56, kt56, Xt56, et56, Et56, At56, stt56⟩ := newP Xt22 hx hZ (hw _ (List.mem_of_getElem? (i := 110) rfl)) et22 (g := (mkF m 56 #[.val (.ref a), .val (.long (-x)), .second, .val (.int ((XT.ushrL (-x) (32 : Int32)).toInt32))] [(.int (2 : Int32)), (.ref a)])) rfl (hb hby d17_56) rfl (by decide : ¬ ((2 : Int32) < (0 : Int32))) (cap := 2) (by decide) (by decide) (by decide) (by decide)
      obtain ⟨at56, gt56⟩ : ∃ z, z = ht22.size := ⟨_, rfl⟩
      rw [← gt56] at At56 stt56
      refine Gl.st (U' := (Tt56.setTop (mkF m 58 #[.val (.ref a), .val (.long (-x)), .second, .val (.int ((XT.ushrL (-x) (32 : Int32)).toInt32))] [(.ref at56), (.ref a)]))) stt56 ?_
      have net57 := (show a ≠ at56 by rw [gt56]; exact Nat.ne_of_lt (Exa.lt Et23))
      have gat58 := (show n0 ≤ at56 by rw [gt56]; exact Nat.le_trans (Nat.le_of_eq Ot26.1.symm) Ot26.2.1)
      have kgt59 := (show h0.size ≤ at56 by rw [gt56]; exact Pt25.1)
      have Et60 := Exa.ext Et56 Et23
      have Kt61 := own_K_ext Et56 Kt24
      have Pt62 := Keep.ext Pt25 Et56
      have Ot63 := Old.ext Ot26 Et56
      have Vt64 := (Arv.new At56 (by decide) : Arv Z ht56 at56 kt56 .int (2 : Int32) [] (.int (0 : Int32)))
      have Vt65 := (Arv.pad Vt64 (pad_rep [] (.int (0 : Int32)) 2) : Arv Z ht56 at56 kt56 .int (2 : Int32) [(.int (0 : Int32)), (.int (0 : Int32))] (.int (0 : Int32)))
      obtain ⟨ot66, Ft66⟩ := fld_laid Et60 Kt61 (hw _ (List.mem_of_getElem? (i := 96) rfl)) (Or.inr (hw _ (List.mem_of_getElem? (i := 112) rfl)))
      obtain ⟨Tt67, ht67, Xt67, et67, Wt67, stt67⟩ := putF Xt56 hx hZ hown (host := "") (Or.inl (hw _ (List.mem_of_getElem? (i := 111) rfl))) Via.refl et56 Ft66 Et60 (Or.inr ⟨(hw _ (List.mem_of_getElem? (i := 112) rfl)), rfl, hnm⟩) (hw _ (List.mem_of_getElem? (i := 96) rfl)) (ty := (.array .int)) (by decide +kernel) rfl rfl (g := (mkF m 58 #[.val (.ref a), .val (.long (-x)), .second, .val (.int ((XT.ushrL (-x) (32 : Int32)).toInt32))] [(.ref at56), (.ref a)])) rfl rfl (hb hby d17_58)
      refine Gl.st (U' := (Tt67.setTop (mkF m 61 #[.val (.ref a), .val (.long (-x)), .second, .val (.int ((XT.ushrL (-x) (32 : Int32)).toInt32))] []))) stt67 ?_
      have Et68 := Exa.wr Wt67 Et60
      have Kt69 := own_K_wr Wt67 Kt61
      have Ft70 := Fld.same Wt67 Ft66
      have Vt71 := Arv.other Vt65 Wt67 net57.symm
      have Pt72 := Keep.wr Pt62 Wt67 (Or.inl (by simp))
      have Ot73 := Old.wr Ot63 Wt67 ga
      have Nt74 := Fr.snoc Xt67 Nt27 ga
      refine Gl.st (U' := (Tt67.setTop (mkF m 62 #[.val (.ref a), .val (.long (-x)), .second, .val (.int ((XT.ushrL (-x) (32 : Int32)).toInt32))] [(.ref a)]))) (fun _ zz => XS.aloadN Xt67.here hx rfl (hb hby d17_61) rfl rfl zz) ?_
      obtain ⟨Tt75, Xt75, et75, stt75⟩ := getF Xt67 hx hZ hown (host := "") (Or.inl (hw _ (List.mem_of_getElem? (i := 111) rfl))) Via.refl et67 Ft70 (g := (mkF m 62 #[.val (.ref a), .val (.long (-x)), .second, .val (.int ((XT.ushrL (-x) (32 : Int32)).toInt32))] [(.ref a)])) rfl rfl (hb hby d17_62)
      refine Gl.st (U' := (Tt75.setTop (mkF m 65 #[.val (.ref a), .val (.long (-x)), .second, .val (.int ((XT.ushrL (-x) (32 : Int32)).toInt32))] [(.ref at56)]))) stt75 ?_
      refine Gl.st (U' := (Tt75.setTop (mkF m 66 #[.val (.ref a), .val (.long (-x)), .second, .val (.int ((XT.ushrL (-x) (32 : Int32)).toInt32))] [(.int (0 : Int32)), (.ref at56)]))) (fun _ zz => XS.iconst Xt75.here hx rfl (hb hby d17_65) zz) ?_
      refine Gl.st (U' := (Tt75.setTop (mkF m 67 #[.val (.ref a), .val (.long (-x)), .second, .val (.int ((XT.ushrL (-x) (32 : Int32)).toInt32))] [(.int ((XT.ushrL (-x) (32 : Int32)).toInt32)), (.int (0 : Int32)), (.ref at56)]))) (fun _ zz => XS.iloadN Xt75.here hx rfl (hb hby d17_66) rfl zz) ?_
      obtain ⟨ct76, At76, qt76, St76, Mt76, Ht76, Ut76⟩ := id Vt71
      obtain ⟨Tt76, ht76, Xt76, et76, Wt76, stt76⟩ := stI Xt75 hx hZ et75 At76 (j := (0 : Int32)) (inb_of St76 ⟨by decide, by decide⟩) (g := (mkF m 67 #[.val (.ref a), .val (.long (-x)), .second, .val (.int ((XT.ushrL (-x) (32 : Int32)).toInt32))] [(.int ((XT.ushrL (-x) (32 : Int32)).toInt32)), (.int (0 : Int32)), (.ref at56)])) rfl rfl (hb hby d17_67)
      refine Gl.st (U' := (Tt76.setTop (mkF m 68 #[.val (.ref a), .val (.long (-x)), .second, .val (.int ((XT.ushrL (-x) (32 : Int32)).toInt32))] []))) stt76 ?_
      have Nt77 := Fr.snoc Xt76 Nt74 gat58
      have Vt78 := (Arv.set At76 qt76 St76 Mt76 Ht76 Ut76 rfl Wt76 0 rfl (Nat.le_of_ble_eq_true rfl) : Arv Z ht76 at56 kt56 .int (2 : Int32) [(.int ((XT.ushrL (-x) (32 : Int32)).toInt32)), (.int (0 : Int32))] (.int (0 : Int32)))
      have Et79 := Exa.wr Wt76 Et68
      have Kt80 := own_K_wr Wt76 Kt69
      have Ft81 := Fld.other Wt76 Ft70 (Or.inl net57)
      have Pt82 := Keep.wr Pt72 Wt76 (Or.inr kgt59)
      have Ot83 := Old.wr Ot73 Wt76 gat58
      refine Gl.st (U' := (Tt76.setTop (mkF m 69 #[.val (.ref a), .val (.long (-x)), .second, .val (.int ((XT.ushrL (-x) (32 : Int32)).toInt32))] [(.ref a)]))) (fun _ zz => XS.aloadN Xt76.here hx rfl (hb hby d17_68) rfl rfl zz) ?_
      obtain ⟨Tt84, Xt84, et84, stt84⟩ := getF Xt76 hx hZ hown (host := "") (Or.inl (hw _ (List.mem_of_getElem? (i := 111) rfl))) Via.refl et76 Ft81 (g := (mkF m 69 #[.val (.ref a), .val (.long (-x)), .second, .val (.int ((XT.ushrL (-x) (32 : Int32)).toInt32))] [(.ref a)])) rfl rfl (hb hby d17_69)
      refine Gl.st (U' := (Tt84.setTop (mkF m 72 #[.val (.ref a), .val (.long (-x)), .second, .val (.int ((XT.ushrL (-x) (32 : Int32)).toInt32))] [(.ref at56)]))) stt84 ?_
      refine Gl.st (U' := (Tt84.setTop (mkF m 73 #[.val (.ref a), .val (.long (-x)), .second, .val (.int ((XT.ushrL (-x) (32 : Int32)).toInt32))] [(.int (1 : Int32)), (.ref at56)]))) (fun _ zz => XS.iconst Xt84.here hx rfl (hb hby d17_72) zz) ?_
      refine Gl.st (U' := (Tt84.setTop (mkF m 74 #[.val (.ref a), .val (.long (-x)), .second, .val (.int ((XT.ushrL (-x) (32 : Int32)).toInt32))] [(.long (-x)), (.int (1 : Int32)), (.ref at56)]))) (fun _ zz => XT.lloadN Xt84.here hx rfl (hb hby d17_73) rfl zz) ?_
      refine Gl.st (U' := (Tt84.setTop (mkF m 75 #[.val (.ref a), .val (.long (-x)), .second, .val (.int ((XT.ushrL (-x) (32 : Int32)).toInt32))] [(.int ((-x).toInt32)), (.int (1 : Int32)), (.ref at56)]))) (fun _ zz => XT.l2i Xt84.here hx rfl (hb hby d17_74) rfl zz) ?_
      obtain ⟨ct85, At85, qt85, St85, Mt85, Ht85, Ut85⟩ := id Vt78
      obtain ⟨Tt85, ht85, Xt85, et85, Wt85, stt85⟩ := stI Xt84 hx hZ et84 At85 (j := (1 : Int32)) (inb_of St85 ⟨by decide, by decide⟩) (g := (mkF m 75 #[.val (.ref a), .val (.long (-x)), .second, .val (.int ((XT.ushrL (-x) (32 : Int32)).toInt32))] [(.int ((-x).toInt32)), (.int (1 : Int32)), (.ref at56)])) rfl rfl (hb hby d17_75)
      refine Gl.st (U' := (Tt85.setTop (mkF m 76 #[.val (.ref a), .val (.long (-x)), .second, .val (.int ((XT.ushrL (-x) (32 : Int32)).toInt32))] []))) stt85 ?_
      have Nt86 := Fr.snoc Xt85 Nt77 gat58
      have Vt87 := (Arv.set At85 qt85 St85 Mt85 Ht85 Ut85 rfl Wt85 1 rfl (Nat.le_of_ble_eq_true rfl) : Arv Z ht85 at56 kt56 .int (2 : Int32) [(.int ((XT.ushrL (-x) (32 : Int32)).toInt32)), (.int ((-x).toInt32))] (.int (0 : Int32)))
      have Et88 := Exa.wr Wt85 Et79
      have Kt89 := own_K_wr Wt85 Kt80
      have Ft90 := Fld.other Wt85 Ft81 (Or.inl net57)
      have Pt91 := Keep.wr Pt82 Wt85 (Or.inr kgt59)
      have Ot92 := Old.wr Ot83 Wt85 gat58
      exact Gl.retV Xt85 hx hret hlk (hb hby d17_76) (by rw [et85]; exact ⟨rfl, by simpa using Nt86, Pt91⟩) (by decide) (by decide)
  · refine Gl.st (U' := (Tt20.setTop (mkF m 21 #[.val (.ref a), .val (.long x), .second, .unset] []))) (fun _ zz => XS.ifYes Xt20.here hx rfl (pc0 := 7) (pc' := 21) rfl (hb hby d17_7) rfl ((if0 _ _).trans (flt qs).2.1) (by decide) (by decide) zz) ?_
    refine Gl.st (U' := (Tt20.setTop (mkF m 22 #[.val (.ref a), .val (.long x), .second, .unset] [(.ref a)]))) (fun _ zz => XS.aloadN Xt20.here hx rfl (hb hby d17_21) rfl rfl zz) ?_
    refine Gl.st (U' := (Tt20.setTop (mkF m 23 #[.val (.ref a), .val (.long x), .second, .unset] [(.int (1 : Int32)), (.ref a)]))) (fun _ zz => XS.iconst Xt20.here hx rfl (hb hby d17_22) zz) ?_
    obtain ⟨ot93, Ft93⟩ := fld_laid E0 K0 (hw _ (List.mem_of_getElem? (i := 96) rfl)) (Or.inr (hw _ (List.mem_of_getElem? (i := 109) rfl)))
    obtain ⟨Tt94, ht94, Xt94, et94, Wt94, stt94⟩ := putF Xt20 hx hZ hown (host := "") (Or.inl (hw _ (List.mem_of_getElem? (i := 108) rfl))) Via.refl et20 Ft93 E0 (Or.inr ⟨(hw _ (List.mem_of_getElem? (i := 109) rfl)), rfl, hnm⟩) (hw _ (List.mem_of_getElem? (i := 96) rfl)) (ty := .int) (by decide +kernel) rfl rfl (g := (mkF m 23 #[.val (.ref a), .val (.long x), .second, .unset] [(.int (1 : Int32)), (.ref a)])) rfl rfl (hb hby d17_23)
    refine Gl.st (U' := (Tt94.setTop (mkF m 26 #[.val (.ref a), .val (.long x), .second, .unset] []))) stt94 ?_
    have Et95 := Exa.wr Wt94 E0
    have Kt96 := own_K_wr Wt94 K0
    have Pt97 := Keep.wr P0 Wt94 (Or.inl (by simp))
    have Ot98 := Old.wr O0 Wt94 ga
    have Nt99 := Fr.snoc Xt94 NF0 ga
    refine Gl.st (U' := (Tt94.setTop (mkF m 27 #[.val (.ref a), .val (.long x), .second, .unset] [(.long x)]))) (fun _ zz => XT.lloadN Xt94.here hx rfl (hb hby d17_26) rfl zz) ?_
    refine Gl.st (U' := (Tt94.setTop (mkF m 29 #[.val (.ref a), .val (.long x), .second, .unset] [(.int (32 : Int32)), (.long x)]))) (fun _ zz => XS.bipush Xt94.here hx rfl (hb hby d17_27) zz) ?_
    refine Gl.st (U' := (Tt94.setTop (mkF m 30 #[.val (.ref a), .val (.long x), .second, .unset] [(.long (XT.ushrL x (32 : Int32)))]))) (fun _ zz => XT.lushr Xt94.here hx rfl (hb hby d17_29) rfl zz) ?_
    refine Gl.st (U' := (Tt94.setTop (mkF m 31 #[.val (.ref a), .val (.long x), .second, .unset] [(.int ((XT.ushrL x (32 : Int32)).toInt32))]))) (fun _ zz => XT.l2i Xt94.here hx rfl (hb hby d17_30) rfl zz) ?_
    refine Gl.st (U' := (Tt94.setTop (mkF m 32 #[.val (.ref a), .val (.long x), .second, .val (.int ((XT.ushrL x (32 : Int32)).toInt32))] []))) (fun _ zz => XS.istoreN Xt94.here hx rfl (hb hby d17_31) rfl (l' := #[.val (.ref a), .val (.long x), .second, .val (.int ((XT.ushrL x (32 : Int32)).toInt32))]) rfl zz) ?_
    refine Gl.st (U' := (Tt94.setTop (mkF m 33 #[.val (.ref a), .val (.long x), .second, .val (.int ((XT.ushrL x (32 : Int32)).toInt32))] [(.int ((XT.ushrL x (32 : Int32)).toInt32))]))) (fun _ zz => XS.iloadN Xt94.here hx rfl (hb hby d17_32) rfl zz) ?_
    by_cases qh : ((XT.ushrL x (32 : Int32)).toInt32) = (0 : Int32)
    · refine Gl.st (U' := (Tt94.setTop (mkF m 36 #[.val (.ref a), .val (.long x), .second, .val (.int ((XT.ushrL x (32 : Int32)).toInt32))] []))) (fun _ zz => XS.ifNo Xt94.here hx rfl (hb hby d17_33) rfl ((if0 _ _).trans (teq qh).2) zz) ?_
      refine Gl.st (U' := (Tt94.setTop (mkF m 37 #[.val (.ref a), .val (.long x), .second, .val (.int ((XT.ushrL x (32 : Int32)).toInt32))] [(.ref a)]))) (fun _ zz => XS.aloadN Xt94.here hx rfl (hb hby d17_36) rfl rfl zz) ?_
      refine Gl.st (U' := (Tt94.setTop (mkF m 38 #[.val (.ref a), .val (.long x), .second, .val (.int ((XT.ushrL x (32 : Int32)).toInt32))] [(.int (1 : Int32)), (.ref a)]))) (fun _ zz => XS.iconst Xt94.here hx rfl (hb hby d17_37) zz) ?_
      obtain ⟨Tt100, ht100, kt100, Xt100, et100, Et100, At100, stt100⟩ := newP Xt94 hx hZ (hw _ (List.mem_of_getElem? (i := 110) rfl)) et94 (g := (mkF m 38 #[.val (.ref a), .val (.long x), .second, .val (.int ((XT.ushrL x (32 : Int32)).toInt32))] [(.int (1 : Int32)), (.ref a)])) rfl (hb hby d17_38) rfl (by decide : ¬ ((1 : Int32) < (0 : Int32))) (cap := 1) (by decide) (by decide) (by decide) (by decide)
      obtain ⟨at100, gt100⟩ : ∃ z, z = ht94.size := ⟨_, rfl⟩
      rw [← gt100] at At100 stt100
      refine Gl.st (U' := (Tt100.setTop (mkF m 40 #[.val (.ref a), .val (.long x), .second, .val (.int ((XT.ushrL x (32 : Int32)).toInt32))] [(.ref at100), (.ref a)]))) stt100 ?_
      have net101 := (show a ≠ at100 by rw [gt100]; exact Nat.ne_of_lt (Exa.lt Et95))
      have gat102 := (show n0 ≤ at100 by rw [gt100]; exact Nat.le_trans (Nat.le_of_eq Ot98.1.symm) Ot98.2.1)
      have kgt103 := (show h0.size ≤ at100 by rw [gt100]; exact Pt97.1)
      have Et104 := Exa.ext Et100 Et95
      have Kt105 := own_K_ext Et100 Kt96
      have Pt106 := Keep.ext Pt97 Et100
      have Ot107 := Old.ext Ot98 Et100
      have Vt108 := (Arv.new At100 (by decide) : Arv Z ht100 at100 kt100 .int (1 : Int32) [] (.int (0 : Int32)))
      have Vt109 := (Arv.pad Vt108 (pad_rep [] (.int (0 : Int32)) 1) : Arv Z ht100 at100 kt100 .int (1 : Int32) [(.int (0 : Int32))] (.int (0 : Int32)))
      obtain ⟨ot110, Ft110⟩ := fld_laid Et104 Kt105 (hw _ (List.mem_of_getElem? (i := 96) rfl)) (Or.inr (hw _ (List.mem_of_getElem? (i := 112) rfl)))
      obtain ⟨Tt111, ht111, Xt111, et111, Wt111, stt111⟩ := putF Xt100 hx hZ hown (host := "") (Or.inl (hw _ (List.mem_of_getElem? (i := 111) rfl))) Via.refl et100 Ft110 Et104 (Or.inr ⟨(hw _ (List.mem_of_getElem? (i := 112) rfl)), rfl, hnm⟩) (hw _ (List.mem_of_getElem? (i := 96) rfl)) (ty := (.array .int)) (by decide +kernel) rfl rfl (g := (mkF m 40 #[.val (.ref a), .val (.long x), .second, .val (.int ((XT.ushrL x (32 : Int32)).toInt32))] [(.ref at100), (.ref a)])) rfl rfl (hb hby d17_40)
      refine Gl.st (U' := (Tt111.setTop (mkF m 43 #[.val (.ref a), .val (.long x), .second, .val (.int ((XT.ushrL x (32 : Int32)).toInt32))] []))) stt111 ?_
      have Et112 := Exa.wr Wt111 Et104
      have Kt113 := own_K_wr Wt111 Kt105
      have Ft114 := Fld.same Wt111 Ft110
      have Vt115 := Arv.other Vt109 Wt111 net101.symm
      have Pt116 := Keep.wr Pt106 Wt111 (Or.inl (by simp))
      have Ot117 := Old.wr Ot107 Wt111 ga
      have Nt118 := Fr.snoc Xt111 Nt99 ga
      refine Gl.st (U' := (Tt111.setTop (mkF m 44 #[.val (.ref a), .val (.long x), .second, .val (.int ((XT.ushrL x (32 : Int32)).toInt32))] [(.ref a)]))) (fun _ zz => XS.aloadN Xt111.here hx rfl (hb hby d17_43) rfl rfl zz) ?_
      obtain ⟨Tt119, Xt119, et119, stt119⟩ := getF Xt111 hx hZ hown (host := "") (Or.inl (hw _ (List.mem_of_getElem? (i := 111) rfl))) Via.refl et111 Ft114 (g := (mkF m 44 #[.val (.ref a), .val (.long x), .second, .val (.int ((XT.ushrL x (32 : Int32)).toInt32))] [(.ref a)])) rfl rfl (hb hby d17_44)
      refine Gl.st (U' := (Tt119.setTop (mkF m 47 #[.val (.ref a), .val (.long x), .second, .val (.int ((XT.ushrL x (32 : Int32)).toInt32))] [(.ref at100)]))) stt119 ?_
      refine Gl.st (U' := (Tt119.setTop (mkF m 48 #[.val (.ref a), .val (.long x), .second, .val (.int ((XT.ushrL x (32 : Int32)).toInt32))] [(.int (0 : Int32)), (.ref at100)]))) (fun _ zz => XS.iconst Xt119.here hx rfl (hb hby d17_47) zz) ?_
      refine Gl.st (U' := (Tt119.setTop (mkF m 49 #[.val (.ref a), .val (.long x), .second, .val (.int ((XT.ushrL x (32 : Int32)).toInt32))] [(.long x), (.int (0 : Int32)), (.ref at100)]))) (fun _ zz => XT.lloadN Xt119.here hx rfl (hb hby d17_48) rfl zz) ?_
      refine Gl.st (U' := (Tt119.setTop (mkF m 50 #[.val (.ref a), .val (.long x), .second, .val (.int ((XT.ushrL x (32 : Int32)).toInt32))] [(.int (x.toInt32)), (.int (0 : Int32)), (.ref at100)]))) (fun _ zz => XT.l2i Xt119.here hx rfl (hb hby d17_49) rfl zz) ?_
      obtain ⟨ct120, At120, qt120, St120, Mt120, Ht120, Ut120⟩ := id Vt115
      obtain ⟨Tt120, ht120, Xt120, et120, Wt120, stt120⟩ := stI Xt119 hx hZ et119 At120 (j := (0 : Int32)) (inb_of St120 ⟨by decide, by decide⟩) (g := (mkF m 50 #[.val (.ref a), .val (.long x), .second, .val (.int ((XT.ushrL x (32 : Int32)).toInt32))] [(.int (x.toInt32)), (.int (0 : Int32)), (.ref at100)])) rfl rfl (hb hby d17_50)
      refine Gl.st (U' := (Tt120.setTop (mkF m 51 #[.val (.ref a), .val (.long x), .second, .val (.int ((XT.ushrL x (32 : Int32)).toInt32))] []))) stt120 ?_
      have Nt121 := Fr.snoc Xt120 Nt118 gat102
      have Vt122 := (Arv.set At120 qt120 St120 Mt120 Ht120 Ut120 rfl Wt120 0 rfl (Nat.le_of_ble_eq_true rfl) : Arv Z ht120 at100 kt100 .int (1 : Int32) [(.int (x.toInt32))] (.int (0 : Int32)))
      have Et123 := Exa.wr Wt120 Et112
      have Kt124 := own_K_wr Wt120 Kt113
      have Ft125 := Fld.other Wt120 Ft114 (Or.inl net101)
      have Pt126 := Keep.wr Pt116 Wt120 (Or.inr kgt103)
      have Ot127 := Old.wr Ot117 Wt120 gat102
      refine Gl.st (U' := (Tt120.setTop (mkF m 76 #[.val (.ref a), .val (.long x), .second, .val (.int ((XT.ushrL x (32 : Int32)).toInt32))] []))) (fun _ zz => XS.goto Xt120.here hx rfl (pc0 := 51) (pc' := 76) rfl (hb hby d17_51) (by decide) (by decide) zz) ?_
      exact Gl.retV Xt120 hx hret hlk (hb hby d17_76) (by rw [et120]; exact ⟨rfl, by simpa using Nt121, Pt126⟩) (by decide) (by decide)
    · refine Gl.st (U' := (Tt94.setTop (mkF m 54 #[.val (.ref a), .val (.long x), .second, .val (.int ((XT.ushrL x (32 : Int32)).toInt32))] []))) (fun _ zz => XS.ifYes Xt94.here hx rfl (pc0 := 33) (pc' := 54) rfl (hb hby d17_33) rfl ((if0 _ _).trans (feq qh).2) (by decide) (by decide) zz) ?_
      refine Gl.st (U' := (Tt94.setTop (mkF m 55 #[.val (.ref a), .val (.long x), .second, .val (.int ((XT.ushrL x (32 : Int32)).toInt32))] [(.ref a)]))) (fun _ zz => XS.aloadN Xt94.here hx rfl (hb hby d17_54) rfl rfl zz) ?_
      refine Gl.st (U' := (Tt94.setTop (mkF m 56 #[.val (.ref a), .val (.long x), .second, .val (.int ((XT.ushrL x (32 : Int32)).toInt32))] [(.int (2 : Int32)), (.ref a)]))) (fun _ zz => XS.iconst Xt94.here hx rfl (hb hby d17_55) zz) ?_
      obtain ⟨Tt128, ht128, kt128, Xt128, et128, Et128, At128, stt128⟩ := newP Xt94 hx hZ (hw _ (List.mem_of_getElem? (i := 110) rfl)) et94 (g := (mkF m 56 #[.val (.ref a), .val (.long x), .second, .val (.int ((XT.ushrL x (32 : Int32)).toInt32))] [(.int (2 : Int32)), (.ref a)])) rfl (hb hby d17_56) rfl (by decide : ¬ ((2 : Int32) < (0 : Int32))) (cap := 2) (by decide) (by decide) (by decide) (by decide)
      obtain ⟨at128, gt128⟩ : ∃ z, z = ht94.size := ⟨_, rfl⟩
      rw [← gt128] at At128 stt128
      refine Gl.st (U' := (Tt128.setTop (mkF m 58 #[.val (.ref a), .val (.long x), .second, .val (.int ((XT.ushrL x (32 : Int32)).toInt32))] [(.ref at128), (.ref a)]))) stt128 ?_
      have net129 := (show a ≠ at128 by rw [gt128]; exact Nat.ne_of_lt (Exa.lt Et95))
      have gat130 := (show n0 ≤ at128 by rw [gt128]; exact Nat.le_trans (Nat.le_of_eq Ot98.1.symm) Ot98.2.1)
      have kgt131 := (show h0.size ≤ at128 by rw [gt128]; exact Pt97.1)
      have Et132 := Exa.ext Et128 Et95
      have Kt133 := own_K_ext Et128 Kt96
      have Pt134 := Keep.ext Pt97 Et128
      have Ot135 := Old.ext Ot98 Et128
      have Vt136 := (Arv.new At128 (by decide) : Arv Z ht128 at128 kt128 .int (2 : Int32) [] (.int (0 : Int32)))
      have Vt137 := (Arv.pad Vt136 (pad_rep [] (.int (0 : Int32)) 2) : Arv Z ht128 at128 kt128 .int (2 : Int32) [(.int (0 : Int32)), (.int (0 : Int32))] (.int (0 : Int32)))
      obtain ⟨ot138, Ft138⟩ := fld_laid Et132 Kt133 (hw _ (List.mem_of_getElem? (i := 96) rfl)) (Or.inr (hw _ (List.mem_of_getElem? (i := 112) rfl)))
      obtain ⟨Tt139, ht139, Xt139, et139, Wt139, stt139⟩ := putF Xt128 hx hZ hown (host := "") (Or.inl (hw _ (List.mem_of_getElem? (i := 111) rfl))) Via.refl et128 Ft138 Et132 (Or.inr ⟨(hw _ (List.mem_of_getElem? (i := 112) rfl)), rfl, hnm⟩) (hw _ (List.mem_of_getElem? (i := 96) rfl)) (ty := (.array .int)) (by decide +kernel) rfl rfl (g := (mkF m 58 #[.val (.ref a), .val (.long x), .second, .val (.int ((XT.ushrL x (32 : Int32)).toInt32))] [(.ref at128), (.ref a)])) rfl rfl (hb hby d17_58)
      refine Gl.st (U' := (Tt139.setTop (mkF m 61 #[.val (.ref a), .val (.long x), .second, .val (.int ((XT.ushrL x (32 : Int32)).toInt32))] []))) stt139 ?_
      have Et140 := Exa.wr Wt139 Et132
      have Kt141 := own_K_wr Wt139 Kt133
      have Ft142 := Fld.same Wt139 Ft138
      have Vt143 := Arv.other Vt137 Wt139 net129.symm
      have Pt144 := Keep.wr Pt134 Wt139 (Or.inl (by simp))
      have Ot145 := Old.wr Ot135 Wt139 ga
      have Nt146 := Fr.snoc Xt139 Nt99 ga
      refine Gl.st (U' := (Tt139.setTop (mkF m 62 #[.val (.ref a), .val (.long x), .second, .val (.int ((XT.ushrL x (32 : Int32)).toInt32))] [(.ref a)]))) (fun _ zz => XS.aloadN Xt139.here hx rfl (hb hby d17_61) rfl rfl zz) ?_
      obtain ⟨Tt147, Xt147, et147, stt147⟩ := getF Xt139 hx hZ hown (host := "") (Or.inl (hw _ (List.mem_of_getElem? (i := 111) rfl))) Via.refl et139 Ft142 (g := (mkF m 62 #[.val (.ref a), .val (.long x), .second, .val (.int ((XT.ushrL x (32 : Int32)).toInt32))] [(.ref a)])) rfl rfl (hb hby d17_62)
      refine Gl.st (U' := (Tt147.setTop (mkF m 65 #[.val (.ref a), .val (.long x), .second, .val (.int ((XT.ushrL x (32 : Int32)).toInt32))] [(.ref at128)]))) stt147 ?_
      refine Gl.st (U' := (Tt147.setTop (mkF m 66 #[.val (.ref a), .val (.long x), .second, .val (.int ((XT.ushrL x (32 : Int32)).toInt32))] [(.int (0 : Int32)), (.ref at128)]))) (fun _ zz => XS.iconst Xt147.here hx rfl (hb hby d17_65) zz) ?_
      refine Gl.st (U' := (Tt147.setTop (mkF m 67 #[.val (.ref a), .val (.long x), .second, .val (.int ((XT.ushrL x (32 : Int32)).toInt32))] [(.int ((XT.ushrL x (32 : Int32)).toInt32)), (.int (0 : Int32)), (.ref at128)]))) (fun _ zz => XS.iloadN Xt147.here hx rfl (hb hby d17_66) rfl zz) ?_
      obtain ⟨ct148, At148, qt148, St148, Mt148, Ht148, Ut148⟩ := id Vt143
      obtain ⟨Tt148, ht148, Xt148, et148, Wt148, stt148⟩ := stI Xt147 hx hZ et147 At148 (j := (0 : Int32)) (inb_of St148 ⟨by decide, by decide⟩) (g := (mkF m 67 #[.val (.ref a), .val (.long x), .second, .val (.int ((XT.ushrL x (32 : Int32)).toInt32))] [(.int ((XT.ushrL x (32 : Int32)).toInt32)), (.int (0 : Int32)), (.ref at128)])) rfl rfl (hb hby d17_67)
      refine Gl.st (U' := (Tt148.setTop (mkF m 68 #[.val (.ref a), .val (.long x), .second, .val (.int ((XT.ushrL x (32 : Int32)).toInt32))] []))) stt148 ?_
      have Nt149 := Fr.snoc Xt148 Nt146 gat130
      have Vt150 := (Arv.set At148 qt148 St148 Mt148 Ht148 Ut148 rfl Wt148 0 rfl (Nat.le_of_ble_eq_true rfl) : Arv Z ht148 at128 kt128 .int (2 : Int32) [(.int ((XT.ushrL x (32 : Int32)).toInt32)), (.int (0 : Int32))] (.int (0 : Int32)))
      have Et151 := Exa.wr Wt148 Et140
      have Kt152 := own_K_wr Wt148 Kt141
      have Ft153 := Fld.other Wt148 Ft142 (Or.inl net129)
      have Pt154 := Keep.wr Pt144 Wt148 (Or.inr kgt131)
      have Ot155 := Old.wr Ot145 Wt148 gat130
      refine Gl.st (U' := (Tt148.setTop (mkF m 69 #[.val (.ref a), .val (.long x), .second, .val (.int ((XT.ushrL x (32 : Int32)).toInt32))] [(.ref a)]))) (fun _ zz => XS.aloadN Xt148.here hx rfl (hb hby d17_68) rfl rfl zz) ?_
      obtain ⟨Tt156, Xt156, et156, stt156⟩ := getF Xt148 hx hZ hown (host := "") (Or.inl (hw _ (List.mem_of_getElem? (i := 111) rfl))) Via.refl et148 Ft153 (g := (mkF m 69 #[.val (.ref a), .val (.long x), .second, .val (.int ((XT.ushrL x (32 : Int32)).toInt32))] [(.ref a)])) rfl rfl (hb hby d17_69)
      refine Gl.st (U' := (Tt156.setTop (mkF m 72 #[.val (.ref a), .val (.long x), .second, .val (.int ((XT.ushrL x (32 : Int32)).toInt32))] [(.ref at128)]))) stt156 ?_
      refine Gl.st (U' := (Tt156.setTop (mkF m 73 #[.val (.ref a), .val (.long x), .second, .val (.int ((XT.ushrL x (32 : Int32)).toInt32))] [(.int (1 : Int32)), (.ref at128)]))) (fun _ zz => XS.iconst Xt156.here hx rfl (hb hby d17_72) zz) ?_
      refine Gl.st (U' := (Tt156.setTop (mkF m 74 #[.val (.ref a), .val (.long x), .second, .val (.int ((XT.ushrL x (32 : Int32)).toInt32))] [(.long x), (.int (1 : Int32)), (.ref at128)]))) (fun _ zz => XT.lloadN Xt156.here hx rfl (hb hby d17_73) rfl zz) ?_
      refine Gl.st (U' := (Tt156.setTop (mkF m 75 #[.val (.ref a), .val (.long x), .second, .val (.int ((XT.ushrL x (32 : Int32)).toInt32))] [(.int (x.toInt32)), (.int (1 : Int32)), (.ref at128)]))) (fun _ zz => XT.l2i Xt156.here hx rfl (hb hby d17_74) rfl zz) ?_
      obtain ⟨ct157, At157, qt157, St157, Mt157, Ht157, Ut157⟩ := id Vt150
      obtain ⟨Tt157, ht157, Xt157, et157, Wt157, stt157⟩ := stI Xt156 hx hZ et156 At157 (j := (1 : Int32)) (inb_of St157 ⟨by decide, by decide⟩) (g := (mkF m 75 #[.val (.ref a), .val (.long x), .second, .val (.int ((XT.ushrL x (32 : Int32)).toInt32))] [(.int (x.toInt32)), (.int (1 : Int32)), (.ref at128)])) rfl rfl (hb hby d17_75)
      refine Gl.st (U' := (Tt157.setTop (mkF m 76 #[.val (.ref a), .val (.long x), .second, .val (.int ((XT.ushrL x (32 : Int32)).toInt32))] []))) stt157 ?_
      have Nt158 := Fr.snoc Xt157 Nt149 gat130
      have Vt159 := (Arv.set At157 qt157 St157 Mt157 Ht157 Ut157 rfl Wt157 1 rfl (Nat.le_of_ble_eq_true rfl) : Arv Z ht157 at128 kt128 .int (2 : Int32) [(.int ((XT.ushrL x (32 : Int32)).toInt32)), (.int (x.toInt32))] (.int (0 : Int32)))
      have Et160 := Exa.wr Wt157 Et151
      have Kt161 := own_K_wr Wt157 Kt152
      have Ft162 := Fld.other Wt157 Ft153 (Or.inl net129)
      have Pt163 := Keep.wr Pt154 Wt157 (Or.inr kgt131)
      have Ot164 := Old.wr Ot155 Wt157 gat130
      exact Gl.retV Xt157 hx hret hlk (hb hby d17_76) (by rw [et157]; exact ⟨rfl, by simpa using Nt158, Pt163⟩) (by decide) (by decide)
theorem own_cgt (x y : Int64) : 0 < XT.cmpL x y ↔ y < x := by
  unfold XT.cmpL
  by_cases h : y < x
  · rw [if_pos h]; exact ⟨fun _ => h, fun _ => by decide⟩
  · rw [if_neg h]
    by_cases q : x = y
    · rw [if_pos q]; exact ⟨fun z => absurd z (by decide), fun z => absurd z h⟩
    · rw [if_neg q]; exact ⟨fun z => absurd z (by decide), fun z => absurd z h⟩
theorem own_clt (x y : Int64) : XT.cmpL x y < 0 ↔ x < y := by
  unfold XT.cmpL
  by_cases h : y < x
  · rw [if_pos h]; exact ⟨fun z => absurd z (by decide), fun z => by rw [Int64.lt_iff_toInt_lt] at h z; omega⟩
  · rw [if_neg h]
    by_cases q : x = y
    · rw [if_pos q]; exact ⟨fun z => absurd z (by decide), fun z => by rw [q, Int64.lt_iff_toInt_lt] at z; omega⟩
    · rw [if_neg q]
      refine ⟨fun _ => ?_, fun _ => by decide⟩
      rw [Int64.lt_iff_toInt_lt] at h ⊢
      have : x.toInt ≠ y.toInt := fun z => q (Int64.toInt_inj.mp z)
      omega
theorem own_ix (x : Int64) (h1 : 0 < x.toInt) (h2 : x.toInt ≤ 16) : ¬ (x.toInt32 < 0 ∨ (17 : Int32).toNatClampNeg ≤ x.toInt32.toNatClampNeg) := by
  have h0 := c_l2i x
  have h3 := rng32 x.toInt32
  have e4 : (0 : Int32).toInt = 0 := rfl
  have e5 : (17 : Int32).toInt = 17 := rfl
  simp only [Int32.lt_iff_toInt_lt, Int32.toNatClampNeg, e4, e5]
  omega
theorem d15_0 : decode jdk_2097_method_29_code 0 = .ok (.lload_n 0, 1) := by decide +kernel
theorem d15_1 : decode jdk_2097_method_29_code 1 = .ok (.lconst 0, 1) := by decide +kernel
theorem d15_2 : decode jdk_2097_method_29_code 2 = .ok (.lcmp, 1) := by decide +kernel
theorem d15_3 : decode jdk_2097_method_29_code 3 = .ok (.ifCond .ne 7, 3) := by decide +kernel
theorem d15_6 : decode jdk_2097_method_29_code 6 = .ok (.getstatic 22, 3) := by decide +kernel
theorem d15_9 : decode jdk_2097_method_29_code 9 = .ok (.areturn, 1) := by decide +kernel
theorem d15_10 : decode jdk_2097_method_29_code 10 = .ok (.lload_n 0, 1) := by decide +kernel
theorem d15_11 : decode jdk_2097_method_29_code 11 = .ok (.lconst 0, 1) := by decide +kernel
theorem d15_12 : decode jdk_2097_method_29_code 12 = .ok (.lcmp, 1) := by decide +kernel
theorem d15_13 : decode jdk_2097_method_29_code 13 = .ok (.ifCond .le 18, 3) := by decide +kernel
theorem d15_16 : decode jdk_2097_method_29_code 16 = .ok (.lload_n 0, 1) := by decide +kernel
theorem d15_17 : decode jdk_2097_method_29_code 17 = .ok (.ldc2_w 345, 3) := by decide +kernel
theorem d15_20 : decode jdk_2097_method_29_code 20 = .ok (.lcmp, 1) := by decide +kernel
theorem d15_21 : decode jdk_2097_method_29_code 21 = .ok (.ifCond .gt 10, 3) := by decide +kernel
theorem d15_24 : decode jdk_2097_method_29_code 24 = .ok (.getstatic 347, 3) := by decide +kernel
theorem d15_27 : decode jdk_2097_method_29_code 27 = .ok (.lload_n 0, 1) := by decide +kernel
theorem d15_28 : decode jdk_2097_method_29_code 28 = .ok (.l2i, 1) := by decide +kernel
theorem d15_29 : decode jdk_2097_method_29_code 29 = .ok (.aaload, 1) := by decide +kernel
theorem d15_30 : decode jdk_2097_method_29_code 30 = .ok (.areturn, 1) := by decide +kernel
theorem d15_31 : decode jdk_2097_method_29_code 31 = .ok (.lload_n 0, 1) := by decide +kernel
theorem d15_32 : decode jdk_2097_method_29_code 32 = .ok (.lconst 0, 1) := by decide +kernel
theorem d15_33 : decode jdk_2097_method_29_code 33 = .ok (.lcmp, 1) := by decide +kernel
theorem d15_34 : decode jdk_2097_method_29_code 34 = .ok (.ifCond .ge 19, 3) := by decide +kernel
theorem d15_37 : decode jdk_2097_method_29_code 37 = .ok (.lload_n 0, 1) := by decide +kernel
theorem d15_38 : decode jdk_2097_method_29_code 38 = .ok (.ldc2_w 351, 3) := by decide +kernel
theorem d15_41 : decode jdk_2097_method_29_code 41 = .ok (.lcmp, 1) := by decide +kernel
theorem d15_42 : decode jdk_2097_method_29_code 42 = .ok (.ifCond .lt 11, 3) := by decide +kernel
theorem d15_45 : decode jdk_2097_method_29_code 45 = .ok (.getstatic 353, 3) := by decide +kernel
theorem d15_48 : decode jdk_2097_method_29_code 48 = .ok (.lload_n 0, 1) := by decide +kernel
theorem d15_49 : decode jdk_2097_method_29_code 49 = .ok (.lneg, 1) := by decide +kernel
theorem d15_50 : decode jdk_2097_method_29_code 50 = .ok (.l2i, 1) := by decide +kernel
theorem d15_51 : decode jdk_2097_method_29_code 51 = .ok (.aaload, 1) := by decide +kernel
theorem d15_52 : decode jdk_2097_method_29_code 52 = .ok (.areturn, 1) := by decide +kernel
theorem d15_53 : decode jdk_2097_method_29_code 53 = .ok (.new 23, 3) := by decide +kernel
theorem d15_56 : decode jdk_2097_method_29_code 56 = .ok (.dup, 1) := by decide +kernel
theorem d15_57 : decode jdk_2097_method_29_code 57 = .ok (.lload_n 0, 1) := by decide +kernel
theorem d15_58 : decode jdk_2097_method_29_code 58 = .ok (.invokespecial 356, 3) := by decide +kernel
theorem d15_61 : decode jdk_2097_method_29_code 61 = .ok (.areturn, 1) := by decide +kernel
set_option maxRecDepth 65536 in
set_option maxHeartbeats 40000000 in
theorem own_bval (l : Launch) (Z : State) (a0 : Array Value) (hw : ∀ d ∈ tables_1, d.before a0 Z = true) (h0 : Heap) (n0 : Nat) (O0 : Old Z n0 h0) (hfit : Fit Z) (zv : Value) (hzv : zv.isRef = true) (SZ : Sta Z Z.heap "java/math/BigInteger" "ZERO" "Ljava/math/BigInteger;" zv) (pa na : Addr) (pc nc : Cell) (SP : Sta Z Z.heap "java/math/BigInteger" "posConst" "[Ljava/math/BigInteger;" (.ref pa)) (SN : Sta Z Z.heap "java/math/BigInteger" "negConst" "[Ljava/math/BigInteger;" (.ref na)) (AP : Arr Z Z.heap pa pc (.object "java/math/BigInteger")) (AN : Arr Z Z.heap na nc (.object "java/math/BigInteger")) (zP : pc.slots.size = (17 : Int32).toNatClampNeg) (zN : nc.slots.size = (17 : Int32).toNatClampNeg) (x : Int64) :
    Con [] l Z (⟨"java/math/BigInteger", "valueOf", "(J)Ljava/math/BigInteger;"⟩ : MethodName) jdk_2097_method_29_code 2 (Option.some (Jvm.ClassFile.FieldType.object "java/math/BigInteger")) ({ frames := 3, cells := 2, slots := 8, locals := 40 } : Room) #[(.long x)] h0 (fun v h L => ∃ u, v = some u ∧ u.isRef = true ∧ Fr n0 L ∧ Keep h0 h []) := by
  refine Con.of (Ls := #[.val (.long x), .second]) (by first | exact plainFor_of_name (by first | (simp [plainName, overriddenIn]; done) | decide +kernel) | decide +kernel) (fun m => by first | (simp [entryFrame, mkF, argsToLocals, Value.category]; done) | (simp [entryFrame, mkF, argsToLocals, Value.category, maxLocals]; done) | rfl) ?_
  intro p e s m below meth c T0 hx hby hml hown hnm hret hlk hZ e0 X0
  have NF0 := Fr.nil n0
  have P0 : Keep h0 h0 [] := Keep.refl _ _
  refine Gl.st (U' := (T0.setTop (mkF m 1 #[.val (.long x), .second] [(.long x)]))) (fun _ zz => XT.lloadN X0.here hx rfl (hb hby d15_0) rfl zz) ?_
  refine Gl.st (U' := (T0.setTop (mkF m 2 #[.val (.long x), .second] [(.long (0 : Int64)), (.long x)]))) (fun _ zz => XT.lconst X0.here hx rfl (hb hby d15_1) zz) ?_
  refine Gl.st (U' := (T0.setTop (mkF m 3 #[.val (.long x), .second] [(.int (XT.cmpL x (0 : Int64)))]))) (fun _ zz => XT.lcmp X0.here hx rfl (hb hby d15_2) rfl zz) ?_
  by_cases q0 : (XT.cmpL x (0 : Int64)) = (0 : Int32)
  · refine Gl.st (U' := (T0.setTop (mkF m 6 #[.val (.long x), .second] []))) (fun _ zz => XS.ifNo X0.here hx rfl (hb hby d15_3) rfl ((if0 _ _).trans (teq q0).2) zz) ?_
    obtain ⟨Tt165, Xt165, et165, stt165⟩ := getS2 X0 hx hZ hown (host := "") (Or.inl (hw _ (List.mem_of_getElem? (i := 114) rfl))) Via.refl e0 (SZ.ext O0.2) (g := (mkF m 6 #[.val (.long x), .second] [])) rfl (hb hby d15_6)
    refine Gl.st (U' := (Tt165.setTop (mkF m 9 #[.val (.long x), .second] [zv]))) stt165 ?_
    exact Gl.retA Xt165 hx hret rfl hlk hzv (hb hby d15_9) ⟨_, rfl, hzv, NF0, by rw [et165]; exact Keep.refl _ _⟩ (by decide) (by decide)
  · refine Gl.st (U' := (T0.setTop (mkF m 10 #[.val (.long x), .second] []))) (fun _ zz => XS.ifYes X0.here hx rfl (pc0 := 3) (pc' := 10) rfl (hb hby d15_3) rfl ((if0 _ _).trans (feq q0).2) (by decide) (by decide) zz) ?_
    refine Gl.st (U' := (T0.setTop (mkF m 11 #[.val (.long x), .second] [(.long x)]))) (fun _ zz => XT.lloadN X0.here hx rfl (hb hby d15_10) rfl zz) ?_
    refine Gl.st (U' := (T0.setTop (mkF m 12 #[.val (.long x), .second] [(.long (0 : Int64)), (.long x)]))) (fun _ zz => XT.lconst X0.here hx rfl (hb hby d15_11) zz) ?_
    refine Gl.st (U' := (T0.setTop (mkF m 13 #[.val (.long x), .second] [(.int (XT.cmpL x (0 : Int64)))]))) (fun _ zz => XT.lcmp X0.here hx rfl (hb hby d15_12) rfl zz) ?_
    by_cases q1 : (0 : Int32) < (XT.cmpL x (0 : Int64))
    · refine Gl.st (U' := (T0.setTop (mkF m 16 #[.val (.long x), .second] []))) (fun _ zz => XS.ifNo X0.here hx rfl (hb hby d15_13) rfl ((if0 _ _).trans (tlt q1).2.2.2) zz) ?_
      refine Gl.st (U' := (T0.setTop (mkF m 17 #[.val (.long x), .second] [(.long x)]))) (fun _ zz => XT.lloadN X0.here hx rfl (hb hby d15_16) rfl zz) ?_
      refine Gl.st (U' := (T0.setTop (mkF m 20 #[.val (.long x), .second] [(.long (16 : Int64)), (.long x)]))) (fun _ zz => Jvm.Stand.ldc2J (g := (mkF m 17 #[.val (.long x), .second] [(.long x)])) X0 hx hown (mvT hZ (hw _ (List.mem_of_getElem? (i := 83) rfl))) rfl (hb hby d15_17) zz) ?_
      refine Gl.st (U' := (T0.setTop (mkF m 21 #[.val (.long x), .second] [(.int (XT.cmpL x (16 : Int64)))]))) (fun _ zz => XT.lcmp X0.here hx rfl (hb hby d15_20) rfl zz) ?_
      by_cases q2 : (0 : Int32) < (XT.cmpL x (16 : Int64))
      · refine Gl.st (U' := (T0.setTop (mkF m 31 #[.val (.long x), .second] []))) (fun _ zz => XS.ifYes X0.here hx rfl (pc0 := 21) (pc' := 31) rfl (hb hby d15_21) rfl ((if0 _ _).trans (tlt q2).2.2.1) (by decide) (by decide) zz) ?_
        refine Gl.st (U' := (T0.setTop (mkF m 32 #[.val (.long x), .second] [(.long x)]))) (fun _ zz => XT.lloadN X0.here hx rfl (hb hby d15_31) rfl zz) ?_
        refine Gl.st (U' := (T0.setTop (mkF m 33 #[.val (.long x), .second] [(.long (0 : Int64)), (.long x)]))) (fun _ zz => XT.lconst X0.here hx rfl (hb hby d15_32) zz) ?_
        refine Gl.st (U' := (T0.setTop (mkF m 34 #[.val (.long x), .second] [(.int (XT.cmpL x (0 : Int64)))]))) (fun _ zz => XT.lcmp X0.here hx rfl (hb hby d15_33) rfl zz) ?_
        by_cases q3 : (XT.cmpL x (0 : Int64)) < (0 : Int32)
        · refine Gl.st (U' := (T0.setTop (mkF m 37 #[.val (.long x), .second] []))) (fun _ zz => XS.ifNo X0.here hx rfl (hb hby d15_34) rfl ((if0 _ _).trans (tlt q3).2.1) zz) ?_
          refine Gl.st (U' := (T0.setTop (mkF m 38 #[.val (.long x), .second] [(.long x)]))) (fun _ zz => XT.lloadN X0.here hx rfl (hb hby d15_37) rfl zz) ?_
          refine Gl.st (U' := (T0.setTop (mkF m 41 #[.val (.long x), .second] [(.long (-16 : Int64)), (.long x)]))) (fun _ zz => Jvm.Stand.ldc2J (g := (mkF m 38 #[.val (.long x), .second] [(.long x)])) X0 hx hown (mvT hZ (hw _ (List.mem_of_getElem? (i := 94) rfl))) rfl (hb hby d15_38) zz) ?_
          refine Gl.st (U' := (T0.setTop (mkF m 42 #[.val (.long x), .second] [(.int (XT.cmpL x (-16 : Int64)))]))) (fun _ zz => XT.lcmp X0.here hx rfl (hb hby d15_41) rfl zz) ?_
          by_cases q4 : (XT.cmpL x (-16 : Int64)) < (0 : Int32)
          · refine Gl.st (U' := (T0.setTop (mkF m 53 #[.val (.long x), .second] []))) (fun _ zz => XS.ifYes X0.here hx rfl (pc0 := 42) (pc' := 53) rfl (hb hby d15_42) rfl ((if0 _ _).trans (tlt q4).1) (by decide) (by decide) zz) ?_
            obtain ⟨Tt166, ht166, Xt166, et166, Et166, At166, Dt166, Mt166, stt166⟩ := newO X0 hx hZ hown (hw _ (List.mem_of_getElem? (i := 95) rfl)) (hw _ (List.mem_of_getElem? (i := 96) rfl)) (hw _ (List.mem_of_getElem? (i := 81) rfl)) e0 (g := (mkF m 53 #[.val (.long x), .second] [])) rfl (hb hby d15_53) (by decide) (by decide)
            obtain ⟨at166, gt166⟩ : ∃ z, z = h0.size := ⟨_, rfl⟩
            rw [← gt166] at At166 Dt166 Mt166 stt166
            refine Gl.st (U' := (Tt166.setTop (mkF m 56 #[.val (.long x), .second] [(.ref at166)]))) stt166 ?_
            have gat167 := (show n0 ≤ at166 by rw [gt166]; exact Nat.le_trans (Nat.le_of_eq O0.1.symm) O0.2.1)
            have kgt168 := (show h0.size ≤ at166 by rw [gt166]; exact P0.1)
            have Pt169 := Keep.ext P0 Et166
            have Ot170 := Old.ext O0 Et166
            have Kt171 := own_K_new Mt166
            refine Gl.st (U' := (Tt166.setTop (mkF m 57 #[.val (.long x), .second] [(.ref at166), (.ref at166)]))) (fun _ zz => XS.dup Xt166.here hx rfl (hb hby d15_56) rfl rfl zz) ?_
            refine Gl.st (U' := (Tt166.setTop (mkF m 58 #[.val (.long x), .second] [(.long x), (.ref at166), (.ref at166)]))) (fun _ zz => XT.lloadN Xt166.here hx rfl (hb hby d15_57) rfl zz) ?_
            refine gCallI Xt166 hx hZ (y := (⟨"java/math/BigInteger", "<init>", "(J)V"⟩ : MethodName)) rfl hown (hw _ (List.mem_of_getElem? (i := 97) rfl)) (hw _ (List.mem_of_getElem? (i := 98) rfl)) (hw _ (List.mem_of_getElem? (i := 81) rfl)) (hw _ (List.mem_of_getElem? (i := 100) rfl)) (by decide) (own_bini l Z a0 hw ht166 n0 at166 gat167 At166 Kt171 Ot170 x) et166 (by decide) (W := 1) (by decide) (by decide) (by decide) (g := (mkF m 58 #[.val (.long x), .second] [(.long x), (.ref at166), (.ref at166)])) rfl (by rw [hml]; rfl) (argsL := [(.long x)]) (rest := [(.ref at166)]) (own_lenOf own_pJ rfl) rfl rfl (by show 2 * 0 + _ ≤ _; exact Nat.le_of_eq rfl) (hb hby d15_58) ?_
            rintro _ Tt172 Lt172 Xt172 ⟨rfl, Nt172, Pt172⟩
            show Gl p e below _ (Tt172.setTop (mkF m 61 #[.val (.long x), .second] [(.ref at166)]))
            have Pt173 := Keep.trans Pt169 Pt172 (fun z hz => by rcases List.mem_singleton.mp hz with rfl; exact (Or.inr kgt168))
            have Ot174 := Old.keep Ot170 Pt172 (allS gat167 all0)
            exact Gl.retA Xt172 hx hret rfl hlk rfl (hb hby d15_61) ⟨_, rfl, rfl, by simpa using Nt172, Pt173⟩ (by decide) (by decide)
          · refine Gl.st (U' := (T0.setTop (mkF m 45 #[.val (.long x), .second] []))) (fun _ zz => XS.ifNo X0.here hx rfl (hb hby d15_42) rfl ((if0 _ _).trans (flt q4).1) zz) ?_
            obtain ⟨Tt175, Xt175, et175, stt175⟩ := getS2 X0 hx hZ hown (host := "") (Or.inl (hw _ (List.mem_of_getElem? (i := 113) rfl))) Via.refl e0 (SN.ext O0.2) (g := (mkF m 45 #[.val (.long x), .second] [])) rfl (hb hby d15_45)
            refine Gl.st (U' := (Tt175.setTop (mkF m 48 #[.val (.long x), .second] [(.ref na)]))) stt175 ?_
            have r1 := Int64.lt_iff_toInt_lt.mp ((own_clt x 0).mp q3)
            have r2 : ¬ x.toInt < (-16 : Int64).toInt := fun z => q4 ((own_clt x (-16)).mpr (Int64.lt_iff_toInt_lt.mpr z))
            rw [show (0 : Int64).toInt = 0 from rfl] at r1
            rw [show (-16 : Int64).toInt = -16 from rfl] at r2
            have r3 : (-x).toInt = -x.toInt := by rw [Int64.toInt_neg]; exact Int.bmod_eq_of_le (by omega) (by omega)
            refine Gl.st (U' := (Tt175.setTop (mkF m 49 #[.val (.long x), .second] [(.long x), (.ref na)]))) (fun _ zz => XT.lloadN Xt175.here hx rfl (hb hby d15_48) rfl zz) ?_
            refine Gl.st (U' := (Tt175.setTop (mkF m 50 #[.val (.long x), .second] [(.long (-x)), (.ref na)]))) (fun _ zz => XT.lneg Xt175.here hx rfl (hb hby d15_49) rfl zz) ?_
            refine Gl.st (U' := (Tt175.setTop (mkF m 51 #[.val (.long x), .second] [(.int ((-x).toInt32)), (.ref na)]))) (fun _ zz => XT.l2i Xt175.here hx rfl (hb hby d15_50) rfl zz) ?_
            have hin : ¬ (((-x).toInt32) < 0 ∨ nc.slots.size ≤ (((-x).toInt32)).toNatClampNeg) := by rw [zN]; exact own_ix (-x) (by omega) (by omega)
            obtain ⟨u, hu1, hu2⟩ := elem_fit hfit AN hin
            have hu3 := fit_R hu2 rfl
            have AX := Arr.ext O0.2 AN
            refine Gl.st (U' := (Tt175.setTop (mkF m 52 #[.val (.long x), .second] [u]))) (Xt175.aaload hx (by rw [et175]; exact AX.1) (State.isArrayOf_alike hZ.alike AX.2.1) rfl AX.2.2 hin hu1 (g := (mkF m 51 #[.val (.long x), .second] [(.int ((-x).toInt32)), (.ref na)])) rfl rfl (hb hby d15_51)) ?_
            exact Gl.retA Xt175 hx hret rfl hlk hu3 (hb hby d15_52) ⟨_, rfl, hu3, NF0, by rw [et175]; exact Keep.refl _ _⟩ (by decide) (by decide)
        · refine Gl.st (U' := (T0.setTop (mkF m 53 #[.val (.long x), .second] []))) (fun _ zz => XS.ifYes X0.here hx rfl (pc0 := 34) (pc' := 53) rfl (hb hby d15_34) rfl ((if0 _ _).trans (flt q3).2.1) (by decide) (by decide) zz) ?_
          obtain ⟨Tt176, ht176, Xt176, et176, Et176, At176, Dt176, Mt176, stt176⟩ := newO X0 hx hZ hown (hw _ (List.mem_of_getElem? (i := 95) rfl)) (hw _ (List.mem_of_getElem? (i := 96) rfl)) (hw _ (List.mem_of_getElem? (i := 81) rfl)) e0 (g := (mkF m 53 #[.val (.long x), .second] [])) rfl (hb hby d15_53) (by decide) (by decide)
          obtain ⟨at176, gt176⟩ : ∃ z, z = h0.size := ⟨_, rfl⟩
          rw [← gt176] at At176 Dt176 Mt176 stt176
          refine Gl.st (U' := (Tt176.setTop (mkF m 56 #[.val (.long x), .second] [(.ref at176)]))) stt176 ?_
          have gat177 := (show n0 ≤ at176 by rw [gt176]; exact Nat.le_trans (Nat.le_of_eq O0.1.symm) O0.2.1)
          have kgt178 := (show h0.size ≤ at176 by rw [gt176]; exact P0.1)
          have Pt179 := Keep.ext P0 Et176
          have Ot180 := Old.ext O0 Et176
          have Kt181 := own_K_new Mt176
          refine Gl.st (U' := (Tt176.setTop (mkF m 57 #[.val (.long x), .second] [(.ref at176), (.ref at176)]))) (fun _ zz => XS.dup Xt176.here hx rfl (hb hby d15_56) rfl rfl zz) ?_
          refine Gl.st (U' := (Tt176.setTop (mkF m 58 #[.val (.long x), .second] [(.long x), (.ref at176), (.ref at176)]))) (fun _ zz => XT.lloadN Xt176.here hx rfl (hb hby d15_57) rfl zz) ?_
          refine gCallI Xt176 hx hZ (y := (⟨"java/math/BigInteger", "<init>", "(J)V"⟩ : MethodName)) rfl hown (hw _ (List.mem_of_getElem? (i := 97) rfl)) (hw _ (List.mem_of_getElem? (i := 98) rfl)) (hw _ (List.mem_of_getElem? (i := 81) rfl)) (hw _ (List.mem_of_getElem? (i := 100) rfl)) (by decide) (own_bini l Z a0 hw ht176 n0 at176 gat177 At176 Kt181 Ot180 x) et176 (by decide) (W := 1) (by decide) (by decide) (by decide) (g := (mkF m 58 #[.val (.long x), .second] [(.long x), (.ref at176), (.ref at176)])) rfl (by rw [hml]; rfl) (argsL := [(.long x)]) (rest := [(.ref at176)]) (own_lenOf own_pJ rfl) rfl rfl (by show 2 * 0 + _ ≤ _; exact Nat.le_of_eq rfl) (hb hby d15_58) ?_
          rintro _ Tt182 Lt182 Xt182 ⟨rfl, Nt182, Pt182⟩
          show Gl p e below _ (Tt182.setTop (mkF m 61 #[.val (.long x), .second] [(.ref at176)]))
          have Pt183 := Keep.trans Pt179 Pt182 (fun z hz => by rcases List.mem_singleton.mp hz with rfl; exact (Or.inr kgt178))
          have Ot184 := Old.keep Ot180 Pt182 (allS gat177 all0)
          exact Gl.retA Xt182 hx hret rfl hlk rfl (hb hby d15_61) ⟨_, rfl, rfl, by simpa using Nt182, Pt183⟩ (by decide) (by decide)
      · refine Gl.st (U' := (T0.setTop (mkF m 24 #[.val (.long x), .second] []))) (fun _ zz => XS.ifNo X0.here hx rfl (hb hby d15_21) rfl ((if0 _ _).trans (flt q2).2.2.1) zz) ?_
        obtain ⟨Tt185, Xt185, et185, stt185⟩ := getS2 X0 hx hZ hown (host := "") (Or.inl (hw _ (List.mem_of_getElem? (i := 84) rfl))) Via.refl e0 (SP.ext O0.2) (g := (mkF m 24 #[.val (.long x), .second] [])) rfl (hb hby d15_24)
        refine Gl.st (U' := (Tt185.setTop (mkF m 27 #[.val (.long x), .second] [(.ref pa)]))) stt185 ?_
        have r1 := Int64.lt_iff_toInt_lt.mp ((own_cgt x 0).mp q1)
        have r2 : ¬ (16 : Int64).toInt < x.toInt := fun z => q2 ((own_cgt x 16).mpr (Int64.lt_iff_toInt_lt.mpr z))
        rw [show (0 : Int64).toInt = 0 from rfl] at r1
        rw [show (16 : Int64).toInt = 16 from rfl] at r2
        refine Gl.st (U' := (Tt185.setTop (mkF m 28 #[.val (.long x), .second] [(.long x), (.ref pa)]))) (fun _ zz => XT.lloadN Xt185.here hx rfl (hb hby d15_27) rfl zz) ?_
        refine Gl.st (U' := (Tt185.setTop (mkF m 29 #[.val (.long x), .second] [(.int (x.toInt32)), (.ref pa)]))) (fun _ zz => XT.l2i Xt185.here hx rfl (hb hby d15_28) rfl zz) ?_
        have hin : ¬ ((x.toInt32) < 0 ∨ pc.slots.size ≤ ((x.toInt32)).toNatClampNeg) := by rw [zP]; exact own_ix x r1 (by omega)
        obtain ⟨u, hu1, hu2⟩ := elem_fit hfit AP hin
        have hu3 := fit_R hu2 rfl
        have AX := Arr.ext O0.2 AP
        refine Gl.st (U' := (Tt185.setTop (mkF m 30 #[.val (.long x), .second] [u]))) (Xt185.aaload hx (by rw [et185]; exact AX.1) (State.isArrayOf_alike hZ.alike AX.2.1) rfl AX.2.2 hin hu1 (g := (mkF m 29 #[.val (.long x), .second] [(.int (x.toInt32)), (.ref pa)])) rfl rfl (hb hby d15_29)) ?_
        exact Gl.retA Xt185 hx hret rfl hlk hu3 (hb hby d15_30) ⟨_, rfl, hu3, NF0, by rw [et185]; exact Keep.refl _ _⟩ (by decide) (by decide)
    · refine Gl.st (U' := (T0.setTop (mkF m 31 #[.val (.long x), .second] []))) (fun _ zz => XS.ifYes X0.here hx rfl (pc0 := 13) (pc' := 31) rfl (hb hby d15_13) rfl ((if0 _ _).trans (flt q1).2.2.2) (by decide) (by decide) zz) ?_
      refine Gl.st (U' := (T0.setTop (mkF m 32 #[.val (.long x), .second] [(.long x)]))) (fun _ zz => XT.lloadN X0.here hx rfl (hb hby d15_31) rfl zz) ?_
      refine Gl.st (U' := (T0.setTop (mkF m 33 #[.val (.long x), .second] [(.long (0 : Int64)), (.long x)]))) (fun _ zz => XT.lconst X0.here hx rfl (hb hby d15_32) zz) ?_
      refine Gl.st (U' := (T0.setTop (mkF m 34 #[.val (.long x), .second] [(.int (XT.cmpL x (0 : Int64)))]))) (fun _ zz => XT.lcmp X0.here hx rfl (hb hby d15_33) rfl zz) ?_
      by_cases q3 : (XT.cmpL x (0 : Int64)) < (0 : Int32)
      · refine Gl.st (U' := (T0.setTop (mkF m 37 #[.val (.long x), .second] []))) (fun _ zz => XS.ifNo X0.here hx rfl (hb hby d15_34) rfl ((if0 _ _).trans (tlt q3).2.1) zz) ?_
        refine Gl.st (U' := (T0.setTop (mkF m 38 #[.val (.long x), .second] [(.long x)]))) (fun _ zz => XT.lloadN X0.here hx rfl (hb hby d15_37) rfl zz) ?_
        refine Gl.st (U' := (T0.setTop (mkF m 41 #[.val (.long x), .second] [(.long (-16 : Int64)), (.long x)]))) (fun _ zz => Jvm.Stand.ldc2J (g := (mkF m 38 #[.val (.long x), .second] [(.long x)])) X0 hx hown (mvT hZ (hw _ (List.mem_of_getElem? (i := 94) rfl))) rfl (hb hby d15_38) zz) ?_
        refine Gl.st (U' := (T0.setTop (mkF m 42 #[.val (.long x), .second] [(.int (XT.cmpL x (-16 : Int64)))]))) (fun _ zz => XT.lcmp X0.here hx rfl (hb hby d15_41) rfl zz) ?_
        by_cases q4 : (XT.cmpL x (-16 : Int64)) < (0 : Int32)
        · refine Gl.st (U' := (T0.setTop (mkF m 53 #[.val (.long x), .second] []))) (fun _ zz => XS.ifYes X0.here hx rfl (pc0 := 42) (pc' := 53) rfl (hb hby d15_42) rfl ((if0 _ _).trans (tlt q4).1) (by decide) (by decide) zz) ?_
          obtain ⟨Tt186, ht186, Xt186, et186, Et186, At186, Dt186, Mt186, stt186⟩ := newO X0 hx hZ hown (hw _ (List.mem_of_getElem? (i := 95) rfl)) (hw _ (List.mem_of_getElem? (i := 96) rfl)) (hw _ (List.mem_of_getElem? (i := 81) rfl)) e0 (g := (mkF m 53 #[.val (.long x), .second] [])) rfl (hb hby d15_53) (by decide) (by decide)
          obtain ⟨at186, gt186⟩ : ∃ z, z = h0.size := ⟨_, rfl⟩
          rw [← gt186] at At186 Dt186 Mt186 stt186
          refine Gl.st (U' := (Tt186.setTop (mkF m 56 #[.val (.long x), .second] [(.ref at186)]))) stt186 ?_
          have gat187 := (show n0 ≤ at186 by rw [gt186]; exact Nat.le_trans (Nat.le_of_eq O0.1.symm) O0.2.1)
          have kgt188 := (show h0.size ≤ at186 by rw [gt186]; exact P0.1)
          have Pt189 := Keep.ext P0 Et186
          have Ot190 := Old.ext O0 Et186
          have Kt191 := own_K_new Mt186
          refine Gl.st (U' := (Tt186.setTop (mkF m 57 #[.val (.long x), .second] [(.ref at186), (.ref at186)]))) (fun _ zz => XS.dup Xt186.here hx rfl (hb hby d15_56) rfl rfl zz) ?_
          refine Gl.st (U' := (Tt186.setTop (mkF m 58 #[.val (.long x), .second] [(.long x), (.ref at186), (.ref at186)]))) (fun _ zz => XT.lloadN Xt186.here hx rfl (hb hby d15_57) rfl zz) ?_
          refine gCallI Xt186 hx hZ (y := (⟨"java/math/BigInteger", "<init>", "(J)V"⟩ : MethodName)) rfl hown (hw _ (List.mem_of_getElem? (i := 97) rfl)) (hw _ (List.mem_of_getElem? (i := 98) rfl)) (hw _ (List.mem_of_getElem? (i := 81) rfl)) (hw _ (List.mem_of_getElem? (i := 100) rfl)) (by decide) (own_bini l Z a0 hw ht186 n0 at186 gat187 At186 Kt191 Ot190 x) et186 (by decide) (W := 1) (by decide) (by decide) (by decide) (g := (mkF m 58 #[.val (.long x), .second] [(.long x), (.ref at186), (.ref at186)])) rfl (by rw [hml]; rfl) (argsL := [(.long x)]) (rest := [(.ref at186)]) (own_lenOf own_pJ rfl) rfl rfl (by show 2 * 0 + _ ≤ _; exact Nat.le_of_eq rfl) (hb hby d15_58) ?_
          rintro _ Tt192 Lt192 Xt192 ⟨rfl, Nt192, Pt192⟩
          show Gl p e below _ (Tt192.setTop (mkF m 61 #[.val (.long x), .second] [(.ref at186)]))
          have Pt193 := Keep.trans Pt189 Pt192 (fun z hz => by rcases List.mem_singleton.mp hz with rfl; exact (Or.inr kgt188))
          have Ot194 := Old.keep Ot190 Pt192 (allS gat187 all0)
          exact Gl.retA Xt192 hx hret rfl hlk rfl (hb hby d15_61) ⟨_, rfl, rfl, by simpa using Nt192, Pt193⟩ (by decide) (by decide)
        · refine Gl.st (U' := (T0.setTop (mkF m 45 #[.val (.long x), .second] []))) (fun _ zz => XS.ifNo X0.here hx rfl (hb hby d15_42) rfl ((if0 _ _).trans (flt q4).1) zz) ?_
          obtain ⟨Tt195, Xt195, et195, stt195⟩ := getS2 X0 hx hZ hown (host := "") (Or.inl (hw _ (List.mem_of_getElem? (i := 113) rfl))) Via.refl e0 (SN.ext O0.2) (g := (mkF m 45 #[.val (.long x), .second] [])) rfl (hb hby d15_45)
          refine Gl.st (U' := (Tt195.setTop (mkF m 48 #[.val (.long x), .second] [(.ref na)]))) stt195 ?_
          have r1 := Int64.lt_iff_toInt_lt.mp ((own_clt x 0).mp q3)
          have r2 : ¬ x.toInt < (-16 : Int64).toInt := fun z => q4 ((own_clt x (-16)).mpr (Int64.lt_iff_toInt_lt.mpr z))
          rw [show (0 : Int64).toInt = 0 from rfl] at r1
          rw [show (-16 : Int64).toInt = -16 from rfl] at r2
          have r3 : (-x).toInt = -x.toInt := by rw [Int64.toInt_neg]; exact Int.bmod_eq_of_le (by omega) (by omega)
          refine Gl.st (U' := (Tt195.setTop (mkF m 49 #[.val (.long x), .second] [(.long x), (.ref na)]))) (fun _ zz => XT.lloadN Xt195.here hx rfl (hb hby d15_48) rfl zz) ?_
          refine Gl.st (U' := (Tt195.setTop (mkF m 50 #[.val (.long x), .second] [(.long (-x)), (.ref na)]))) (fun _ zz => XT.lneg Xt195.here hx rfl (hb hby d15_49) rfl zz) ?_
          refine Gl.st (U' := (Tt195.setTop (mkF m 51 #[.val (.long x), .second] [(.int ((-x).toInt32)), (.ref na)]))) (fun _ zz => XT.l2i Xt195.here hx rfl (hb hby d15_50) rfl zz) ?_
          have hin : ¬ (((-x).toInt32) < 0 ∨ nc.slots.size ≤ (((-x).toInt32)).toNatClampNeg) := by rw [zN]; exact own_ix (-x) (by omega) (by omega)
          obtain ⟨u, hu1, hu2⟩ := elem_fit hfit AN hin
          have hu3 := fit_R hu2 rfl
          have AX := Arr.ext O0.2 AN
          refine Gl.st (U' := (Tt195.setTop (mkF m 52 #[.val (.long x), .second] [u]))) (Xt195.aaload hx (by rw [et195]; exact AX.1) (State.isArrayOf_alike hZ.alike AX.2.1) rfl AX.2.2 hin hu1 (g := (mkF m 51 #[.val (.long x), .second] [(.int ((-x).toInt32)), (.ref na)])) rfl rfl (hb hby d15_51)) ?_
          exact Gl.retA Xt195 hx hret rfl hlk hu3 (hb hby d15_52) ⟨_, rfl, hu3, NF0, by rw [et195]; exact Keep.refl _ _⟩ (by decide) (by decide)
      · refine Gl.st (U' := (T0.setTop (mkF m 53 #[.val (.long x), .second] []))) (fun _ zz => XS.ifYes X0.here hx rfl (pc0 := 34) (pc' := 53) rfl (hb hby d15_34) rfl ((if0 _ _).trans (flt q3).2.1) (by decide) (by decide) zz) ?_
        obtain ⟨Tt196, ht196, Xt196, et196, Et196, At196, Dt196, Mt196, stt196⟩ := newO X0 hx hZ hown (hw _ (List.mem_of_getElem? (i := 95) rfl)) (hw _ (List.mem_of_getElem? (i := 96) rfl)) (hw _ (List.mem_of_getElem? (i := 81) rfl)) e0 (g := (mkF m 53 #[.val (.long x), .second] [])) rfl (hb hby d15_53) (by decide) (by decide)
        obtain ⟨at196, gt196⟩ : ∃ z, z = h0.size := ⟨_, rfl⟩
        rw [← gt196] at At196 Dt196 Mt196 stt196
        refine Gl.st (U' := (Tt196.setTop (mkF m 56 #[.val (.long x), .second] [(.ref at196)]))) stt196 ?_
        have gat197 := (show n0 ≤ at196 by rw [gt196]; exact Nat.le_trans (Nat.le_of_eq O0.1.symm) O0.2.1)
        have kgt198 := (show h0.size ≤ at196 by rw [gt196]; exact P0.1)
        have Pt199 := Keep.ext P0 Et196
        have Ot200 := Old.ext O0 Et196
        have Kt201 := own_K_new Mt196
        refine Gl.st (U' := (Tt196.setTop (mkF m 57 #[.val (.long x), .second] [(.ref at196), (.ref at196)]))) (fun _ zz => XS.dup Xt196.here hx rfl (hb hby d15_56) rfl rfl zz) ?_
        refine Gl.st (U' := (Tt196.setTop (mkF m 58 #[.val (.long x), .second] [(.long x), (.ref at196), (.ref at196)]))) (fun _ zz => XT.lloadN Xt196.here hx rfl (hb hby d15_57) rfl zz) ?_
        refine gCallI Xt196 hx hZ (y := (⟨"java/math/BigInteger", "<init>", "(J)V"⟩ : MethodName)) rfl hown (hw _ (List.mem_of_getElem? (i := 97) rfl)) (hw _ (List.mem_of_getElem? (i := 98) rfl)) (hw _ (List.mem_of_getElem? (i := 81) rfl)) (hw _ (List.mem_of_getElem? (i := 100) rfl)) (by decide) (own_bini l Z a0 hw ht196 n0 at196 gat197 At196 Kt201 Ot200 x) et196 (by decide) (W := 1) (by decide) (by decide) (by decide) (g := (mkF m 58 #[.val (.long x), .second] [(.long x), (.ref at196), (.ref at196)])) rfl (by rw [hml]; rfl) (argsL := [(.long x)]) (rest := [(.ref at196)]) (own_lenOf own_pJ rfl) rfl rfl (by show 2 * 0 + _ ≤ _; exact Nat.le_of_eq rfl) (hb hby d15_58) ?_
        rintro _ Tt202 Lt202 Xt202 ⟨rfl, Nt202, Pt202⟩
        show Gl p e below _ (Tt202.setTop (mkF m 61 #[.val (.long x), .second] [(.ref at196)]))
        have Pt203 := Keep.trans Pt199 Pt202 (fun z hz => by rcases List.mem_singleton.mp hz with rfl; exact (Or.inr kgt198))
        have Ot204 := Old.keep Ot200 Pt202 (allS gat197 all0)
        exact Gl.retA Xt202 hx hret rfl hlk rfl (hb hby d15_61) ⟨_, rfl, rfl, by simpa using Nt202, Pt203⟩ (by decide) (by decide)
theorem own_csPays {l : Launch} {R : Room} {p : Program} {e : Env} {below : List Frame} {s : State} {sargs : Array Value} {len W : Nat} {bytes : ByteArray} {maxL : Nat} (m g : UInt64) (hcode : (Cond.code Jvm.Free.NT.mathCopySign64N bytes maxL (some .double)).before sargs s = true) (hstat : (Cond.static Jvm.Free.NT.mathCopySign64N).before sargs s = true) (hfr : 1 ≤ R.frames) (hlo : W + (maxL + 11) ≤ R.locals) :
    Back l R p e below s sargs Jvm.Free.NT.mathCopySign64N len W (fun A a => A.cells ≤ R.cells ∧ A.slots ≤ R.slots ∧ (a = #[.double m, .double g] ∧ FP.dIsNaN g = false)) (fun A _ v B => v = some (.double (copySign64 m g)) ∧ B = A) :=
  Back.mono (Jvm.Free.NT.CopySign64.pays hcode hstat hfr hlo) (fun A a q => ⟨(m, g), q.2.2⟩) (fun A a v B q r => ⟨r.2 (m, g) q.2.2, r.1⟩)
theorem own_rnd2 (x : Int32) : FP.dsub (FP.l2d (4503599627370496 + own_abs x)) (FP.l2d 4503599627370496) = FP.l2d (own_abs x) := by
  rw [← dadd_w own_p52_b (own_abs_b x)]; exact own_rnd x
theorem d12_0 : decode jdk_128_method_19_code 0 = .ok (.ldc2_w 93, 3) := by decide +kernel
theorem d12_3 : decode jdk_128_method_19_code 3 = .ok (.dstore_n 2, 1) := by decide +kernel
theorem d12_4 : decode jdk_128_method_19_code 4 = .ok (.dconst 1, 1) := by decide +kernel
theorem d12_5 : decode jdk_128_method_19_code 5 = .ok (.dload_n 0, 1) := by decide +kernel
theorem d12_6 : decode jdk_128_method_19_code 6 = .ok (.invokestatic 95, 3) := by decide +kernel
theorem d12_9 : decode jdk_128_method_19_code 9 = .ok (.dstore 4, 2) := by decide +kernel
theorem d12_11 : decode jdk_128_method_19_code 11 = .ok (.dload_n 0, 1) := by decide +kernel
theorem d12_12 : decode jdk_128_method_19_code 12 = .ok (.invokestatic 98, 3) := by decide +kernel
theorem d12_15 : decode jdk_128_method_19_code 15 = .ok (.dstore_n 0, 1) := by decide +kernel
theorem d12_16 : decode jdk_128_method_19_code 16 = .ok (.dload_n 0, 1) := by decide +kernel
theorem d12_17 : decode jdk_128_method_19_code 17 = .ok (.dload_n 2, 1) := by decide +kernel
theorem d12_18 : decode jdk_128_method_19_code 18 = .ok (.dcmp .g, 1) := by decide +kernel
theorem d12_19 : decode jdk_128_method_19_code 19 = .ok (.ifCond .ge 9, 3) := by decide +kernel
theorem d12_22 : decode jdk_128_method_19_code 22 = .ok (.dload_n 2, 1) := by decide +kernel
theorem d12_23 : decode jdk_128_method_19_code 23 = .ok (.dload_n 0, 1) := by decide +kernel
theorem d12_24 : decode jdk_128_method_19_code 24 = .ok (.dadd, 1) := by decide +kernel
theorem d12_25 : decode jdk_128_method_19_code 25 = .ok (.dload_n 2, 1) := by decide +kernel
theorem d12_26 : decode jdk_128_method_19_code 26 = .ok (.dsub, 1) := by decide +kernel
theorem d12_27 : decode jdk_128_method_19_code 27 = .ok (.dstore_n 0, 1) := by decide +kernel
theorem d12_28 : decode jdk_128_method_19_code 28 = .ok (.dload 4, 2) := by decide +kernel
theorem d12_30 : decode jdk_128_method_19_code 30 = .ok (.dload_n 0, 1) := by decide +kernel
theorem d12_31 : decode jdk_128_method_19_code 31 = .ok (.dmul, 1) := by decide +kernel
theorem d12_32 : decode jdk_128_method_19_code 32 = .ok (.dreturn, 1) := by decide +kernel
set_option maxRecDepth 65536 in
set_option maxHeartbeats 40000000 in
theorem own_srintA {p : Program} {l : Launch} {e : Env} {below : List Frame} {T : State} {m : MethodId} {meth : Method} {c : Code} (Z : State) (a0 : Array Value) (hw : ∀ d ∈ tables_1, d.before a0 Z = true) (x : Int32) (hx : p.tables.exec = Jvm.exec) (hadm : l.admits e) (hby : c.code = jdk_128_method_19_code) (hA : At T m c below) (hZ : Z.Warmed39 T.vm) (hown : T.vm.findClass "java/lang/StrictMath" = some m.cls) (hm : T.vm.method? m = some meth) (hret : meth.sig.returnType = some .double) (hlk : meth.locks = false)
    {f₀ : JFrame} {N : NFrame} {rest : List Frame} (hF : T.frames = .java f₀ :: .native N :: rest)
    (hroom : ∀ (vm' : Vm) (f : JFrame) (vars : Nat), f.locals.size = 6 → f.monitorRoom = 0 → f.stack = [] → vars ≤ 4 → e.platform.stackFull ((((T.setVm vm').setTop f).threads[((T.setVm vm').setTop f).cur]?).getD { frames := [] }) ((T.setVm vm').setTop f).frames vars = false) :
    Gl p e below (fun s₂ _ => ∃ vm', T.WarmedH vm' ∧ s₂ = (T.setVm vm').setFrames (.native { N with awaiting := false, answer := some (.returned (some (.double (FP.l2d x.toInt64)))) } :: rest)) (T.setTop (mkF m 0 #[.val (.double (FP.l2d x.toInt64)), .second, .unset, .unset, .unset, .unset] [])) := by
  refine Gl.st (U' := (T.setTop (mkF m 3 #[.val (.double (FP.l2d x.toInt64)), .second, .unset, .unset, .unset, .unset] [(.double (4841369599423283200 : UInt64))]))) (own_ldc2 hA hx hZ hown (hw _ (List.mem_of_getElem? (i := 67) rfl)) (g := (mkF m 0 #[.val (.double (FP.l2d x.toInt64)), .second, .unset, .unset, .unset, .unset] [])) rfl (hb hby d12_0)) ?_
  refine Gl.st (U' := (T.setTop (mkF m 4 #[.val (.double (FP.l2d x.toInt64)), .second, .val (.double (4841369599423283200 : UInt64)), .second, .unset, .unset] []))) (fun _ zz => XS.dstoreN hA hx rfl (hb hby d12_3) rfl (l' := #[.val (.double (FP.l2d x.toInt64)), .second, .val (.double (4841369599423283200 : UInt64)), .second, .unset, .unset]) rfl zz) ?_
  rw [own_p52]
  refine Gl.st (U' := (T.setTop (mkF m 5 #[.val (.double (FP.l2d x.toInt64)), .second, .val (.double (FP.l2d 4503599627370496)), .second, .unset, .unset] [(.double FP.dconst1)]))) (fun _ zz => XS.dconst1 hA hx rfl (hb hby d12_4) rfl zz) ?_
  refine Gl.st (U' := (T.setTop (mkF m 6 #[.val (.double (FP.l2d x.toInt64)), .second, .val (.double (FP.l2d 4503599627370496)), .second, .unset, .unset] [(.double (FP.l2d x.toInt64)), (.double FP.dconst1)]))) (fun _ zz => XS.dloadN hA hx rfl (hb hby d12_5) rfl zz) ?_
  obtain ⟨vm1, W1, stvm1⟩ := own_ovS hA hx hadm hZ (y := (⟨"java/lang/Math", "copySign", "(DD)D"⟩ : MethodName)) (row := Jvm.Native.java_lang_Math.nans.rowCopySign64) hown (hw _ (List.mem_of_getElem? (i := 68) rfl)) (hw _ (List.mem_of_getElem? (i := 69) rfl)) (hw _ (List.mem_of_getElem? (i := 61) rfl)) (hw _ (List.mem_of_getElem? (i := 70) rfl)) Jvm.Free.NT.mathCopySign64_desc (by decide) (Jvm.mathCopySign64_row p) (by decide) (g := (mkF m 6 #[.val (.double (FP.l2d x.toInt64)), .second, .val (.double (FP.l2d 4503599627370496)), .second, .unset, .unset] [(.double (FP.l2d x.toInt64)), (.double FP.dconst1)])) rfl (argsL := [(.double FP.dconst1), (.double (FP.l2d x.toInt64))]) (rest := []) rfl rfl (hb hby d12_6) (fun vmz => hroom vmz (mkF m 6 #[.val (.double (FP.l2d x.toInt64)), .second, .val (.double (FP.l2d 4503599627370496)), .second, .unset, .unset] []) 4 rfl rfl rfl (by decide)) (Jvm.givenBack_DD _ _ _) (val := .double (FP.l2d (own_sg x))) (fun V Q hq => Jvm.W.copySign64_of (own_notnan x) (by rw [own_cs x]; exact hq _ _))
  refine Gl.st (U' := ((T.setVm vm1).setTop (mkF m 9 #[.val (.double (FP.l2d x.toInt64)), .second, .val (.double (FP.l2d 4503599627370496)), .second, .unset, .unset] [(.double (FP.l2d (own_sg x)))]))) stvm1 ?_
  have h1 : At (T.setVm vm1) m c below := hA.setVm W1.alike
  have hZ1 : Z.Warmed39 (T.setVm vm1).vm := wtrans (U := (T.setVm vm1)) hZ W1
  have hown1 : (T.setVm vm1).vm.findClass "java/lang/StrictMath" = some m.cls := by
    show vm1.findClass _ = _
    rw [W1.alike.findClass]; exact hown
  refine Gl.st (U' := ((T.setVm vm1).setTop (mkF m 11 #[.val (.double (FP.l2d x.toInt64)), .second, .val (.double (FP.l2d 4503599627370496)), .second, .val (.double (FP.l2d (own_sg x))), .second] []))) (fun _ zz => XS.dstore h1 hx rfl (hb hby d12_9) rfl (l' := #[.val (.double (FP.l2d x.toInt64)), .second, .val (.double (FP.l2d 4503599627370496)), .second, .val (.double (FP.l2d (own_sg x))), .second]) rfl zz) ?_
  refine Gl.st (U' := ((T.setVm vm1).setTop (mkF m 12 #[.val (.double (FP.l2d x.toInt64)), .second, .val (.double (FP.l2d 4503599627370496)), .second, .val (.double (FP.l2d (own_sg x))), .second] [(.double (FP.l2d x.toInt64))]))) (fun _ zz => XS.dloadN h1 hx rfl (hb hby d12_11) rfl zz) ?_
  obtain ⟨vm2, W2, stvm2⟩ := own_ovS h1 hx hadm hZ1 (y := (⟨"java/lang/Math", "abs", "(D)D"⟩ : MethodName)) (row := Jvm.Native.java_lang_Math.nans.rowAbs64) hown1 (hw _ (List.mem_of_getElem? (i := 71) rfl)) (hw _ (List.mem_of_getElem? (i := 72) rfl)) (hw _ (List.mem_of_getElem? (i := 61) rfl)) (hw _ (List.mem_of_getElem? (i := 73) rfl)) Jvm.Free.NT.mathAbs64_desc (by decide) (Jvm.mathAbs64_row p) (by decide) (g := (mkF m 12 #[.val (.double (FP.l2d x.toInt64)), .second, .val (.double (FP.l2d 4503599627370496)), .second, .val (.double (FP.l2d (own_sg x))), .second] [(.double (FP.l2d x.toInt64))])) rfl (argsL := [(.double (FP.l2d x.toInt64))]) (rest := []) rfl rfl (hb hby d12_12) (fun vmz => hroom vmz (mkF m 12 #[.val (.double (FP.l2d x.toInt64)), .second, .val (.double (FP.l2d 4503599627370496)), .second, .val (.double (FP.l2d (own_sg x))), .second] []) 2 rfl rfl rfl (by decide)) (Jvm.givenBack_D _ _) (val := .double (FP.l2d (own_abs x))) (fun V Q hq => Jvm.W.abs64_of (show Jvm.Free.Fl.NoNaN64 (FP.l2d x.toInt64) from nn_w rfl) (by rw [own_abs_and x]; exact hq _ _))
  refine Gl.st (U' := (((T.setVm vm1).setVm vm2).setTop (mkF m 15 #[.val (.double (FP.l2d x.toInt64)), .second, .val (.double (FP.l2d 4503599627370496)), .second, .val (.double (FP.l2d (own_sg x))), .second] [(.double (FP.l2d (own_abs x)))]))) stvm2 ?_
  have h2 : At ((T.setVm vm1).setVm vm2) m c below := h1.setVm W2.alike
  have hZ2 : Z.Warmed39 ((T.setVm vm1).setVm vm2).vm := wtrans (U := ((T.setVm vm1).setVm vm2)) hZ1 W2
  have hown2 : ((T.setVm vm1).setVm vm2).vm.findClass "java/lang/StrictMath" = some m.cls := by
    show vm2.findClass _ = _
    rw [W2.alike.findClass]; exact hown1
  refine Gl.st (U' := (((T.setVm vm1).setVm vm2).setTop (mkF m 16 #[.val (.double (FP.l2d (own_abs x))), .second, .val (.double (FP.l2d 4503599627370496)), .second, .val (.double (FP.l2d (own_sg x))), .second] []))) (fun _ zz => XS.dstoreN h2 hx rfl (hb hby d12_15) rfl (l' := #[.val (.double (FP.l2d (own_abs x))), .second, .val (.double (FP.l2d 4503599627370496)), .second, .val (.double (FP.l2d (own_sg x))), .second]) rfl zz) ?_
  refine Gl.st (U' := (((T.setVm vm1).setVm vm2).setTop (mkF m 17 #[.val (.double (FP.l2d (own_abs x))), .second, .val (.double (FP.l2d 4503599627370496)), .second, .val (.double (FP.l2d (own_sg x))), .second] [(.double (FP.l2d (own_abs x)))]))) (fun _ zz => XS.dloadN h2 hx rfl (hb hby d12_16) rfl zz) ?_
  refine Gl.st (U' := (((T.setVm vm1).setVm vm2).setTop (mkF m 18 #[.val (.double (FP.l2d (own_abs x))), .second, .val (.double (FP.l2d 4503599627370496)), .second, .val (.double (FP.l2d (own_sg x))), .second] [(.double (FP.l2d 4503599627370496)), (.double (FP.l2d (own_abs x)))]))) (fun _ zz => XS.dloadN h2 hx rfl (hb hby d12_17) rfl zz) ?_
  refine Gl.st (U' := (((T.setVm vm1).setVm vm2).setTop (mkF m 19 #[.val (.double (FP.l2d (own_abs x))), .second, .val (.double (FP.l2d 4503599627370496)), .second, .val (.double (FP.l2d (own_sg x))), .second] [(.int (-1 : Int32))]))) (fun _ zz => XS.dcmpS h2 hx rfl (hb hby d12_18) rfl (own_small52 x) zz) ?_
  refine Gl.st (U' := (((T.setVm vm1).setVm vm2).setTop (mkF m 22 #[.val (.double (FP.l2d (own_abs x))), .second, .val (.double (FP.l2d 4503599627370496)), .second, .val (.double (FP.l2d (own_sg x))), .second] []))) (fun _ zz => XS.ifNo h2 hx rfl (hb hby d12_19) rfl ((if0 _ _).trans (tlt (by decide)).2.1) zz) ?_
  refine Gl.st (U' := (((T.setVm vm1).setVm vm2).setTop (mkF m 23 #[.val (.double (FP.l2d (own_abs x))), .second, .val (.double (FP.l2d 4503599627370496)), .second, .val (.double (FP.l2d (own_sg x))), .second] [(.double (FP.l2d 4503599627370496))]))) (fun _ zz => XS.dloadN h2 hx rfl (hb hby d12_22) rfl zz) ?_
  refine Gl.st (U' := (((T.setVm vm1).setVm vm2).setTop (mkF m 24 #[.val (.double (FP.l2d (own_abs x))), .second, .val (.double (FP.l2d 4503599627370496)), .second, .val (.double (FP.l2d (own_sg x))), .second] [(.double (FP.l2d (own_abs x))), (.double (FP.l2d 4503599627370496))]))) (fun _ zz => XS.dloadN h2 hx rfl (hb hby d12_23) rfl zz) ?_
  refine Gl.st (U' := (((T.setVm vm1).setVm vm2).setTop (mkF m 25 #[.val (.double (FP.l2d (own_abs x))), .second, .val (.double (FP.l2d 4503599627370496)), .second, .val (.double (FP.l2d (own_sg x))), .second] [(.double (FP.l2d (4503599627370496 + own_abs x)))]))) (fun _ zz => XS.daddS h2 hx rfl (hb hby d12_24) rfl (nn_w (dadd_w own_p52_b (own_abs_b x))) (dadd_w own_p52_b (own_abs_b x)) zz) ?_
  refine Gl.st (U' := (((T.setVm vm1).setVm vm2).setTop (mkF m 26 #[.val (.double (FP.l2d (own_abs x))), .second, .val (.double (FP.l2d 4503599627370496)), .second, .val (.double (FP.l2d (own_sg x))), .second] [(.double (FP.l2d 4503599627370496)), (.double (FP.l2d (4503599627370496 + own_abs x)))]))) (fun _ zz => XS.dloadN h2 hx rfl (hb hby d12_25) rfl zz) ?_
  refine Gl.st (U' := (((T.setVm vm1).setVm vm2).setTop (mkF m 27 #[.val (.double (FP.l2d (own_abs x))), .second, .val (.double (FP.l2d 4503599627370496)), .second, .val (.double (FP.l2d (own_sg x))), .second] [(.double (FP.l2d (own_abs x)))]))) (fun _ zz => XS.dsubS h2 hx rfl (hb hby d12_26) rfl (nn_w (own_rnd2 x)) (own_rnd2 x) zz) ?_
  refine Gl.st (U' := (((T.setVm vm1).setVm vm2).setTop (mkF m 28 #[.val (.double (FP.l2d (own_abs x))), .second, .val (.double (FP.l2d 4503599627370496)), .second, .val (.double (FP.l2d (own_sg x))), .second] []))) (fun _ zz => XS.dstoreN h2 hx rfl (hb hby d12_27) rfl (l' := #[.val (.double (FP.l2d (own_abs x))), .second, .val (.double (FP.l2d 4503599627370496)), .second, .val (.double (FP.l2d (own_sg x))), .second]) rfl zz) ?_
  refine Gl.st (U' := (((T.setVm vm1).setVm vm2).setTop (mkF m 30 #[.val (.double (FP.l2d (own_abs x))), .second, .val (.double (FP.l2d 4503599627370496)), .second, .val (.double (FP.l2d (own_sg x))), .second] [(.double (FP.l2d (own_sg x)))]))) (fun _ zz => XS.dload h2 hx rfl (hb hby d12_28) rfl zz) ?_
  refine Gl.st (U' := (((T.setVm vm1).setVm vm2).setTop (mkF m 31 #[.val (.double (FP.l2d (own_abs x))), .second, .val (.double (FP.l2d 4503599627370496)), .second, .val (.double (FP.l2d (own_sg x))), .second] [(.double (FP.l2d (own_abs x))), (.double (FP.l2d (own_sg x)))]))) (fun _ zz => XS.dloadN h2 hx rfl (hb hby d12_30) rfl zz) ?_
  refine Gl.st (U' := (((T.setVm vm1).setVm vm2).setTop (mkF m 32 #[.val (.double (FP.l2d (own_abs x))), .second, .val (.double (FP.l2d 4503599627370496)), .second, .val (.double (FP.l2d (own_sg x))), .second] [(.double (FP.l2d x.toInt64))]))) (fun _ zz => XS.dmulS h2 hx rfl (hb hby d12_31) rfl (nn_w (own_sg_mul x)) (own_sg_mul x) zz) ?_
  have hm2 : ((T.setVm vm1).setVm vm2).vm.method? m = some meth := by
    show vm2.method? m = some meth
    rw [W2.alike.method?]
    show vm1.method? m = some meth
    rw [W1.alike.method?]; exact hm
  exact ⟨_, .returned none, own_dret (fs := .native { N with awaiting := false, answer := some (.returned (some (.double (FP.l2d x.toInt64)))) } :: rest) h2 hx hm2 hret (hb hby d12_32) (fun f acts q1 q2 q3 => ret_to (t := ((T.setVm vm1).setVm vm2)) (f₀ := f₀) (below := .native N :: rest) hF (by rw [q1]; exact hm2) hlk q2 q3 rfl acts), vm2, State.WarmedH.trans (t := (T.setVm vm1)) W1 W2, rfl⟩
set_option maxRecDepth 65536 in
set_option maxHeartbeats 40000000 in
theorem own_rintB {p : Program} {l : Launch} {e : Env} {R : Room} {s : State} {below : List Frame} {sargs : Array Value} {W : Nat} {h0 : Heap} (Z : State) (a0 : Array Value) (hw : ∀ d ∈ tables_1, d.before a0 Z = true) (x : Int32) (hx : p.tables.exec = Jvm.exec) (hZ : Z.Warmed39 s.vm) (hfr : 3 ≤ R.frames) (hlo : W + 32 ≤ R.locals) :
    Back l R p e below s sargs (⟨"java/lang/Math", "rint", "(D)D"⟩ : MethodName) 3 W (fun A a => a = #[.double (FP.l2d x.toInt64)] ∧ A.U.heap = h0 ∧ A.cells + 0 ≤ R.cells ∧ A.slots + 0 ≤ R.slots)
      (fun A _ v B => ∃ L, (fun (v : Option Value) (h : Heap) (L : List Loc) => v = some (.double (FP.l2d x.toInt64)) ∧ L = [] ∧ h = h0) v B.U.heap L ∧ B.locs = A.locs ++ L ∧ B.cells = A.cells + 0 ∧ B.slots = A.slots + 0) := by
  intro m meth c A g ig mk a' X hg hsize hdg hW hnamed hp
  obtain ⟨U, Ls, c0, s0⟩ := A
  obtain ⟨ha, hh, -, -⟩ := hp
  subst ha
  dsimp only [Pt.U, Pt.locs, Pt.cells, Pt.slots] at hh X hnamed ⊢
  have hZU : Z.Warmed39 U.vm := wtrans hZ X.warmed
  have hCM : (Cond.code (⟨"java/lang/Math", "rint", "(D)D"⟩ : MethodName) jdk_29_method_18_code 2 (some .double)).before #[] U = true := mvT hZU (hw _ (List.mem_of_getElem? (i := 62) rfl))
  have hSM : (Cond.static (⟨"java/lang/Math", "rint", "(D)D"⟩ : MethodName)).before #[] U = true := mvT hZU (hw _ (List.mem_of_getElem? (i := 60) rfl))
  have hCS : (Cond.code (⟨"java/lang/StrictMath", "rint", "(D)D"⟩ : MethodName) jdk_128_method_19_code 6 (some .double)).before #[] U = true := mvT hZU (hw _ (List.mem_of_getElem? (i := 66) rfl))
  have hIS : (Cond.initialized "java/lang/StrictMath").before #[] U = true := mvT hZU (hw _ (List.mem_of_getElem? (i := 65) rfl))
  obtain ⟨methM, cM, hmethM, hcodeM, -, hlocM, -, hlkM, -, hsigM⟩ := Cond.code_spec hnamed hCM
  obtain ⟨kP, hkP, hkname⟩ := className_of_methodNamed hnamed
  obtain ⟨hmnM, hmdM⟩ := name_of_methodNamed hnamed hmethM
  have hstM : methM.isStatic = true := Cond.static_spec hnamed hmethM hSM
  have hxP : kP.methods[mk.idx]? = some methM := by simpa [Vm.method?, hkP] using hmethM
  have hboot : kP.loader = none := Vm.bootOf_findClass (findClass_of_methodNamed hnamed) hkP
  have hpsM : methM.sig.parameters.length = 1 := by
    have q := own_pDD
    rw [show parseMethodDescriptor "(D)D" = some methM.sig from hsigM] at q
    exact Option.some.inj q
  obtain ⟨mS, hnS⟩ := Cond.code_named hCS
  obtain ⟨methS, cS, hmethS, hcodeS, hbyS, hlocS, hretS, hlkS, -, -⟩ := Cond.code_spec hnS hCS
  obtain ⟨kS, hkS, -⟩ := className_of_methodNamed hnS
  have hfS : U.vm.findClass "java/lang/StrictMath" = some mS.cls := findClass_of_methodNamed hnS
  have hiS : kS.init = .initialized := Cond.initialized_spec hfS hkS hIS
  have hmS : kS.findMethod "rint" "(D)D" = some mS.idx := by
    have q := hnS
    simp only [State.methodNamed?, Option.bind_eq_bind, Option.pure_def] at q
    rw [hfS] at q
    simp only [Option.bind_some, hkS] at q
    cases hfm : kS.findMethod "rint" "(D)D" with
    | none => rw [hfm] at q; cases q
    | some j =>
      rw [hfm] at q
      simp at q
      first | exact congrArg (fun z => some (MethodId.idx z)) q | (rw [← q]; exact hfm)
  have hA : At U g.method c below := by rw [hg]; exact X.here
  obtain ⟨g₀, hr⟩ := X.frames_eq
  have hcur : U.cur < U.threads.size := State.cur_lt_of_frames hr
  have e0 : stackWeight [] = 0 := rfl
  have hN0 : stackWeight [.native { method := mk, args := #[.double (FP.l2d x.toInt64)], stage := 1, saved := #[], awaiting := true, answer := none, words := 0 }] = vmFrameWords := by rw [stackWeight_other _ _ (fun f q => by cases q) rfl, e0, Nat.zero_add]
  have st1 := own_rintIn (p := p) (e := e) (b := (FP.l2d x.toInt64)) hA hr hkP hxP hboot hkname hmnM hmdM hpsM hstM hcodeM hlocM hlkM (X.notFull hsize (by omega) (by omega)) hfS hkS hiS hmS hmethS hcodeS hlkS (fun V hV hlim => own_full X hsize hV hlim (k := 1) rfl (by omega) (by rw [hN0, hlocS]; omega))
  rw [hlocS] at st1
  have eL : argsToLocals #[.double (FP.l2d x.toInt64)] 6 = #[.val (.double (FP.l2d x.toInt64)), .second, .unset, .unset, .unset, .unset] := by first | (simp [argsToLocals, Value.category]; done) | rfl
  rw [eL] at st1
  obtain ⟨T1, hT1⟩ : ∃ z, z = U.setFrames (.java (mkF mS 0 #[.val (.double (FP.l2d x.toInt64)), .second, .unset, .unset, .unset, .unset] []) :: .native { method := mk, args := #[.double (FP.l2d x.toInt64)], stage := 1, saved := #[], awaiting := true, answer := none, words := 0 } :: .java g :: below) := ⟨_, rfl⟩
  have st1' : Steps p.tables e below (doInvoke e (U.setTop g) [] mk #[.double (FP.l2d x.toInt64)]).1 T1 := by rw [hT1]; exact st1
  have hF1 : T1.frames = .java (mkF mS 0 #[.val (.double (FP.l2d x.toInt64)), .second, .unset, .unset, .unset, .unset] []) :: .native { method := mk, args := #[.double (FP.l2d x.toInt64)], stage := 1, saved := #[], awaiting := true, answer := none, words := 0 } :: .java g :: below := by subst hT1; exact State.frames_setFrames _ hcur
  have hvm : T1.vm = U.vm := by subst hT1; rfl
  have hA1 : At T1 mS cS below := by
    refine ⟨by rw [State.topJava?_of_frames hF1]; rfl, ⟨[.native { method := mk, args := #[.double (FP.l2d x.toInt64)], stage := 1, saved := #[], awaiting := true, answer := none, words := 0 }, .java g], congrArg List.tail hF1⟩, by subst hT1; exact hA.running, by subst hT1; simpa using hA.runnable, by subst hT1; simpa using hA.alone, ?_, ?_⟩
    · rw [State.code?_eq, hvm]; simp [hmethS, hcodeS]
    · subst hT1; exact State.plainMethod.of_named (s := U) (by first | exact plainFor_of_name (by first | (simp [plainName, overriddenIn]; done) | decide +kernel) | decide +kernel) hnS hmethS
  have hTop : T1.setTop (mkF mS 0 #[.val (.double (FP.l2d x.toInt64)), .second, .unset, .unset, .unset, .unset] []) = T1 := by rw [State.setTop_of_frames _ hF1, hT1, State.setFrames_setFrames]
  have hlim1 : e.platform.stackLimits T1.me = e.platform.stackLimits U.me := by subst hT1; exact State.stackLimits_setFrames _ _ _
  obtain ⟨s₂, o₂, st2, vm', hW', hs₂⟩ := own_srintA (p := p) (l := l) (e := e) (below := below) (T := T1) (m := mS) (meth := methS) (c := cS) Z a0 hw x hx X.admits hbyS hA1 (by rw [hvm]; exact hZU) (by rw [hvm]; exact hfS) (by rw [hvm]; exact hmethS) hretS hlkS hF1
    (fun vmz f vars q1 q2 q3 q4 => own_full X hsize (F := [.java f, .native { method := mk, args := #[.double (FP.l2d x.toInt64)], stage := 1, saved := #[], awaiting := true, answer := none, words := 0 }]) (State.frames_setTop (s := T1.setVm vmz) f hF1) ((State.stackLimits_setTop _ (s := T1.setVm vmz) hA1.top f).trans hlim1) (k := 2) rfl (by omega) (by
      rw [stackWeight_java, hN0, q1, q2, q3]
      simp only [List.map_nil, List.sum_nil]
      omega))
  rw [hTop] at st2
  have hWU : U.WarmedH vm' := by
    have q := hW'
    rw [hT1] at q
    exact q
  have eV : s₂ = (U.setVm vm').setFrames (.native { method := mk, args := #[.double (FP.l2d x.toInt64)], stage := 1, saved := #[], awaiting := false, answer := some (.returned (some (.double (FP.l2d x.toInt64)))), words := 0 } :: .java g :: below) := by
    rw [hs₂, hT1]
    exact State.setFrames_setFrames (U.setVm vm') (.java (mkF mS 0 #[.val (.double (FP.l2d x.toInt64)), .second, .unset, .unset, .unset, .unset] []) :: .native { method := mk, args := #[.double (FP.l2d x.toInt64)], stage := 1, saved := #[], awaiting := true, answer := none, words := 0 } :: .java g :: below) _
  obtain ⟨k', hk', ek⟩ := hWU.alike.2.2 _ _ hkP
  have hAV := hA.setVm hWU.alike
  have st3 : Steps p.tables e below s₂ (s₂.setFrames (.java { g with pc := g.pc + 3, stack := .double (FP.l2d x.toInt64) :: g.stack } :: below)) := by
    refine own_rintOut (c := c) (b := (FP.l2d x.toInt64)) (mk := mk) (methM := methM) (kP := k') (by rw [eV]; exact State.frames_setFrames _ hcur) (by rw [eV]; exact hAV.running) (by rw [eV]; simpa using hAV.runnable) (by rw [eV]; simpa using hAV.alone) (by rw [eV]; exact hk') (by rw [ek]; exact hxP) (by rw [ek]; exact hboot) (by rw [ek]; exact hkname) hmnM hmdM (by rw [eV]; exact hAV.code) hdg (show Jvm.Free.Fl.NoNaN64 (FP.l2d x.toInt64) from nn_w rfl)
  have eE : s₂.setFrames (.java { g with pc := g.pc + 3, stack := .double (FP.l2d x.toInt64) :: g.stack } :: below) = (U.setVm vm').setTop { g with pc := g.pc + 3, stack := .double (FP.l2d x.toInt64) :: g.stack } := by
    rw [eV, State.setFrames_setFrames, State.setTop_of_frames (s := U.setVm vm') _ hr]
  rw [eE] at st3
  exact ⟨some (.double (FP.l2d x.toInt64)), ⟨U.setVm vm', Ls, c0, s0⟩, X.noted (State.WarmedH.trans X.warmed hWU), ⟨[], ⟨rfl, rfl, hh⟩, (List.append_nil _).symm, rfl, rfl⟩, st1'.trans (st2.trans st3)⟩
theorem d10_0 : decode prog_176_method_2_code 0 = .ok (.dload_n 0, 1) := by decide +kernel
theorem d10_1 : decode prog_176_method_2_code 1 = .ok (.dload_n 0, 1) := by decide +kernel
theorem d10_2 : decode prog_176_method_2_code 2 = .ok (.invokestatic 7, 3) := by decide +kernel
theorem d10_5 : decode prog_176_method_2_code 5 = .ok (.dcmp .l, 1) := by decide +kernel
theorem d10_6 : decode prog_176_method_2_code 6 = .ok (.ifCond .eq 15, 3) := by decide +kernel
theorem d10_9 : decode prog_176_method_2_code 9 = .ok (.new 13, 3) := by decide +kernel
theorem d10_12 : decode prog_176_method_2_code 12 = .ok (.dup, 1) := by decide +kernel
theorem d10_13 : decode prog_176_method_2_code 13 = .ok (.dload_n 0, 1) := by decide +kernel
theorem d10_14 : decode prog_176_method_2_code 14 = .ok (.invokespecial 15, 3) := by decide +kernel
theorem d10_17 : decode prog_176_method_2_code 17 = .ok (.astore_n 2, 1) := by decide +kernel
theorem d10_18 : decode prog_176_method_2_code 18 = .ok (.goto 49, 3) := by decide +kernel
theorem d10_21 : decode prog_176_method_2_code 21 = .ok (.dload_n 0, 1) := by decide +kernel
theorem d10_22 : decode prog_176_method_2_code 22 = .ok (.invokestatic 18, 3) := by decide +kernel
theorem d10_25 : decode prog_176_method_2_code 25 = .ok (.ldc2_w 21, 3) := by decide +kernel
theorem d10_28 : decode prog_176_method_2_code 28 = .ok (.dcmp .g, 1) := by decide +kernel
theorem d10_29 : decode prog_176_method_2_code 29 = .ok (.ifCond .ge 19, 3) := by decide +kernel
theorem d10_32 : decode prog_176_method_2_code 32 = .ok (.new 23, 3) := by decide +kernel
theorem d10_35 : decode prog_176_method_2_code 35 = .ok (.dup, 1) := by decide +kernel
theorem d10_36 : decode prog_176_method_2_code 36 = .ok (.dload_n 0, 1) := by decide +kernel
theorem d10_37 : decode prog_176_method_2_code 37 = .ok (.d2l, 1) := by decide +kernel
theorem d10_38 : decode prog_176_method_2_code 38 = .ok (.invokestatic 25, 3) := by decide +kernel
theorem d10_41 : decode prog_176_method_2_code 41 = .ok (.invokespecial 31, 3) := by decide +kernel
theorem d10_44 : decode prog_176_method_2_code 44 = .ok (.astore_n 2, 1) := by decide +kernel
theorem d10_45 : decode prog_176_method_2_code 45 = .ok (.goto 22, 3) := by decide +kernel
theorem d10_48 : decode prog_176_method_2_code 48 = .ok (.new 23, 3) := by decide +kernel
theorem d10_51 : decode prog_176_method_2_code 51 = .ok (.dup, 1) := by decide +kernel
theorem d10_52 : decode prog_176_method_2_code 52 = .ok (.new 34, 3) := by decide +kernel
theorem d10_55 : decode prog_176_method_2_code 55 = .ok (.dup, 1) := by decide +kernel
theorem d10_56 : decode prog_176_method_2_code 56 = .ok (.dload_n 0, 1) := by decide +kernel
theorem d10_57 : decode prog_176_method_2_code 57 = .ok (.invokespecial 36, 3) := by decide +kernel
theorem d10_60 : decode prog_176_method_2_code 60 = .ok (.invokevirtual 37, 3) := by decide +kernel
theorem d10_63 : decode prog_176_method_2_code 63 = .ok (.invokespecial 31, 3) := by decide +kernel
theorem d10_66 : decode prog_176_method_2_code 66 = .ok (.astore_n 2, 1) := by decide +kernel
theorem d10_67 : decode prog_176_method_2_code 67 = .ok (.aload_n 2, 1) := by decide +kernel
theorem d10_68 : decode prog_176_method_2_code 68 = .ok (.areturn, 1) := by decide +kernel
set_option maxRecDepth 65536 in
set_option maxHeartbeats 40000000 in
theorem own_nof (l : Launch) (Z : State) (a0 : Array Value) (hw : ∀ d ∈ tables_1, d.before a0 Z = true) (h0 : Heap) (n0 : Nat) (O0 : Old Z n0 h0) (hfit : Fit Z) (zv : Value) (hzv : zv.isRef = true) (SZ : Sta Z Z.heap "java/math/BigInteger" "ZERO" "Ljava/math/BigInteger;" zv) (pa na : Addr) (pc nc : Cell) (SP : Sta Z Z.heap "java/math/BigInteger" "posConst" "[Ljava/math/BigInteger;" (.ref pa)) (SN : Sta Z Z.heap "java/math/BigInteger" "negConst" "[Ljava/math/BigInteger;" (.ref na)) (AP : Arr Z Z.heap pa pc (.object "java/math/BigInteger")) (AN : Arr Z Z.heap na nc (.object "java/math/BigInteger")) (zP : pc.slots.size = (17 : Int32).toNatClampNeg) (zN : nc.slots.size = (17 : Int32).toNatClampNeg) (x : Int32) :
    Con [] l Z (⟨"com/example/ironbound_models/ironboundmodels/interpreter/NumericValue", "of", "(D)Lcom/example/ironbound_models/ironboundmodels/interpreter/NumericValue;"⟩ : MethodName) prog_176_method_2_code 3 (Option.some (Jvm.ClassFile.FieldType.object "com/example/ironbound_models/ironboundmodels/interpreter/NumericValue")) ({ frames := 4, cells := 3, slots := 9, locals := 60 } : Room) #[(.double (FP.l2d x.toInt64))] h0 (fun v h L => ∃ r, v = some (.ref r) ∧ Exa Z h r "com/example/ironbound_models/ironboundmodels/interpreter/IntegerValue" ∧ Fr n0 L ∧ Keep h0 h []) := by
  refine Con.of (Ls := #[.val (.double (FP.l2d x.toInt64)), .second, .unset]) (by first | exact plainFor_of_name (by first | (simp [plainName, overriddenIn]; done) | decide +kernel) | decide +kernel) (fun m => by first | (simp [entryFrame, mkF, argsToLocals, Value.category]; done) | (simp [entryFrame, mkF, argsToLocals, Value.category, maxLocals]; done) | rfl) ?_
  intro p e s m below meth c T0 hx hby hml hown hnm hret hlk hZ e0 X0
  have NF0 := Fr.nil n0
  have P0 : Keep h0 h0 [] := Keep.refl _ _
  refine Gl.st (U' := (T0.setTop (mkF m 1 #[.val (.double (FP.l2d x.toInt64)), .second, .unset] [(.double (FP.l2d x.toInt64))]))) (fun _ zz => XS.dloadN X0.here hx rfl (hb hby d10_0) rfl zz) ?_
  refine Gl.st (U' := (T0.setTop (mkF m 2 #[.val (.double (FP.l2d x.toInt64)), .second, .unset] [(.double (FP.l2d x.toInt64)), (.double (FP.l2d x.toInt64))]))) (fun _ zz => XS.dloadN X0.here hx rfl (hb hby d10_1) rfl zz) ?_
  refine gBackS X0 hx hZ (y := (⟨"java/lang/Math", "rint", "(D)D"⟩ : MethodName)) hown (hw _ (List.mem_of_getElem? (i := 59) rfl)) (hw _ (List.mem_of_getElem? (i := 60) rfl)) (hw _ (List.mem_of_getElem? (i := 61) rfl)) (hw _ (List.mem_of_getElem? (i := 62) rfl)) (by decide) (kc := 0) (ks := 0) (W := 2) (QQ := fun v h L => v = some (.double (FP.l2d x.toInt64)) ∧ L = [] ∧ h = h0) (own_rintB Z a0 hw x hx hZ (by decide) (by decide)) e0 (by decide) (by decide) (g := (mkF m 2 #[.val (.double (FP.l2d x.toInt64)), .second, .unset] [(.double (FP.l2d x.toInt64)), (.double (FP.l2d x.toInt64))])) rfl (by rw [hml]; rfl) (argsL := [(.double (FP.l2d x.toInt64))]) (rest := [(.double (FP.l2d x.toInt64))]) (own_lenOf own_pDD rfl) rfl rfl (by show 2 * 0 + _ ≤ _; exact Nat.le_of_eq rfl) (hb hby d10_2) ?_
  rintro _ Tt205 Lt205 Xt205 ⟨rfl, rfl, et205⟩
  show Gl p e below _ (Tt205.setTop (mkF m 5 #[.val (.double (FP.l2d x.toInt64)), .second, .unset] [(.double (FP.l2d x.toInt64)), (.double (FP.l2d x.toInt64))]))
  refine Gl.st (U' := (Tt205.setTop (mkF m 6 #[.val (.double (FP.l2d x.toInt64)), .second, .unset] [(.int (0 : Int32))]))) (fun _ zz => XS.dcmpS Xt205.here hx rfl (hb hby d10_5) rfl (own_rint_eq x) zz) ?_
  refine Gl.st (U' := (Tt205.setTop (mkF m 21 #[.val (.double (FP.l2d x.toInt64)), .second, .unset] []))) (fun _ zz => XS.ifYes Xt205.here hx rfl (pc0 := 6) (pc' := 21) rfl (hb hby d10_6) rfl ((if0 _ _).trans (teq rfl).1) (by decide) (by decide) zz) ?_
  refine Gl.st (U' := (Tt205.setTop (mkF m 22 #[.val (.double (FP.l2d x.toInt64)), .second, .unset] [(.double (FP.l2d x.toInt64))]))) (fun _ zz => XS.dloadN Xt205.here hx rfl (hb hby d10_21) rfl zz) ?_
  obtain ⟨Tt206, Xt206, et206, stt206⟩ := natS Xt205 hx hZ (y := (⟨"java/lang/Math", "abs", "(D)D"⟩ : MethodName)) hown (hw _ (List.mem_of_getElem? (i := 74) rfl)) (hw _ (List.mem_of_getElem? (i := 72) rfl)) (hw _ (List.mem_of_getElem? (i := 61) rfl)) (hw _ (List.mem_of_getElem? (i := 73) rfl)) (by decide) et205 (W := 0) (fun hc => Jvm.Free.Fl.Abs.absD_pays (W := 0) (FP.l2d x.toInt64) hc (by decide) (by decide)) (g := (mkF m 22 #[.val (.double (FP.l2d x.toInt64)), .second, .unset] [(.double (FP.l2d x.toInt64))])) rfl (by rw [hml]; rfl) (argsL := [(.double (FP.l2d x.toInt64))]) (rest := []) (own_lenOf own_pDD rfl) rfl (by show 2 * 0 + _ ≤ _; exact Nat.le_of_eq rfl) (hb hby d10_22) (by decide) (by decide) ⟨rfl, nn_w rfl⟩ (congrArg Value.double (own_abs_and x))
  refine Gl.st (U' := (Tt206.setTop (mkF m 25 #[.val (.double (FP.l2d x.toInt64)), .second, .unset] [(.double (FP.l2d (own_abs x)))]))) stt206 ?_
  refine Gl.st (U' := (Tt206.setTop (mkF m 28 #[.val (.double (FP.l2d x.toInt64)), .second, .unset] [(.double (4886405595696988160 : UInt64)), (.double (FP.l2d (own_abs x)))]))) (Xt206.ldc2DoubleC hx hown (mvT hZ (hw _ (List.mem_of_getElem? (i := 75) rfl))) (g := (mkF m 25 #[.val (.double (FP.l2d x.toInt64)), .second, .unset] [(.double (FP.l2d (own_abs x)))])) rfl (hb hby d10_25)) ?_
  refine Gl.st (U' := (Tt206.setTop (mkF m 29 #[.val (.double (FP.l2d x.toInt64)), .second, .unset] [(.int (-1 : Int32))]))) (fun _ zz => XS.dcmpS Xt206.here hx rfl (hb hby d10_28) rfl (own_big x) zz) ?_
  refine Gl.st (U' := (Tt206.setTop (mkF m 32 #[.val (.double (FP.l2d x.toInt64)), .second, .unset] []))) (fun _ zz => XS.ifNo Xt206.here hx rfl (hb hby d10_29) rfl ((if0 _ _).trans (tlt (by decide)).2.1) zz) ?_
  obtain ⟨Tt207, ht207, Xt207, et207, Et207, At207, Dt207, Mt207, stt207⟩ := newO Xt206 hx hZ hown (hw _ (List.mem_of_getElem? (i := 76) rfl)) (hw _ (List.mem_of_getElem? (i := 77) rfl)) (hw _ (List.mem_of_getElem? (i := 78) rfl)) et206 (g := (mkF m 32 #[.val (.double (FP.l2d x.toInt64)), .second, .unset] [])) rfl (hb hby d10_32) (by decide) (by decide)
  obtain ⟨at207, gt207⟩ : ∃ z, z = h0.size := ⟨_, rfl⟩
  rw [← gt207] at At207 Dt207 Mt207 stt207
  refine Gl.st (U' := (Tt207.setTop (mkF m 35 #[.val (.double (FP.l2d x.toInt64)), .second, .unset] [(.ref at207)]))) stt207 ?_
  have gat208 := (show n0 ≤ at207 by rw [gt207]; exact Nat.le_trans (Nat.le_of_eq O0.1.symm) O0.2.1)
  have kgt209 := (show h0.size ≤ at207 by rw [gt207]; exact P0.1)
  have Pt210 := Keep.ext P0 Et207
  have Ot211 := Old.ext O0 Et207
  have Kt212 := own_K_new Mt207
  refine Gl.st (U' := (Tt207.setTop (mkF m 36 #[.val (.double (FP.l2d x.toInt64)), .second, .unset] [(.ref at207), (.ref at207)]))) (fun _ zz => XS.dup Xt207.here hx rfl (hb hby d10_35) rfl rfl zz) ?_
  refine Gl.st (U' := (Tt207.setTop (mkF m 37 #[.val (.double (FP.l2d x.toInt64)), .second, .unset] [(.double (FP.l2d x.toInt64)), (.ref at207), (.ref at207)]))) (fun _ zz => XS.dloadN Xt207.here hx rfl (hb hby d10_36) rfl zz) ?_
  refine Gl.st (U' := (Tt207.setTop (mkF m 38 #[.val (.double (FP.l2d x.toInt64)), .second, .unset] [(.long x.toInt64), (.ref at207), (.ref at207)]))) (fun _ zz => XS.d2lS Xt207.here hx rfl (hb hby d10_37) rfl (d2l_w (own_b53 x)) zz) ?_
  refine gCallS Xt207 hx hZ (y := (⟨"java/math/BigInteger", "valueOf", "(J)Ljava/math/BigInteger;"⟩ : MethodName)) hown (hw _ (List.mem_of_getElem? (i := 79) rfl)) (hw _ (List.mem_of_getElem? (i := 80) rfl)) (hw _ (List.mem_of_getElem? (i := 81) rfl)) (hw _ (List.mem_of_getElem? (i := 82) rfl)) (by decide) (own_bval l Z a0 hw ht207 n0 Ot211 hfit zv hzv SZ pa na pc nc SP SN AP AN zP zN x.toInt64) et207 (by decide) (W := 2) (by decide) (by decide) (by decide) (g := (mkF m 38 #[.val (.double (FP.l2d x.toInt64)), .second, .unset] [(.long x.toInt64), (.ref at207), (.ref at207)])) rfl (by rw [hml]; rfl) (argsL := [(.long x.toInt64)]) (rest := [(.ref at207), (.ref at207)]) (own_lenOf own_pJB rfl) rfl rfl (by show 2 * 0 + _ ≤ _; exact Nat.le_of_eq rfl) (hb hby d10_38) ?_
  rintro _ Tt213 Lt213 Xt213 ⟨u, rfl, hu, Nt213, Pt213⟩
  show Gl p e below _ (Tt213.setTop (mkF m 41 #[.val (.double (FP.l2d x.toInt64)), .second, .unset] [u, (.ref at207), (.ref at207)]))
  have Nt214 := Fr.app NF0 Nt213
  have Et215 := Exa.keep At207 Pt213
  have Kt216 := own_K_keep Pt213 Kt212
  have Pt217 := Keep.trans Pt210 Pt213 (fun z hz => nomatch hz)
  have Ot218 := Old.keep Ot211 Pt213 all0
  refine gCallI Xt213 hx hZ (y := (⟨"com/example/ironbound_models/ironboundmodels/interpreter/IntegerValue", "<init>", "(Ljava/math/BigInteger;)V"⟩ : MethodName)) rfl hown (hw _ (List.mem_of_getElem? (i := 85) rfl)) (hw _ (List.mem_of_getElem? (i := 86) rfl)) (hw _ (List.mem_of_getElem? (i := 78) rfl)) (hw _ (List.mem_of_getElem? (i := 87) rfl)) (by decide) (own_iini l Z a0 hw Tt213.heap n0 at207 gat208 Et215 Kt216 u hu) (rfl : Tt213.heap = Tt213.heap) (by decide) (W := 1) (by decide) (by decide) (by decide) (g := (mkF m 41 #[.val (.double (FP.l2d x.toInt64)), .second, .unset] [u, (.ref at207), (.ref at207)])) rfl (by rw [hml]; rfl) (argsL := [u]) (rest := [(.ref at207)]) (own_lenOf own_pBI rfl) rfl rfl (by show 2 * 0 + _ ≤ _; exact Nat.le_of_eq rfl) (hb hby d10_41) ?_
  rintro _ Tt219 Lt219 Xt219 ⟨rfl, Nt219, Pt219, Et219⟩
  show Gl p e below _ (Tt219.setTop (mkF m 44 #[.val (.double (FP.l2d x.toInt64)), .second, .unset] [(.ref at207)]))
  have Nt220 := Fr.app Nt214 Nt219
  have Pt221 := Keep.trans Pt217 Pt219 (fun z hz => by rcases List.mem_singleton.mp hz with rfl; exact (Or.inr kgt209))
  have Ot222 := Old.keep Ot218 Pt219 (allS gat208 all0)
  refine Gl.st (U' := (Tt219.setTop (mkF m 45 #[.val (.double (FP.l2d x.toInt64)), .second, .val (.ref at207)] []))) (fun _ zz => XS.astoreN Xt219.here hx rfl (hb hby d10_44) rfl rfl (l' := #[.val (.double (FP.l2d x.toInt64)), .second, .val (.ref at207)]) rfl zz) ?_
  refine Gl.st (U' := (Tt219.setTop (mkF m 67 #[.val (.double (FP.l2d x.toInt64)), .second, .val (.ref at207)] []))) (fun _ zz => XS.goto Xt219.here hx rfl (pc0 := 45) (pc' := 67) rfl (hb hby d10_45) (by decide) (by decide) zz) ?_
  refine Gl.st (U' := (Tt219.setTop (mkF m 68 #[.val (.double (FP.l2d x.toInt64)), .second, .val (.ref at207)] [(.ref at207)]))) (fun _ zz => XS.aloadN Xt219.here hx rfl (hb hby d10_67) rfl rfl zz) ?_
  exact Gl.retA Xt219 hx hret rfl hlk rfl (hb hby d10_68) ⟨_, rfl, Et219, by simpa using Nt220, Pt221⟩ (by decide) (by decide)
theorem own_c255 (x : Int32) : ¬ (255 : Int32) < (x &&& (255 : Int32)).toUInt32.toUInt16.toUInt32.toInt32 := by
  have h1 := c_and x 255 (by decide)
  have h2 := c_i2c (x &&& 255)
  rw [Int32.lt_iff_toInt_lt]
  rw [show (255 : Int32).toInt = 255 from rfl] at h1 ⊢
  omega
theorem d7_0 : decode jdk_43_method_3_code 0 = .ok (.iload_n 0, 1) := by decide +kernel
theorem d7_1 : decode jdk_43_method_3_code 1 = .ok (.sipush 255, 3) := by decide +kernel
theorem d7_4 : decode jdk_43_method_3_code 4 = .ok (.if_icmp .gt 7, 3) := by decide +kernel
theorem d7_7 : decode jdk_43_method_3_code 7 = .ok (.iconst 1, 1) := by decide +kernel
theorem d7_8 : decode jdk_43_method_3_code 8 = .ok (.goto 4, 3) := by decide +kernel
theorem d7_11 : decode jdk_43_method_3_code 11 = .ok (.iconst 0, 1) := by decide +kernel
theorem d7_12 : decode jdk_43_method_3_code 12 = .ok (.ireturn, 1) := by decide +kernel
set_option maxRecDepth 65536 in
set_option maxHeartbeats 40000000 in
theorem own_cen (l : Launch) (Z : State) (a0 : Array Value) (hw : ∀ d ∈ tables_1, d.before a0 Z = true) (h0 : Heap) (cc : Int32) (hc : ¬ (255 : Int32) < cc) :
    Con [] l Z (⟨"java/lang/StringLatin1", "canEncode", "(C)Z"⟩ : MethodName) jdk_43_method_3_code 1 (Option.some Jvm.ClassFile.FieldType.boolean) ({ frames := 0, cells := 0, slots := 0, locals := 0 } : Room) #[(.int cc)] h0 (fun v h L => v = some (.int 1) ∧ L = [] ∧ h = h0) := by
  refine Con.of (Ls := #[.val (.int cc)]) (by first | exact plainFor_of_name (by first | (simp [plainName, overriddenIn]; done) | decide +kernel) | decide +kernel) (fun m => by first | (simp [entryFrame, mkF, argsToLocals, Value.category]; done) | (simp [entryFrame, mkF, argsToLocals, Value.category, maxLocals]; done) | rfl) ?_
  intro p e s m below meth c T0 hx hby hml hown hnm hret hlk hZ e0 X0
  refine Gl.st (U' := (T0.setTop (mkF m 1 #[.val (.int cc)] [(.int cc)]))) (fun _ zz => XS.iloadN X0.here hx rfl (hb hby d7_0) rfl zz) ?_
  refine Gl.st (U' := (T0.setTop (mkF m 4 #[.val (.int cc)] [(.int (255 : Int32)), (.int cc)]))) (fun _ zz => XS.sipush X0.here hx rfl (hb hby d7_1) zz) ?_
  refine Gl.st (U' := (T0.setTop (mkF m 7 #[.val (.int cc)] []))) (fun _ zz => XS.icmpNo X0.here hx rfl (hb hby d7_4) rfl (flt hc).2.2.1 zz) ?_
  refine Gl.st (U' := (T0.setTop (mkF m 8 #[.val (.int cc)] [(.int (1 : Int32))]))) (fun _ zz => XS.iconst X0.here hx rfl (hb hby d7_7) zz) ?_
  refine Gl.st (U' := (T0.setTop (mkF m 12 #[.val (.int cc)] [(.int (1 : Int32))]))) (fun _ zz => XS.goto X0.here hx rfl (pc0 := 8) (pc' := 12) rfl (hb hby d7_8) (by decide) (by decide) zz) ?_
  exact Gl.retZ X0 hx hret hlk (hb hby d7_12) (Or.inr rfl) ⟨rfl, rfl, e0⟩ (by decide) (by decide)
theorem d8_0 : decode jdk_43_method_46_code 0 = .ok (.iconst 1, 1) := by decide +kernel
theorem d8_1 : decode jdk_43_method_46_code 1 = .ok (.newarray .byte, 2) := by decide +kernel
theorem d8_3 : decode jdk_43_method_46_code 3 = .ok (.dup, 1) := by decide +kernel
theorem d8_4 : decode jdk_43_method_46_code 4 = .ok (.iconst 0, 1) := by decide +kernel
theorem d8_5 : decode jdk_43_method_46_code 5 = .ok (.iload_n 0, 1) := by decide +kernel
theorem d8_6 : decode jdk_43_method_46_code 6 = .ok (.i2b, 1) := by decide +kernel
theorem d8_7 : decode jdk_43_method_46_code 7 = .ok (.bastore, 1) := by decide +kernel
theorem d8_8 : decode jdk_43_method_46_code 8 = .ok (.areturn, 1) := by decide +kernel
set_option maxRecDepth 65536 in
set_option maxHeartbeats 40000000 in
theorem own_tob (l : Launch) (Z : State) (a0 : Array Value) (hw : ∀ d ∈ tables_1, d.before a0 Z = true) (h0 : Heap) (n0 : Nat) (O0 : Old Z n0 h0) (cc : Int32) :
    Con [] l Z (⟨"java/lang/StringLatin1", "toBytes", "(C)[B"⟩ : MethodName) jdk_43_method_46_code 1 (Option.some (Jvm.ClassFile.FieldType.array Jvm.ClassFile.FieldType.byte)) ({ frames := 0, cells := 1, slots := 1, locals := 0 } : Room) #[(.int cc)] h0 (fun v h L => ∃ r, v = some (.ref r) ∧ Fr n0 L ∧ Keep h0 h []) := by
  refine Con.of (Ls := #[.val (.int cc)]) (by first | exact plainFor_of_name (by first | (simp [plainName, overriddenIn]; done) | decide +kernel) | decide +kernel) (fun m => by first | (simp [entryFrame, mkF, argsToLocals, Value.category]; done) | (simp [entryFrame, mkF, argsToLocals, Value.category, maxLocals]; done) | rfl) ?_
  intro p e s m below meth c T0 hx hby hml hown hnm hret hlk hZ e0 X0
  have NF0 := Fr.nil n0
  have P0 : Keep h0 h0 [] := Keep.refl _ _
  refine Gl.st (U' := (T0.setTop (mkF m 1 #[.val (.int cc)] [(.int (1 : Int32))]))) (fun _ zz => XS.iconst X0.here hx rfl (hb hby d8_0) zz) ?_
  obtain ⟨Tt223, ht223, kt223, Xt223, et223, Et223, At223, stt223⟩ := newP X0 hx hZ (hw _ (List.mem_of_getElem? (i := 44) rfl)) e0 (g := (mkF m 1 #[.val (.int cc)] [(.int (1 : Int32))])) rfl (hb hby d8_1) rfl (by decide : ¬ ((1 : Int32) < (0 : Int32))) (cap := 1) (by decide) (by decide) (by decide) (by decide)
  obtain ⟨at223, gt223⟩ : ∃ z, z = h0.size := ⟨_, rfl⟩
  rw [← gt223] at At223 stt223
  refine Gl.st (U' := (Tt223.setTop (mkF m 3 #[.val (.int cc)] [(.ref at223)]))) stt223 ?_
  have gat224 := (show n0 ≤ at223 by rw [gt223]; exact Nat.le_trans (Nat.le_of_eq O0.1.symm) O0.2.1)
  have kgt225 := (show h0.size ≤ at223 by rw [gt223]; exact P0.1)
  have Pt226 := Keep.ext P0 Et223
  have Ot227 := Old.ext O0 Et223
  have Vt228 := (Arv.new At223 (by decide) : Arv Z ht223 at223 kt223 .byte (1 : Int32) [] (.int (0 : Int32)))
  have Vt229 := (Arv.pad Vt228 (pad_rep [] (.int (0 : Int32)) 1) : Arv Z ht223 at223 kt223 .byte (1 : Int32) [(.int (0 : Int32))] (.int (0 : Int32)))
  refine Gl.st (U' := (Tt223.setTop (mkF m 4 #[.val (.int cc)] [(.ref at223), (.ref at223)]))) (fun _ zz => XS.dup Xt223.here hx rfl (hb hby d8_3) rfl rfl zz) ?_
  refine Gl.st (U' := (Tt223.setTop (mkF m 5 #[.val (.int cc)] [(.int (0 : Int32)), (.ref at223), (.ref at223)]))) (fun _ zz => XS.iconst Xt223.here hx rfl (hb hby d8_4) zz) ?_
  refine Gl.st (U' := (Tt223.setTop (mkF m 6 #[.val (.int cc)] [(.int cc), (.int (0 : Int32)), (.ref at223), (.ref at223)]))) (fun _ zz => XS.iloadN Xt223.here hx rfl (hb hby d8_5) rfl zz) ?_
  refine Gl.st (U' := (Tt223.setTop (mkF m 7 #[.val (.int cc)] [(.int (cc.toInt8.toInt32)), (.int (0 : Int32)), (.ref at223), (.ref at223)]))) (fun _ zz => XT.i2b Xt223.here hx rfl (hb hby d8_6) rfl zz) ?_
  obtain ⟨ct230, At230, qt230, St230, Mt230, Ht230, Ut230⟩ := id Vt229
  obtain ⟨Tt230, ht230, Xt230, et230, Wt230, stt230⟩ := stB Xt223 hx hZ et223 At230 (j := (0 : Int32)) (inb_of St230 ⟨by decide, by decide⟩) (g := (mkF m 7 #[.val (.int cc)] [(.int (cc.toInt8.toInt32)), (.int (0 : Int32)), (.ref at223), (.ref at223)])) rfl rfl (hb hby d8_7)
  refine Gl.st (U' := (Tt230.setTop (mkF m 8 #[.val (.int cc)] [(.ref at223)]))) stt230 ?_
  have Nt231 := Fr.snoc Xt230 NF0 gat224
  have Vt232 := (Arv.set At230 qt230 St230 Mt230 Ht230 Ut230 (fits_nar_byte _) Wt230 0 rfl (Nat.le_of_ble_eq_true rfl) : Arv Z ht230 at223 kt223 .byte (1 : Int32) [(.int (nar .byte (cc.toInt8.toInt32)))] (.int (0 : Int32)))
  have Pt233 := Keep.wr Pt226 Wt230 (Or.inr kgt225)
  have Ot234 := Old.wr Ot227 Wt230 gat224
  exact Gl.retA Xt230 hx hret rfl hlk rfl (hb hby d8_8) (by rw [et230]; exact ⟨_, rfl, Nt231, Pt233⟩) (by decide) (by decide)
theorem d9_0 : decode jdk_42_method_151_code 0 = .ok (.aload_n 0, 1) := by decide +kernel
theorem d9_1 : decode jdk_42_method_151_code 1 = .ok (.invokespecial 1, 3) := by decide +kernel
theorem d9_4 : decode jdk_42_method_151_code 4 = .ok (.aload_n 0, 1) := by decide +kernel
theorem d9_5 : decode jdk_42_method_151_code 5 = .ok (.aload_n 1, 1) := by decide +kernel
theorem d9_6 : decode jdk_42_method_151_code 6 = .ok (.putfield 9, 3) := by decide +kernel
theorem d9_9 : decode jdk_42_method_151_code 9 = .ok (.aload_n 0, 1) := by decide +kernel
theorem d9_10 : decode jdk_42_method_151_code 10 = .ok (.iload_n 2, 1) := by decide +kernel
theorem d9_11 : decode jdk_42_method_151_code 11 = .ok (.putfield 15, 3) := by decide +kernel
theorem d9_14 : decode jdk_42_method_151_code 14 = .ok (.return_, 1) := by decide +kernel
set_option maxRecDepth 65536 in
set_option maxHeartbeats 40000000 in
theorem own_sini (l : Launch) (Z : State) (a0 : Array Value) (hw : ∀ d ∈ tables_1, d.before a0 Z = true) (h0 : Heap) (n0 : Nat) (a : Addr) (ga : n0 ≤ a) (E0 : Exa Z h0 a "java/lang/String") (K0 : own_K h0 a) (bb : Addr) :
    Con [] l Z (⟨"java/lang/String", "<init>", "([BB)V"⟩ : MethodName) jdk_42_method_151_code 3 none ({ frames := 1, cells := 0, slots := 0, locals := 12 } : Room) #[(.ref a), (.ref bb), (.int (0 : Int32))] h0 (fun v h L => v = none ∧ Fr n0 L ∧ Keep h0 h [a] ∧ Exa Z h a "java/lang/String") := by
  refine Con.of (Ls := #[.val (.ref a), .val (.ref bb), .val (.int (0 : Int32))]) (by first | exact plainFor_of_name (by first | (simp [plainName, overriddenIn]; done) | decide +kernel) | decide +kernel) (fun m => by first | (simp [entryFrame, mkF, argsToLocals, Value.category]; done) | (simp [entryFrame, mkF, argsToLocals, Value.category, maxLocals]; done) | rfl) ?_
  intro p e s m below meth c T0 hx hby hml hown hnm hret hlk hZ e0 X0
  have NF0 := Fr.nil n0
  have P0 : Keep h0 h0 [a] := Keep.refl _ _
  refine Gl.st (U' := (T0.setTop (mkF m 1 #[.val (.ref a), .val (.ref bb), .val (.int (0 : Int32))] [(.ref a)]))) (fun _ zz => XS.aloadN X0.here hx rfl (hb hby d9_0) rfl rfl zz) ?_
  obtain ⟨Tt235, Xt235, et235, stt235⟩ := initO X0 hx hZ hown (hw _ (List.mem_of_getElem? (i := 49) rfl)) (hw _ (List.mem_of_getElem? (i := 19) rfl)) (hw _ (List.mem_of_getElem? (i := 20) rfl)) e0 (g := (mkF m 1 #[.val (.ref a), .val (.ref bb), .val (.int (0 : Int32))] [(.ref a)])) rfl (by rw [hml]; rfl) rfl (hb hby d9_1) (by decide) (W := 0) (by show 2 * 0 + _ ≤ _; exact Nat.le_of_eq rfl) (by decide)
  refine Gl.st (U' := (Tt235.setTop (mkF m 4 #[.val (.ref a), .val (.ref bb), .val (.int (0 : Int32))] []))) stt235 ?_
  refine Gl.st (U' := (Tt235.setTop (mkF m 5 #[.val (.ref a), .val (.ref bb), .val (.int (0 : Int32))] [(.ref a)]))) (fun _ zz => XS.aloadN Xt235.here hx rfl (hb hby d9_4) rfl rfl zz) ?_
  refine Gl.st (U' := (Tt235.setTop (mkF m 6 #[.val (.ref a), .val (.ref bb), .val (.int (0 : Int32))] [(.ref bb), (.ref a)]))) (fun _ zz => XS.aloadN Xt235.here hx rfl (hb hby d9_5) rfl rfl zz) ?_
  obtain ⟨ot236, Ft236⟩ := fld_laid E0 K0 (hw _ (List.mem_of_getElem? (i := 40) rfl)) (Or.inr (hw _ (List.mem_of_getElem? (i := 51) rfl)))
  obtain ⟨Tt237, ht237, Xt237, et237, Wt237, stt237⟩ := putF Xt235 hx hZ hown (host := "") (Or.inl (hw _ (List.mem_of_getElem? (i := 50) rfl))) Via.refl et235 Ft236 E0 (Or.inr ⟨(hw _ (List.mem_of_getElem? (i := 51) rfl)), rfl, hnm⟩) (hw _ (List.mem_of_getElem? (i := 40) rfl)) (ty := (.array .byte)) (by decide +kernel) rfl rfl (g := (mkF m 6 #[.val (.ref a), .val (.ref bb), .val (.int (0 : Int32))] [(.ref bb), (.ref a)])) rfl rfl (hb hby d9_6)
  refine Gl.st (U' := (Tt237.setTop (mkF m 9 #[.val (.ref a), .val (.ref bb), .val (.int (0 : Int32))] []))) stt237 ?_
  have Et238 := Exa.wr Wt237 E0
  have Kt239 := own_K_wr Wt237 K0
  have Pt240 := Keep.wr P0 Wt237 (Or.inl (by simp))
  have Nt241 := Fr.snoc Xt237 NF0 ga
  refine Gl.st (U' := (Tt237.setTop (mkF m 10 #[.val (.ref a), .val (.ref bb), .val (.int (0 : Int32))] [(.ref a)]))) (fun _ zz => XS.aloadN Xt237.here hx rfl (hb hby d9_9) rfl rfl zz) ?_
  refine Gl.st (U' := (Tt237.setTop (mkF m 11 #[.val (.ref a), .val (.ref bb), .val (.int (0 : Int32))] [(.int (0 : Int32)), (.ref a)]))) (fun _ zz => XS.iloadN Xt237.here hx rfl (hb hby d9_10) rfl zz) ?_
  obtain ⟨ot242, Ft242⟩ := fld_laid Et238 Kt239 (hw _ (List.mem_of_getElem? (i := 40) rfl)) (Or.inr (hw _ (List.mem_of_getElem? (i := 53) rfl)))
  obtain ⟨Tt243, ht243, Xt243, et243, Wt243, stt243⟩ := putF Xt237 hx hZ hown (host := "") (Or.inl (hw _ (List.mem_of_getElem? (i := 52) rfl))) Via.refl et237 Ft242 Et238 (Or.inr ⟨(hw _ (List.mem_of_getElem? (i := 53) rfl)), rfl, hnm⟩) (hw _ (List.mem_of_getElem? (i := 40) rfl)) (ty := .byte) (by decide +kernel) rfl rfl (g := (mkF m 11 #[.val (.ref a), .val (.ref bb), .val (.int (0 : Int32))] [(.int (0 : Int32)), (.ref a)])) rfl rfl (hb hby d9_11)
  refine Gl.st (U' := (Tt243.setTop (mkF m 14 #[.val (.ref a), .val (.ref bb), .val (.int (0 : Int32))] []))) stt243 ?_
  have Et244 := Exa.wr Wt243 Et238
  have Kt245 := own_K_wr Wt243 Kt239
  have Pt246 := Keep.wr Pt240 Wt243 (Or.inl (by simp))
  have Nt247 := Fr.snoc Xt243 Nt241 ga
  exact Gl.retV Xt243 hx hret hlk (hb hby d9_14) (by rw [et243]; exact ⟨rfl, Nt247, Pt246, Et244⟩) (by decide) (by decide)
theorem d6_0 : decode jdk_42_method_139_code 0 = .ok (.getstatic 38, 3) := by decide +kernel
theorem d6_3 : decode jdk_42_method_139_code 3 = .ok (.ifCond .eq 23, 3) := by decide +kernel
theorem d6_6 : decode jdk_42_method_139_code 6 = .ok (.iload_n 0, 1) := by decide +kernel
theorem d6_7 : decode jdk_42_method_139_code 7 = .ok (.invokestatic 1015, 3) := by decide +kernel
theorem d6_10 : decode jdk_42_method_139_code 10 = .ok (.ifCond .eq 16, 3) := by decide +kernel
theorem d6_13 : decode jdk_42_method_139_code 13 = .ok (.new 10, 3) := by decide +kernel
theorem d6_16 : decode jdk_42_method_139_code 16 = .ok (.dup, 1) := by decide +kernel
theorem d6_17 : decode jdk_42_method_139_code 17 = .ok (.iload_n 0, 1) := by decide +kernel
theorem d6_18 : decode jdk_42_method_139_code 18 = .ok (.invokestatic 1018, 3) := by decide +kernel
theorem d6_21 : decode jdk_42_method_139_code 21 = .ok (.iconst 0, 1) := by decide +kernel
theorem d6_22 : decode jdk_42_method_139_code 22 = .ok (.invokespecial 209, 3) := by decide +kernel
theorem d6_25 : decode jdk_42_method_139_code 25 = .ok (.areturn, 1) := by decide +kernel
theorem d6_26 : decode jdk_42_method_139_code 26 = .ok (.new 10, 3) := by decide +kernel
theorem d6_29 : decode jdk_42_method_139_code 29 = .ok (.dup, 1) := by decide +kernel
theorem d6_30 : decode jdk_42_method_139_code 30 = .ok (.iload_n 0, 1) := by decide +kernel
theorem d6_31 : decode jdk_42_method_139_code 31 = .ok (.invokestatic 1021, 3) := by decide +kernel
theorem d6_34 : decode jdk_42_method_139_code 34 = .ok (.iconst 1, 1) := by decide +kernel
theorem d6_35 : decode jdk_42_method_139_code 35 = .ok (.invokespecial 209, 3) := by decide +kernel
theorem d6_38 : decode jdk_42_method_139_code 38 = .ok (.areturn, 1) := by decide +kernel
set_option maxRecDepth 65536 in
set_option maxHeartbeats 40000000 in
theorem own_svof (l : Launch) (Z : State) (a0 : Array Value) (hw : ∀ d ∈ tables_1, d.before a0 Z = true) (h0 : Heap) (n0 : Nat) (O0 : Old Z n0 h0) (G1 : Int32) (SC : Sta Z Z.heap "java/lang/String" "COMPACT_STRINGS" "Z" (.int G1)) (PC : ¬ G1 = 0) (cc : Int32) (hcc : ¬ (255 : Int32) < cc) :
    Con [] l Z (⟨"java/lang/String", "valueOf", "(C)Ljava/lang/String;"⟩ : MethodName) jdk_42_method_139_code 1 (Option.some (Jvm.ClassFile.FieldType.object "java/lang/String")) ({ frames := 2, cells := 2, slots := 5, locals := 30 } : Room) #[(.int cc)] h0 (fun v h L => ∃ r, v = some (.ref r) ∧ Exa Z h r "java/lang/String" ∧ Fr n0 L ∧ Keep h0 h []) := by
  refine Con.of (Ls := #[.val (.int cc)]) (by first | exact plainFor_of_name (by first | (simp [plainName, overriddenIn]; done) | decide +kernel) | decide +kernel) (fun m => by first | (simp [entryFrame, mkF, argsToLocals, Value.category]; done) | (simp [entryFrame, mkF, argsToLocals, Value.category, maxLocals]; done) | rfl) ?_
  intro p e s m below meth c T0 hx hby hml hown hnm hret hlk hZ e0 X0
  have NF0 := Fr.nil n0
  have P0 : Keep h0 h0 [] := Keep.refl _ _
  obtain ⟨Tt248, Xt248, et248, stt248⟩ := getS2 X0 hx hZ hown (host := "") (Or.inl (hw _ (List.mem_of_getElem? (i := 34) rfl))) Via.refl e0 (SC.ext O0.2) (g := (mkF m 0 #[.val (.int cc)] [])) rfl (hb hby d6_0)
  refine Gl.st (U' := (Tt248.setTop (mkF m 3 #[.val (.int cc)] [(.int G1)]))) stt248 ?_
  refine Gl.st (U' := (Tt248.setTop (mkF m 6 #[.val (.int cc)] []))) (fun _ zz => XS.ifNo Xt248.here hx rfl (hb hby d6_3) rfl ((if0 _ _).trans (feq PC).1) zz) ?_
  refine Gl.st (U' := (Tt248.setTop (mkF m 7 #[.val (.int cc)] [(.int cc)]))) (fun _ zz => XS.iloadN Xt248.here hx rfl (hb hby d6_6) rfl zz) ?_
  refine gCallS Xt248 hx hZ (y := (⟨"java/lang/StringLatin1", "canEncode", "(C)Z"⟩ : MethodName)) hown (hw _ (List.mem_of_getElem? (i := 35) rfl)) (hw _ (List.mem_of_getElem? (i := 36) rfl)) (hw _ (List.mem_of_getElem? (i := 37) rfl)) (hw _ (List.mem_of_getElem? (i := 38) rfl)) (by decide) (own_cen l Z a0 hw h0 cc hcc) et248 (by decide) (W := 0) (by decide) (by decide) (by decide) (g := (mkF m 7 #[.val (.int cc)] [(.int cc)])) rfl (by rw [hml]; rfl) (argsL := [(.int cc)]) (rest := []) (own_lenOf own_pCZ rfl) rfl rfl (by show 2 * 0 + _ ≤ _; exact Nat.le_of_eq rfl) (hb hby d6_7) ?_
  rintro _ Tt249 Lt249 Xt249 ⟨rfl, rfl, et249⟩
  show Gl p e below _ (Tt249.setTop (mkF m 10 #[.val (.int cc)] [(.int (1 : Int32))]))
  refine Gl.st (U' := (Tt249.setTop (mkF m 13 #[.val (.int cc)] []))) (fun _ zz => XS.ifNo Xt249.here hx rfl (hb hby d6_10) rfl ((if0 _ _).trans (feq (by decide)).1) zz) ?_
  obtain ⟨Tt250, ht250, Xt250, et250, Et250, At250, Dt250, Mt250, stt250⟩ := newO Xt249 hx hZ hown (hw _ (List.mem_of_getElem? (i := 39) rfl)) (hw _ (List.mem_of_getElem? (i := 40) rfl)) (hw _ (List.mem_of_getElem? (i := 32) rfl)) et249 (g := (mkF m 13 #[.val (.int cc)] [])) rfl (hb hby d6_13) (by decide) (by decide)
  obtain ⟨at250, gt250⟩ : ∃ z, z = h0.size := ⟨_, rfl⟩
  rw [← gt250] at At250 Dt250 Mt250 stt250
  refine Gl.st (U' := (Tt250.setTop (mkF m 16 #[.val (.int cc)] [(.ref at250)]))) stt250 ?_
  have gat251 := (show n0 ≤ at250 by rw [gt250]; exact Nat.le_trans (Nat.le_of_eq O0.1.symm) O0.2.1)
  have kgt252 := (show h0.size ≤ at250 by rw [gt250]; exact P0.1)
  have Pt253 := Keep.ext P0 Et250
  have Ot254 := Old.ext O0 Et250
  have Kt255 := own_K_new Mt250
  refine Gl.st (U' := (Tt250.setTop (mkF m 17 #[.val (.int cc)] [(.ref at250), (.ref at250)]))) (fun _ zz => XS.dup Xt250.here hx rfl (hb hby d6_16) rfl rfl zz) ?_
  refine Gl.st (U' := (Tt250.setTop (mkF m 18 #[.val (.int cc)] [(.int cc), (.ref at250), (.ref at250)]))) (fun _ zz => XS.iloadN Xt250.here hx rfl (hb hby d6_17) rfl zz) ?_
  refine gCallS Xt250 hx hZ (y := (⟨"java/lang/StringLatin1", "toBytes", "(C)[B"⟩ : MethodName)) hown (hw _ (List.mem_of_getElem? (i := 41) rfl)) (hw _ (List.mem_of_getElem? (i := 42) rfl)) (hw _ (List.mem_of_getElem? (i := 37) rfl)) (hw _ (List.mem_of_getElem? (i := 43) rfl)) (by decide) (own_tob l Z a0 hw ht250 n0 Ot254 cc) et250 (by decide) (W := 2) (by decide) (by decide) (by decide) (g := (mkF m 18 #[.val (.int cc)] [(.int cc), (.ref at250), (.ref at250)])) rfl (by rw [hml]; rfl) (argsL := [(.int cc)]) (rest := [(.ref at250), (.ref at250)]) (own_lenOf own_pCB rfl) rfl rfl (by show 2 * 0 + _ ≤ _; exact Nat.le_of_eq rfl) (hb hby d6_18) ?_
  rintro _ Tt256 Lt256 Xt256 ⟨bb, rfl, Nt256, Pt256⟩
  show Gl p e below _ (Tt256.setTop (mkF m 21 #[.val (.int cc)] [(.ref bb), (.ref at250), (.ref at250)]))
  have Nt257 := Fr.app NF0 Nt256
  have Et258 := Exa.keep At250 Pt256
  have Kt259 := own_K_keep Pt256 Kt255
  have Pt260 := Keep.trans Pt253 Pt256 (fun z hz => nomatch hz)
  have Ot261 := Old.keep Ot254 Pt256 all0
  refine Gl.st (U' := (Tt256.setTop (mkF m 22 #[.val (.int cc)] [(.int (0 : Int32)), (.ref bb), (.ref at250), (.ref at250)]))) (fun _ zz => XS.iconst Xt256.here hx rfl (hb hby d6_21) zz) ?_
  refine gCallI Xt256 hx hZ (y := (⟨"java/lang/String", "<init>", "([BB)V"⟩ : MethodName)) rfl hown (hw _ (List.mem_of_getElem? (i := 45) rfl)) (hw _ (List.mem_of_getElem? (i := 46) rfl)) (hw _ (List.mem_of_getElem? (i := 32) rfl)) (hw _ (List.mem_of_getElem? (i := 48) rfl)) (by decide) (own_sini l Z a0 hw Tt256.heap n0 at250 gat251 Et258 Kt259 bb) (rfl : Tt256.heap = Tt256.heap) (by decide) (W := 1) (by decide) (by decide) (by decide) (g := (mkF m 22 #[.val (.int cc)] [(.int (0 : Int32)), (.ref bb), (.ref at250), (.ref at250)])) rfl (by rw [hml]; rfl) (argsL := [(.ref bb), (.int (0 : Int32))]) (rest := [(.ref at250)]) (own_lenOf own_pBB rfl) rfl rfl (by show 2 * 0 + _ ≤ _; exact Nat.le_of_eq rfl) (hb hby d6_22) ?_
  rintro _ Tt262 Lt262 Xt262 ⟨rfl, Nt262, Pt262, Et262⟩
  show Gl p e below _ (Tt262.setTop (mkF m 25 #[.val (.int cc)] [(.ref at250)]))
  have Nt263 := Fr.app Nt257 Nt262
  have Pt264 := Keep.trans Pt260 Pt262 (fun z hz => by rcases List.mem_singleton.mp hz with rfl; exact (Or.inr kgt252))
  have Ot265 := Old.keep Ot261 Pt262 (allS gat251 all0)
  exact Gl.retA Xt262 hx hret rfl hlk rfl (hb hby d6_25) ⟨_, rfl, Et262, by simpa using Nt263, Pt264⟩ (by decide) (by decide)
theorem d5_0 : decode prog_188_method_4_code 0 = .ok (.aload_n 1, 1) := by decide +kernel
theorem d5_1 : decode prog_188_method_4_code 1 = .ok (.instanceof 8, 3) := by decide +kernel
theorem d5_4 : decode prog_188_method_4_code 4 = .ok (.ifCond .eq 22, 3) := by decide +kernel
theorem d5_7 : decode prog_188_method_4_code 7 = .ok (.aload_n 1, 1) := by decide +kernel
theorem d5_8 : decode prog_188_method_4_code 8 = .ok (.checkcast 8, 3) := by decide +kernel
theorem d5_11 : decode prog_188_method_4_code 11 = .ok (.getfield 7, 3) := by decide +kernel
theorem d5_14 : decode prog_188_method_4_code 14 = .ok (.aload_n 0, 1) := by decide +kernel
theorem d5_15 : decode prog_188_method_4_code 15 = .ok (.getfield 7, 3) := by decide +kernel
theorem d5_18 : decode prog_188_method_4_code 18 = .ok (.dcmp .l, 1) := by decide +kernel
theorem d5_19 : decode prog_188_method_4_code 19 = .ok (.ifCond .ne 7, 3) := by decide +kernel
theorem d5_22 : decode prog_188_method_4_code 22 = .ok (.iconst 1, 1) := by decide +kernel
theorem d5_23 : decode prog_188_method_4_code 23 = .ok (.goto 4, 3) := by decide +kernel
theorem d5_26 : decode prog_188_method_4_code 26 = .ok (.iconst 0, 1) := by decide +kernel
theorem d5_27 : decode prog_188_method_4_code 27 = .ok (.ireturn, 1) := by decide +kernel
set_option maxRecDepth 65536 in
set_option maxHeartbeats 40000000 in
theorem own_eq (l : Launch) (Z : State) (a0 : Array Value) (hw : ∀ d ∈ tables_1, d.before a0 Z = true) (h0 : Heap) (a b : Addr) (x y : UInt64) (HA : own_R Z h0 a x) (HB : own_R Z h0 b y) (cw : Int32) (hcw : cmpValue (FP.dcmp y x) .l = cw) :
    Con [] l Z (⟨"com/example/ironbound_models/ironboundmodels/interpreter/RealValue", "equals", "(Ljava/lang/Object;)Z"⟩ : MethodName) prog_188_method_4_code 2 (Option.some Jvm.ClassFile.FieldType.boolean) ({ frames := 0, cells := 0, slots := 0, locals := 0 } : Room) #[(.ref a), (.ref b)] h0 (fun v h L => v = some (.int (own_bi (cw = 0))) ∧ L = [] ∧ h = h0) := by
  refine Con.of (Ls := #[.val (.ref a), .val (.ref b)]) (by first | exact plainFor_of_name (by first | (simp [plainName, overriddenIn]; done) | decide +kernel) | decide +kernel) (fun m => by first | (simp [entryFrame, mkF, argsToLocals, Value.category]; done) | (simp [entryFrame, mkF, argsToLocals, Value.category, maxLocals]; done) | rfl) ?_
  intro p e s m below meth c T0 hx hby hml hown hnm hret hlk hZ e0 X0
  obtain ⟨EA, -, FA⟩ := HA
  obtain ⟨EB, -, FB⟩ := HB
  refine Gl.st (U' := (T0.setTop (mkF m 1 #[.val (.ref a), .val (.ref b)] [(.ref b)]))) (fun _ zz => XS.aloadN X0.here hx rfl (hb hby d5_0) rfl rfl zz) ?_
  obtain ⟨Tt266, Xt266, et266, stt266⟩ := instY X0 hx hZ hown (hw _ (List.mem_of_getElem? (i := 28) rfl)) e0 (Ins.self EB) (g := (mkF m 1 #[.val (.ref a), .val (.ref b)] [(.ref b)])) rfl rfl (hb hby d5_1)
  refine Gl.st (U' := (Tt266.setTop (mkF m 4 #[.val (.ref a), .val (.ref b)] [(.int (1 : Int32))]))) stt266 ?_
  refine Gl.st (U' := (Tt266.setTop (mkF m 7 #[.val (.ref a), .val (.ref b)] []))) (fun _ zz => XS.ifNo Xt266.here hx rfl (hb hby d5_4) rfl ((if0 _ _).trans (feq (by decide)).1) zz) ?_
  refine Gl.st (U' := (Tt266.setTop (mkF m 8 #[.val (.ref a), .val (.ref b)] [(.ref b)]))) (fun _ zz => XS.aloadN Xt266.here hx rfl (hb hby d5_7) rfl rfl zz) ?_
  obtain ⟨Tt267, Xt267, et267, stt267⟩ := castY Xt266 hx hZ hown (hw _ (List.mem_of_getElem? (i := 28) rfl)) et266 (Ins.self EB) (g := (mkF m 8 #[.val (.ref a), .val (.ref b)] [(.ref b)])) rfl rfl (hb hby d5_8)
  refine Gl.st (U' := (Tt267.setTop (mkF m 11 #[.val (.ref a), .val (.ref b)] [(.ref b)]))) stt267 ?_
  obtain ⟨Tt268, Xt268, et268, stt268⟩ := getF Xt267 hx hZ hown (host := "") (Or.inl (hw _ (List.mem_of_getElem? (i := 21) rfl))) Via.refl et267 FB (g := (mkF m 11 #[.val (.ref a), .val (.ref b)] [(.ref b)])) rfl rfl (hb hby d5_11)
  refine Gl.st (U' := (Tt268.setTop (mkF m 14 #[.val (.ref a), .val (.ref b)] [(.double y)]))) stt268 ?_
  refine Gl.st (U' := (Tt268.setTop (mkF m 15 #[.val (.ref a), .val (.ref b)] [(.ref a), (.double y)]))) (fun _ zz => XS.aloadN Xt268.here hx rfl (hb hby d5_14) rfl rfl zz) ?_
  obtain ⟨Tt269, Xt269, et269, stt269⟩ := getF Xt268 hx hZ hown (host := "") (Or.inl (hw _ (List.mem_of_getElem? (i := 21) rfl))) Via.refl et268 FA (g := (mkF m 15 #[.val (.ref a), .val (.ref b)] [(.ref a), (.double y)])) rfl rfl (hb hby d5_15)
  refine Gl.st (U' := (Tt269.setTop (mkF m 18 #[.val (.ref a), .val (.ref b)] [(.double x), (.double y)]))) stt269 ?_
  refine Gl.st (U' := (Tt269.setTop (mkF m 19 #[.val (.ref a), .val (.ref b)] [(.int cw)]))) (fun _ zz => XS.dcmpS Xt269.here hx rfl (hb hby d5_18) rfl hcw zz) ?_
  by_cases q : cw = (0 : Int32)
  · refine Gl.st (U' := (Tt269.setTop (mkF m 22 #[.val (.ref a), .val (.ref b)] []))) (fun _ zz => XS.ifNo Xt269.here hx rfl (hb hby d5_19) rfl ((if0 _ _).trans (teq q).2) zz) ?_
    refine Gl.st (U' := (Tt269.setTop (mkF m 23 #[.val (.ref a), .val (.ref b)] [(.int (1 : Int32))]))) (fun _ zz => XS.iconst Xt269.here hx rfl (hb hby d5_22) zz) ?_
    refine Gl.st (U' := (Tt269.setTop (mkF m 27 #[.val (.ref a), .val (.ref b)] [(.int (1 : Int32))]))) (fun _ zz => XS.goto Xt269.here hx rfl (pc0 := 23) (pc' := 27) rfl (hb hby d5_23) (by decide) (by decide) zz) ?_
    exact Gl.retZ Xt269 hx hret hlk (hb hby d5_27) (Or.inr rfl) ⟨by rw [own_bi_t q], rfl, et269⟩ (by decide) (by decide)
  · refine Gl.st (U' := (Tt269.setTop (mkF m 26 #[.val (.ref a), .val (.ref b)] []))) (fun _ zz => XS.ifYes Xt269.here hx rfl (pc0 := 19) (pc' := 26) rfl (hb hby d5_19) rfl ((if0 _ _).trans (feq q).2) (by decide) (by decide) zz) ?_
    refine Gl.st (U' := (Tt269.setTop (mkF m 27 #[.val (.ref a), .val (.ref b)] [(.int (0 : Int32))]))) (fun _ zz => XS.iconst Xt269.here hx rfl (hb hby d5_26) zz) ?_
    exact Gl.retZ Xt269 hx hret hlk (hb hby d5_27) (Or.inl rfl) ⟨by rw [own_bi_f q], rfl, et269⟩ (by decide) (by decide)
set_option maxRecDepth 65536 in
set_option maxHeartbeats 40000000 in
theorem own_eqn (l : Launch) (Z : State) (a0 : Array Value) (hw : ∀ d ∈ tables_1, d.before a0 Z = true) (h0 : Heap) (a : Addr) :
    Con [] l Z (⟨"com/example/ironbound_models/ironboundmodels/interpreter/RealValue", "equals", "(Ljava/lang/Object;)Z"⟩ : MethodName) prog_188_method_4_code 2 (Option.some Jvm.ClassFile.FieldType.boolean) ({ frames := 0, cells := 0, slots := 0, locals := 0 } : Room) #[(.ref a), .null] h0 (fun v h L => v = some (.int 0) ∧ L = [] ∧ h = h0) := by
  refine Con.of (Ls := #[.val (.ref a), .val .null]) (by first | exact plainFor_of_name (by first | (simp [plainName, overriddenIn]; done) | decide +kernel) | decide +kernel) (fun m => by first | (simp [entryFrame, mkF, argsToLocals, Value.category]; done) | (simp [entryFrame, mkF, argsToLocals, Value.category, maxLocals]; done) | rfl) ?_
  intro p e s m below meth c T0 hx hby hml hown hnm hret hlk hZ e0 X0
  refine Gl.st (U' := (T0.setTop (mkF m 1 #[.val (.ref a), .val .null] [.null]))) (fun _ zz => XS.aloadN X0.here hx rfl (hb hby d5_0) rfl rfl zz) ?_
  refine Gl.st (U' := (T0.setTop (mkF m 4 #[.val (.ref a), .val .null] [(.int (0 : Int32))]))) (Jvm.Stand.instanceofNull X0 hx (g := (mkF m 1 #[.val (.ref a), .val .null] [.null])) rfl rfl (hb hby d5_1)) ?_
  refine Gl.st (U' := (T0.setTop (mkF m 26 #[.val (.ref a), .val .null] []))) (fun _ zz => XS.ifYes X0.here hx rfl (pc0 := 4) (pc' := 26) rfl (hb hby d5_4) rfl ((if0 _ _).trans (teq rfl).1) (by decide) (by decide) zz) ?_
  refine Gl.st (U' := (T0.setTop (mkF m 27 #[.val (.ref a), .val .null] [(.int (0 : Int32))]))) (fun _ zz => XS.iconst X0.here hx rfl (hb hby d5_26) zz) ?_
  exact Gl.retZ X0 hx hret hlk (hb hby d5_27) (Or.inl rfl) ⟨rfl, rfl, e0⟩ (by decide) (by decide)
set_option maxRecDepth 65536 in
set_option maxHeartbeats 40000000 in
theorem own_eqo (l : Launch) (Z : State) (a0 : Array Value) (hw : ∀ d ∈ tables_1, d.before a0 Z = true) (h0 : Heap) (a b : Addr) (C : String) (EB : Exa Z h0 b C) (NO : ∃ c t, Z.vm.findClass C = some c ∧ Z.vm.findClass "com/example/ironbound_models/ironboundmodels/interpreter/RealValue" = some t ∧ Z.vm.assignable c t = false) :
    Con [] l Z (⟨"com/example/ironbound_models/ironboundmodels/interpreter/RealValue", "equals", "(Ljava/lang/Object;)Z"⟩ : MethodName) prog_188_method_4_code 2 (Option.some Jvm.ClassFile.FieldType.boolean) ({ frames := 0, cells := 0, slots := 0, locals := 0 } : Room) #[(.ref a), (.ref b)] h0 (fun v h L => v = some (.int 0) ∧ L = [] ∧ h = h0) := by
  refine Con.of (Ls := #[.val (.ref a), .val (.ref b)]) (by first | exact plainFor_of_name (by first | (simp [plainName, overriddenIn]; done) | decide +kernel) | decide +kernel) (fun m => by first | (simp [entryFrame, mkF, argsToLocals, Value.category]; done) | (simp [entryFrame, mkF, argsToLocals, Value.category, maxLocals]; done) | rfl) ?_
  intro p e s m below meth c T0 hx hby hml hown hnm hret hlk hZ e0 X0
  refine Gl.st (U' := (T0.setTop (mkF m 1 #[.val (.ref a), .val (.ref b)] [(.ref b)]))) (fun _ zz => XS.aloadN X0.here hx rfl (hb hby d5_0) rfl rfl zz) ?_
  obtain ⟨Tt270, Xt270, et270, stt270⟩ := instNo X0 hx hZ hown (hw _ (List.mem_of_getElem? (i := 28) rfl)) e0 EB NO (g := (mkF m 1 #[.val (.ref a), .val (.ref b)] [(.ref b)])) rfl rfl (hb hby d5_1)
  refine Gl.st (U' := (Tt270.setTop (mkF m 4 #[.val (.ref a), .val (.ref b)] [(.int (0 : Int32))]))) stt270 ?_
  refine Gl.st (U' := (Tt270.setTop (mkF m 26 #[.val (.ref a), .val (.ref b)] []))) (fun _ zz => XS.ifYes Xt270.here hx rfl (pc0 := 4) (pc' := 26) rfl (hb hby d5_4) rfl ((if0 _ _).trans (teq rfl).1) (by decide) (by decide) zz) ?_
  refine Gl.st (U' := (Tt270.setTop (mkF m 27 #[.val (.ref a), .val (.ref b)] [(.int (0 : Int32))]))) (fun _ zz => XS.iconst Xt270.here hx rfl (hb hby d5_26) zz) ?_
  exact Gl.retZ Xt270 hx hret hlk (hb hby d5_27) (Or.inl rfl) ⟨rfl, rfl, et270⟩ (by decide) (by decide)
theorem own_one (x : Int32) : x &&& 1 = 0 ∨ x &&& 1 = 1 := by
  have h := c_and x 1 (by decide)
  rw [show (1 : Int32).toInt = 1 from rfl] at h
  rcases (show (x &&& 1).toInt = 0 ∨ (x &&& 1).toInt = 1 by omega) with q | q
  · exact Or.inl (Int32.toInt_inj.mp q)
  · exact Or.inr (Int32.toInt_inj.mp q)
def own_hv (k : Int32) : Int := if k = 1 then 1 else 0
theorem own_final (a b ha hb : Int32) (h1 : ha = 0 ∨ ha = 1) (h2 : hb = 0 ∨ hb = 1) : 2 * b.toInt + own_hv hb = 2 * a.toInt + own_hv ha ↔ (a = b ∧ ha = hb) := by
  have e1 : own_hv 0 = 0 := rfl
  have e2 : own_hv 1 = 1 := rfl
  rcases h1 with rfl | rfl <;> rcases h2 with rfl | rfl <;> simp only [e1, e2]
  · exact ⟨fun z => ⟨Int32.toInt_inj.mp (by omega), trivial⟩, fun z => by rw [z.1]⟩
  · exact ⟨fun z => absurd z (by omega), fun z => absurd z.2 (by decide)⟩
  · exact ⟨fun z => absurd z (by omega), fun z => absurd z.2 (by decide)⟩
  · exact ⟨fun z => ⟨Int32.toInt_inj.mp (by omega), trivial⟩, fun z => by rw [z.1]⟩
set_option maxRecDepth 65536 in
set_option maxHeartbeats 40000000 in
theorem own_law (l : Launch) (Z : State) (a0 : Array Value) (hw : ∀ d ∈ tables_1, d.before a0 Z = true) (h0 : Heap) (n0 : Nat) (O0 : Old Z n0 h0) (hfit : Fit Z) (zv : Value) (hzv : zv.isRef = true) (SZ : Sta Z Z.heap "java/math/BigInteger" "ZERO" "Ljava/math/BigInteger;" zv) (pa na : Addr) (pc nc : Cell) (SP : Sta Z Z.heap "java/math/BigInteger" "posConst" "[Ljava/math/BigInteger;" (.ref pa)) (SN : Sta Z Z.heap "java/math/BigInteger" "negConst" "[Ljava/math/BigInteger;" (.ref na)) (AP : Arr Z Z.heap pa pc (.object "java/math/BigInteger")) (AN : Arr Z Z.heap na nc (.object "java/math/BigInteger")) (zP : pc.slots.size = (17 : Int32).toNatClampNeg) (zN : nc.slots.size = (17 : Int32).toNatClampNeg) (G1 : Int32) (SC : Sta Z Z.heap "java/lang/String" "COMPACT_STRINGS" "Z" (.int G1)) (PC : ¬ G1 = 0) (p0 p1 p2 : Int32) :
    Con tables_1 l Z x code maxLocals ret room_1 #[(.int p0), (.int p1), (.int p2)] h0 (fun v h L => v = some (.int 1) ∧ Fr n0 L) := by
  refine Con.of (Ls := #[.val (.int p0), .val (.int p1), .val (.int p2), .unset, .unset, .unset, .unset, .unset, .unset, .unset, .unset, .unset, .unset]) (by first | exact plainFor_of_name (by first | (simp [plainName, overriddenIn]; done) | decide +kernel) | decide +kernel) (fun m => by first | (simp [entryFrame, mkF, argsToLocals, Value.category]; done) | (simp [entryFrame, mkF, argsToLocals, Value.category, maxLocals]; done) | rfl) ?_
  intro p e s m below meth c T0 hx hby hml hown hnm hret hlk hZ e0 X0
  have hml : c.maxLocals = 13 := hml
  have NF0 := Fr.nil n0
  refine Gl.st (U' := (T0.setTop (mkF m 1 #[.val (.int p0), .val (.int p1), .val (.int p2), .unset, .unset, .unset, .unset, .unset, .unset, .unset, .unset, .unset, .unset] [(.int p2)]))) (fun _ zz => XS.iloadN X0.here hx rfl (hb hby at_0) rfl zz) ?_
  refine Gl.st (U' := (T0.setTop (mkF m 2 #[.val (.int p0), .val (.int p1), .val (.int p2), .unset, .unset, .unset, .unset, .unset, .unset, .unset, .unset, .unset, .unset] [(.int (1 : Int32)), (.int p2)]))) (fun _ zz => XS.iconst X0.here hx rfl (hb hby at_1) zz) ?_
  refine Gl.st (U' := (T0.setTop (mkF m 3 #[.val (.int p0), .val (.int p1), .val (.int p2), .unset, .unset, .unset, .unset, .unset, .unset, .unset, .unset, .unset, .unset] [(.int (p2 &&& (1 : Int32)))]))) (fun _ zz => XS.iand X0.here hx rfl (hb hby at_2) rfl zz) ?_
  have hA1 := own_one p2
  generalize (p2 &&& (1 : Int32)) = fa at hA1 ⊢
  refine Gl.st (U' := (T0.setTop (mkF m 4 #[.val (.int p0), .val (.int p1), .val (.int p2), .val (.int fa), .unset, .unset, .unset, .unset, .unset, .unset, .unset, .unset, .unset] []))) (fun _ zz => XS.istoreN X0.here hx rfl (hb hby at_3) rfl (l' := #[.val (.int p0), .val (.int p1), .val (.int p2), .val (.int fa), .unset, .unset, .unset, .unset, .unset, .unset, .unset, .unset, .unset]) rfl zz) ?_
  refine Gl.st (U' := (T0.setTop (mkF m 5 #[.val (.int p0), .val (.int p1), .val (.int p2), .val (.int fa), .unset, .unset, .unset, .unset, .unset, .unset, .unset, .unset, .unset] [(.int p2)]))) (fun _ zz => XS.iloadN X0.here hx rfl (hb hby at_4) rfl zz) ?_
  refine Gl.st (U' := (T0.setTop (mkF m 6 #[.val (.int p0), .val (.int p1), .val (.int p2), .val (.int fa), .unset, .unset, .unset, .unset, .unset, .unset, .unset, .unset, .unset] [(.int (1 : Int32)), (.int p2)]))) (fun _ zz => XS.iconst X0.here hx rfl (hb hby at_5) zz) ?_
  refine Gl.st (U' := (T0.setTop (mkF m 7 #[.val (.int p0), .val (.int p1), .val (.int p2), .val (.int fa), .unset, .unset, .unset, .unset, .unset, .unset, .unset, .unset, .unset] [(.int (XT.ushr p2 (1 : Int32)))]))) (fun _ zz => XT.iushr X0.here hx rfl (hb hby at_6) rfl zz) ?_
  refine Gl.st (U' := (T0.setTop (mkF m 8 #[.val (.int p0), .val (.int p1), .val (.int p2), .val (.int fa), .unset, .unset, .unset, .unset, .unset, .unset, .unset, .unset, .unset] [(.int (1 : Int32)), (.int (XT.ushr p2 (1 : Int32)))]))) (fun _ zz => XS.iconst X0.here hx rfl (hb hby at_7) zz) ?_
  refine Gl.st (U' := (T0.setTop (mkF m 9 #[.val (.int p0), .val (.int p1), .val (.int p2), .val (.int fa), .unset, .unset, .unset, .unset, .unset, .unset, .unset, .unset, .unset] [(.int ((XT.ushr p2 (1 : Int32)) &&& (1 : Int32)))]))) (fun _ zz => XS.iand X0.here hx rfl (hb hby at_8) rfl zz) ?_
  have hB1 := own_one (XT.ushr p2 (1 : Int32))
  generalize ((XT.ushr p2 (1 : Int32)) &&& (1 : Int32)) = fb at hB1 ⊢
  refine Gl.st (U' := (T0.setTop (mkF m 11 #[.val (.int p0), .val (.int p1), .val (.int p2), .val (.int fa), .val (.int fb), .unset, .unset, .unset, .unset, .unset, .unset, .unset, .unset] []))) (fun _ zz => XS.istore X0.here hx rfl (hb hby at_9) rfl (l' := #[.val (.int p0), .val (.int p1), .val (.int p2), .val (.int fa), .val (.int fb), .unset, .unset, .unset, .unset, .unset, .unset, .unset, .unset]) rfl zz) ?_
  refine Gl.st (U' := (T0.setTop (mkF m 12 #[.val (.int p0), .val (.int p1), .val (.int p2), .val (.int fa), .val (.int fb), .unset, .unset, .unset, .unset, .unset, .unset, .unset, .unset] [(.int p2)]))) (fun _ zz => XS.iloadN X0.here hx rfl (hb hby at_11) rfl zz) ?_
  refine Gl.st (U' := (T0.setTop (mkF m 13 #[.val (.int p0), .val (.int p1), .val (.int p2), .val (.int fa), .val (.int fb), .unset, .unset, .unset, .unset, .unset, .unset, .unset, .unset] [(.int (2 : Int32)), (.int p2)]))) (fun _ zz => XS.iconst X0.here hx rfl (hb hby at_12) zz) ?_
  refine Gl.st (U' := (T0.setTop (mkF m 14 #[.val (.int p0), .val (.int p1), .val (.int p2), .val (.int fa), .val (.int fb), .unset, .unset, .unset, .unset, .unset, .unset, .unset, .unset] [(.int (XT.ushr p2 (2 : Int32)))]))) (fun _ zz => XT.iushr X0.here hx rfl (hb hby at_13) rfl zz) ?_
  refine Gl.st (U' := (T0.setTop (mkF m 16 #[.val (.int p0), .val (.int p1), .val (.int p2), .val (.int fa), .val (.int fb), .unset, .unset, .unset, .unset, .unset, .unset, .unset, .unset] [(.int (1073741823 : Int32)), (.int (XT.ushr p2 (2 : Int32)))]))) (fun _ zz => Jvm.Stand.ldcI (g := (mkF m 14 #[.val (.int p0), .val (.int p1), .val (.int p2), .val (.int fa), .val (.int fb), .unset, .unset, .unset, .unset, .unset, .unset, .unset, .unset] [(.int (XT.ushr p2 (2 : Int32)))])) X0 hx hown (mvT hZ (hw _ (List.mem_of_getElem? (i := 0) rfl))) rfl (hb hby at_14) zz) ?_
  refine Gl.st (U' := (T0.setTop (mkF m 17 #[.val (.int p0), .val (.int p1), .val (.int p2), .val (.int fa), .val (.int fb), .unset, .unset, .unset, .unset, .unset, .unset, .unset, .unset] [(.int ((XT.ushr p2 (2 : Int32)) &&& (1073741823 : Int32)))]))) (fun _ zz => XS.iand X0.here hx rfl (hb hby at_16) rfl zz) ?_
  refine Gl.st (U' := (T0.setTop (mkF m 18 #[.val (.int p0), .val (.int p1), .val (.int p2), .val (.int fa), .val (.int fb), .unset, .unset, .unset, .unset, .unset, .unset, .unset, .unset] [(.int (5 : Int32)), (.int ((XT.ushr p2 (2 : Int32)) &&& (1073741823 : Int32)))]))) (fun _ zz => XS.iconst X0.here hx rfl (hb hby at_17) zz) ?_
  refine Gl.st (U' := (T0.setTop (mkF m 19 #[.val (.int p0), .val (.int p1), .val (.int p2), .val (.int fa), .val (.int fb), .unset, .unset, .unset, .unset, .unset, .unset, .unset, .unset] [(.int (((XT.ushr p2 (2 : Int32)) &&& (1073741823 : Int32)) % (5 : Int32)))]))) (fun _ zz => iremM (g := (mkF m 18 #[.val (.int p0), .val (.int p1), .val (.int p2), .val (.int fa), .val (.int fb), .unset, .unset, .unset, .unset, .unset, .unset, .unset, .unset] [(.int (5 : Int32)), (.int ((XT.ushr p2 (2 : Int32)) &&& (1073741823 : Int32)))])) X0 hx rfl (hb hby at_18) rfl (by decide) zz) ?_
  generalize (((XT.ushr p2 (2 : Int32)) &&& (1073741823 : Int32)) % (5 : Int32)) = kd
  refine Gl.st (U' := (T0.setTop (mkF m 21 #[.val (.int p0), .val (.int p1), .val (.int p2), .val (.int fa), .val (.int fb), .val (.int kd), .unset, .unset, .unset, .unset, .unset, .unset, .unset] []))) (fun _ zz => XS.istore X0.here hx rfl (hb hby at_19) rfl (l' := #[.val (.int p0), .val (.int p1), .val (.int p2), .val (.int fa), .val (.int fb), .val (.int kd), .unset, .unset, .unset, .unset, .unset, .unset, .unset]) rfl zz) ?_
  refine Gl.st (U' := (T0.setTop (mkF m 22 #[.val (.int p0), .val (.int p1), .val (.int p2), .val (.int fa), .val (.int fb), .val (.int kd), .unset, .unset, .unset, .unset, .unset, .unset, .unset] [(.int p0)]))) (fun _ zz => XS.iloadN X0.here hx rfl (hb hby at_21) rfl zz) ?_
  refine Gl.st (U' := (T0.setTop (mkF m 23 #[.val (.int p0), .val (.int p1), .val (.int p2), .val (.int fa), .val (.int fb), .val (.int kd), .unset, .unset, .unset, .unset, .unset, .unset, .unset] [(.double (FP.l2d (p0).toInt64))]))) (fun _ zz => XS.i2dS X0.here hx rfl (hb hby at_22) rfl (i2d_w _) zz) ?_
  refine Gl.st (U' := (T0.setTop (mkF m 25 #[.val (.int p0), .val (.int p1), .val (.int p2), .val (.int fa), .val (.int fb), .val (.int kd), .val (.double (FP.l2d (p0).toInt64)), .second, .unset, .unset, .unset, .unset, .unset] []))) (fun _ zz => XS.dstore X0.here hx rfl (hb hby at_23) rfl (l' := #[.val (.int p0), .val (.int p1), .val (.int p2), .val (.int fa), .val (.int fb), .val (.int kd), .val (.double (FP.l2d (p0).toInt64)), .second, .unset, .unset, .unset, .unset, .unset]) rfl zz) ?_
  refine Gl.st (U' := (T0.setTop (mkF m 26 #[.val (.int p0), .val (.int p1), .val (.int p2), .val (.int fa), .val (.int fb), .val (.int kd), .val (.double (FP.l2d (p0).toInt64)), .second, .unset, .unset, .unset, .unset, .unset] [(.int fa)]))) (fun _ zz => XS.iloadN X0.here hx rfl (hb hby at_25) rfl zz) ?_
  refine Gl.st (U' := (T0.setTop (mkF m 27 #[.val (.int p0), .val (.int p1), .val (.int p2), .val (.int fa), .val (.int fb), .val (.int kd), .val (.double (FP.l2d (p0).toInt64)), .second, .unset, .unset, .unset, .unset, .unset] [(.int (1 : Int32)), (.int fa)]))) (fun _ zz => XS.iconst X0.here hx rfl (hb hby at_26) zz) ?_
  refine Gl.join (α := UInt64) (P := fun dx => val64 dx ≠ .nan ∧ zval b64 (val64 dx) = (2 * p0.toInt + own_hv fa) * own_hu) (f := fun dx => (T0.setTop (mkF m 38 #[.val (.int p0), .val (.int p1), .val (.int p2), .val (.int fa), .val (.int fb), .val (.int kd), .val (.double dx), .second, .unset, .unset, .unset, .unset, .unset] []))) ?_ ?_
  · intro Jdx
    by_cases q : fa = (1 : Int32)
    · refine Gl.st (U' := (T0.setTop (mkF m 30 #[.val (.int p0), .val (.int p1), .val (.int p2), .val (.int fa), .val (.int fb), .val (.int kd), .val (.double (FP.l2d (p0).toInt64)), .second, .unset, .unset, .unset, .unset, .unset] []))) (fun _ zz => XS.icmpNo X0.here hx rfl (hb hby at_27) rfl (teq q).2 zz) ?_
      refine Gl.st (U' := (T0.setTop (mkF m 32 #[.val (.int p0), .val (.int p1), .val (.int p2), .val (.int fa), .val (.int fb), .val (.int kd), .val (.double (FP.l2d (p0).toInt64)), .second, .unset, .unset, .unset, .unset, .unset] [(.double (FP.l2d (p0).toInt64))]))) (fun _ zz => XS.dload X0.here hx rfl (hb hby at_30) rfl zz) ?_
      refine Gl.st (U' := (T0.setTop (mkF m 35 #[.val (.int p0), .val (.int p1), .val (.int p2), .val (.int fa), .val (.int fb), .val (.int kd), .val (.double (FP.l2d (p0).toInt64)), .second, .unset, .unset, .unset, .unset, .unset] [(.double (4602678819172646912 : UInt64)), (.double (FP.l2d (p0).toInt64))]))) (X0.ldc2DoubleC hx hown (mvT hZ (hw _ (List.mem_of_getElem? (i := 1) rfl))) (g := (mkF m 32 #[.val (.int p0), .val (.int p1), .val (.int p2), .val (.int fa), .val (.int fb), .val (.int kd), .val (.double (FP.l2d (p0).toInt64)), .second, .unset, .unset, .unset, .unset, .unset] [(.double (FP.l2d (p0).toInt64))])) rfl (hb hby at_32)) ?_
      refine Gl.st (U' := (T0.setTop (mkF m 36 #[.val (.int p0), .val (.int p1), .val (.int p2), .val (.int fa), .val (.int fb), .val (.int kd), .val (.double (FP.l2d (p0).toInt64)), .second, .unset, .unset, .unset, .unset, .unset] [(.double (FP.dadd (FP.l2d p0.toInt64) own_half))]))) (fun _ zz => XS.daddS X0.here hx rfl (hb hby at_35) rfl (own_noNaN_half p0) rfl zz) ?_
      refine Gl.st (U' := (T0.setTop (mkF m 38 #[.val (.int p0), .val (.int p1), .val (.int p2), .val (.int fa), .val (.int fb), .val (.int kd), .val (.double (FP.dadd (FP.l2d p0.toInt64) own_half)), .second, .unset, .unset, .unset, .unset, .unset] []))) (fun _ zz => XS.dstore X0.here hx rfl (hb hby at_36) rfl (l' := #[.val (.int p0), .val (.int p1), .val (.int p2), .val (.int fa), .val (.int fb), .val (.int kd), .val (.double (FP.dadd (FP.l2d p0.toInt64) own_half)), .second, .unset, .unset, .unset, .unset, .unset]) rfl zz) ?_
      exact Jdx _ ⟨own_nan_half p0, by rw [own_zhalf', q]; rfl⟩
    · refine Gl.st (U' := (T0.setTop (mkF m 38 #[.val (.int p0), .val (.int p1), .val (.int p2), .val (.int fa), .val (.int fb), .val (.int kd), .val (.double (FP.l2d (p0).toInt64)), .second, .unset, .unset, .unset, .unset, .unset] []))) (fun _ zz => XS.icmpYes X0.here hx rfl (pc0 := 27) (pc' := 38) rfl (hb hby at_27) rfl (feq q).2 (by decide) (by decide) zz) ?_
      exact Jdx _ ⟨own_nan_int p0, by rw [own_zint, own_hv, if_neg q, Int.add_zero]⟩
  intro dx hdx
  show Gl p e below _ (T0.setTop (mkF m 38 #[.val (.int p0), .val (.int p1), .val (.int p2), .val (.int fa), .val (.int fb), .val (.int kd), .val (.double dx), .second, .unset, .unset, .unset, .unset, .unset] []))
  refine Gl.st (U' := (T0.setTop (mkF m 39 #[.val (.int p0), .val (.int p1), .val (.int p2), .val (.int fa), .val (.int fb), .val (.int kd), .val (.double dx), .second, .unset, .unset, .unset, .unset, .unset] [(.int p1)]))) (fun _ zz => XS.iloadN X0.here hx rfl (hb hby at_38) rfl zz) ?_
  refine Gl.st (U' := (T0.setTop (mkF m 40 #[.val (.int p0), .val (.int p1), .val (.int p2), .val (.int fa), .val (.int fb), .val (.int kd), .val (.double dx), .second, .unset, .unset, .unset, .unset, .unset] [(.double (FP.l2d (p1).toInt64))]))) (fun _ zz => XS.i2dS X0.here hx rfl (hb hby at_39) rfl (i2d_w _) zz) ?_
  refine Gl.st (U' := (T0.setTop (mkF m 42 #[.val (.int p0), .val (.int p1), .val (.int p2), .val (.int fa), .val (.int fb), .val (.int kd), .val (.double dx), .second, .val (.double (FP.l2d (p1).toInt64)), .second, .unset, .unset, .unset] []))) (fun _ zz => XS.dstore X0.here hx rfl (hb hby at_40) rfl (l' := #[.val (.int p0), .val (.int p1), .val (.int p2), .val (.int fa), .val (.int fb), .val (.int kd), .val (.double dx), .second, .val (.double (FP.l2d (p1).toInt64)), .second, .unset, .unset, .unset]) rfl zz) ?_
  refine Gl.st (U' := (T0.setTop (mkF m 44 #[.val (.int p0), .val (.int p1), .val (.int p2), .val (.int fa), .val (.int fb), .val (.int kd), .val (.double dx), .second, .val (.double (FP.l2d (p1).toInt64)), .second, .unset, .unset, .unset] [(.int fb)]))) (fun _ zz => XS.iload X0.here hx rfl (hb hby at_42) rfl zz) ?_
  refine Gl.st (U' := (T0.setTop (mkF m 45 #[.val (.int p0), .val (.int p1), .val (.int p2), .val (.int fa), .val (.int fb), .val (.int kd), .val (.double dx), .second, .val (.double (FP.l2d (p1).toInt64)), .second, .unset, .unset, .unset] [(.int (1 : Int32)), (.int fb)]))) (fun _ zz => XS.iconst X0.here hx rfl (hb hby at_44) zz) ?_
  refine Gl.join (α := UInt64) (P := fun dy => val64 dy ≠ .nan ∧ zval b64 (val64 dy) = (2 * p1.toInt + own_hv fb) * own_hu) (f := fun dy => (T0.setTop (mkF m 56 #[.val (.int p0), .val (.int p1), .val (.int p2), .val (.int fa), .val (.int fb), .val (.int kd), .val (.double dx), .second, .val (.double dy), .second, .unset, .unset, .unset] []))) ?_ ?_
  · intro Jdy
    by_cases q : fb = (1 : Int32)
    · refine Gl.st (U' := (T0.setTop (mkF m 48 #[.val (.int p0), .val (.int p1), .val (.int p2), .val (.int fa), .val (.int fb), .val (.int kd), .val (.double dx), .second, .val (.double (FP.l2d (p1).toInt64)), .second, .unset, .unset, .unset] []))) (fun _ zz => XS.icmpNo X0.here hx rfl (hb hby at_45) rfl (teq q).2 zz) ?_
      refine Gl.st (U' := (T0.setTop (mkF m 50 #[.val (.int p0), .val (.int p1), .val (.int p2), .val (.int fa), .val (.int fb), .val (.int kd), .val (.double dx), .second, .val (.double (FP.l2d (p1).toInt64)), .second, .unset, .unset, .unset] [(.double (FP.l2d (p1).toInt64))]))) (fun _ zz => XS.dload X0.here hx rfl (hb hby at_48) rfl zz) ?_
      refine Gl.st (U' := (T0.setTop (mkF m 53 #[.val (.int p0), .val (.int p1), .val (.int p2), .val (.int fa), .val (.int fb), .val (.int kd), .val (.double dx), .second, .val (.double (FP.l2d (p1).toInt64)), .second, .unset, .unset, .unset] [(.double (4602678819172646912 : UInt64)), (.double (FP.l2d (p1).toInt64))]))) (X0.ldc2DoubleC hx hown (mvT hZ (hw _ (List.mem_of_getElem? (i := 1) rfl))) (g := (mkF m 50 #[.val (.int p0), .val (.int p1), .val (.int p2), .val (.int fa), .val (.int fb), .val (.int kd), .val (.double dx), .second, .val (.double (FP.l2d (p1).toInt64)), .second, .unset, .unset, .unset] [(.double (FP.l2d (p1).toInt64))])) rfl (hb hby at_50)) ?_
      refine Gl.st (U' := (T0.setTop (mkF m 54 #[.val (.int p0), .val (.int p1), .val (.int p2), .val (.int fa), .val (.int fb), .val (.int kd), .val (.double dx), .second, .val (.double (FP.l2d (p1).toInt64)), .second, .unset, .unset, .unset] [(.double (FP.dadd (FP.l2d p1.toInt64) own_half))]))) (fun _ zz => XS.daddS X0.here hx rfl (hb hby at_53) rfl (own_noNaN_half p1) rfl zz) ?_
      refine Gl.st (U' := (T0.setTop (mkF m 56 #[.val (.int p0), .val (.int p1), .val (.int p2), .val (.int fa), .val (.int fb), .val (.int kd), .val (.double dx), .second, .val (.double (FP.dadd (FP.l2d p1.toInt64) own_half)), .second, .unset, .unset, .unset] []))) (fun _ zz => XS.dstore X0.here hx rfl (hb hby at_54) rfl (l' := #[.val (.int p0), .val (.int p1), .val (.int p2), .val (.int fa), .val (.int fb), .val (.int kd), .val (.double dx), .second, .val (.double (FP.dadd (FP.l2d p1.toInt64) own_half)), .second, .unset, .unset, .unset]) rfl zz) ?_
      exact Jdy _ ⟨own_nan_half p1, by rw [own_zhalf', q]; rfl⟩
    · refine Gl.st (U' := (T0.setTop (mkF m 56 #[.val (.int p0), .val (.int p1), .val (.int p2), .val (.int fa), .val (.int fb), .val (.int kd), .val (.double dx), .second, .val (.double (FP.l2d (p1).toInt64)), .second, .unset, .unset, .unset] []))) (fun _ zz => XS.icmpYes X0.here hx rfl (pc0 := 45) (pc' := 56) rfl (hb hby at_45) rfl (feq q).2 (by decide) (by decide) zz) ?_
      exact Jdy _ ⟨own_nan_int p1, by rw [own_zint, own_hv, if_neg q, Int.add_zero]⟩
  intro dy hdy
  show Gl p e below _ (T0.setTop (mkF m 56 #[.val (.int p0), .val (.int p1), .val (.int p2), .val (.int fa), .val (.int fb), .val (.int kd), .val (.double dx), .second, .val (.double dy), .second, .unset, .unset, .unset] []))
  obtain ⟨Tt271, ht271, Xt271, et271, Et271, At271, Dt271, Mt271, stt271⟩ := newO X0 hx hZ hown (hw _ (List.mem_of_getElem? (i := 2) rfl)) (hw _ (List.mem_of_getElem? (i := 3) rfl)) (hw _ (List.mem_of_getElem? (i := 4) rfl)) e0 (g := (mkF m 56 #[.val (.int p0), .val (.int p1), .val (.int p2), .val (.int fa), .val (.int fb), .val (.int kd), .val (.double dx), .second, .val (.double dy), .second, .unset, .unset, .unset] [])) rfl (hb hby at_56) (by decide) (by decide)
  obtain ⟨at271, gt271⟩ : ∃ z, z = h0.size := ⟨_, rfl⟩
  rw [← gt271] at At271 Dt271 Mt271 stt271
  refine Gl.st (U' := (Tt271.setTop (mkF m 59 #[.val (.int p0), .val (.int p1), .val (.int p2), .val (.int fa), .val (.int fb), .val (.int kd), .val (.double dx), .second, .val (.double dy), .second, .unset, .unset, .unset] [(.ref at271)]))) stt271 ?_
  have gat272 := (show n0 ≤ at271 by rw [gt271]; exact Nat.le_trans (Nat.le_of_eq O0.1.symm) O0.2.1)
  have Ot273 := Old.ext O0 Et271
  have Kt274 := own_K_new Mt271
  refine Gl.st (U' := (Tt271.setTop (mkF m 60 #[.val (.int p0), .val (.int p1), .val (.int p2), .val (.int fa), .val (.int fb), .val (.int kd), .val (.double dx), .second, .val (.double dy), .second, .unset, .unset, .unset] [(.ref at271), (.ref at271)]))) (fun _ zz => XS.dup Xt271.here hx rfl (hb hby at_59) rfl rfl zz) ?_
  refine Gl.st (U' := (Tt271.setTop (mkF m 62 #[.val (.int p0), .val (.int p1), .val (.int p2), .val (.int fa), .val (.int fb), .val (.int kd), .val (.double dx), .second, .val (.double dy), .second, .unset, .unset, .unset] [(.double dx), (.ref at271), (.ref at271)]))) (fun _ zz => XS.dload Xt271.here hx rfl (hb hby at_60) rfl zz) ?_
  refine gCallI Xt271 hx hZ (y := (⟨"com/example/ironbound_models/ironboundmodels/interpreter/RealValue", "<init>", "(D)V"⟩ : MethodName)) rfl hown (hw _ (List.mem_of_getElem? (i := 5) rfl)) (hw _ (List.mem_of_getElem? (i := 6) rfl)) (hw _ (List.mem_of_getElem? (i := 4) rfl)) (hw _ (List.mem_of_getElem? (i := 7) rfl)) (by decide) (own_rini l Z a0 hw ht271 n0 at271 gat272 At271 Kt274 dx) et271 (by decide) (W := 1) (by decide) (by decide) (by decide) (g := (mkF m 62 #[.val (.int p0), .val (.int p1), .val (.int p2), .val (.int fa), .val (.int fb), .val (.int kd), .val (.double dx), .second, .val (.double dy), .second, .unset, .unset, .unset] [(.double dx), (.ref at271), (.ref at271)])) rfl (by rw [hml]; rfl) (argsL := [(.double dx)]) (rest := [(.ref at271)]) (own_lenOf own_pD rfl) rfl rfl (by show 2 * 0 + _ ≤ _; exact Nat.le_of_eq rfl) (hb hby at_62) ?_
  rintro _ Tt275 Lt275 Xt275 ⟨rfl, Nt275, Pt275, Rt275⟩
  show Gl p e below _ (Tt275.setTop (mkF m 65 #[.val (.int p0), .val (.int p1), .val (.int p2), .val (.int fa), .val (.int fb), .val (.int kd), .val (.double dx), .second, .val (.double dy), .second, .unset, .unset, .unset] [(.ref at271)]))
  have Nt276 := Fr.app NF0 Nt275
  have Ot277 := Old.keep Ot273 Pt275 (allS gat272 all0)
  refine Gl.st (U' := (Tt275.setTop (mkF m 67 #[.val (.int p0), .val (.int p1), .val (.int p2), .val (.int fa), .val (.int fb), .val (.int kd), .val (.double dx), .second, .val (.double dy), .second, .val (.ref at271), .unset, .unset] []))) (fun _ zz => XS.astore Xt275.here hx rfl (hb hby at_65) rfl rfl (l' := #[.val (.int p0), .val (.int p1), .val (.int p2), .val (.int fa), .val (.int fb), .val (.int kd), .val (.double dx), .second, .val (.double dy), .second, .val (.ref at271), .unset, .unset]) rfl zz) ?_
  refine Gl.st (U' := (Tt275.setTop (mkF m 69 #[.val (.int p0), .val (.int p1), .val (.int p2), .val (.int fa), .val (.int fb), .val (.int kd), .val (.double dx), .second, .val (.double dy), .second, .val (.ref at271), .unset, .unset] [(.int kd)]))) (fun _ zz => XS.iload Xt275.here hx rfl (hb hby at_67) rfl zz) ?_
  by_cases k0 : kd = (0 : Int32)
  · refine Gl.st (U' := (Tt275.setTop (mkF m 72 #[.val (.int p0), .val (.int p1), .val (.int p2), .val (.int fa), .val (.int fb), .val (.int kd), .val (.double dx), .second, .val (.double dy), .second, .val (.ref at271), .unset, .unset] []))) (fun _ zz => XS.ifNo Xt275.here hx rfl (hb hby at_69) rfl ((if0 _ _).trans (teq k0).2) zz) ?_
    obtain ⟨Tt278, ht278, Xt278, et278, Et278, At278, Dt278, Mt278, stt278⟩ := newO Xt275 hx hZ hown (hw _ (List.mem_of_getElem? (i := 2) rfl)) (hw _ (List.mem_of_getElem? (i := 3) rfl)) (hw _ (List.mem_of_getElem? (i := 4) rfl)) (rfl : Tt275.heap = Tt275.heap) (g := (mkF m 72 #[.val (.int p0), .val (.int p1), .val (.int p2), .val (.int fa), .val (.int fb), .val (.int kd), .val (.double dx), .second, .val (.double dy), .second, .val (.ref at271), .unset, .unset] [])) rfl (hb hby at_72) (by decide) (by decide)
    obtain ⟨at278, gt278⟩ : ∃ z, z = Tt275.heap.size := ⟨_, rfl⟩
    rw [← gt278] at At278 Dt278 Mt278 stt278
    refine Gl.st (U' := (Tt278.setTop (mkF m 75 #[.val (.int p0), .val (.int p1), .val (.int p2), .val (.int fa), .val (.int fb), .val (.int kd), .val (.double dx), .second, .val (.double dy), .second, .val (.ref at271), .unset, .unset] [(.ref at278)]))) stt278 ?_
    have gat279 := (show n0 ≤ at278 by rw [gt278]; exact Nat.le_trans (Nat.le_of_eq Ot277.1.symm) Ot277.2.1)
    have Ot280 := Old.ext Ot277 Et278
    have Kt281 := own_K_new Mt278
    have ne12 : at271 ≠ at278 := by rw [gt278]; exact Nat.ne_of_lt (Exa.lt Rt275.1)
    have RX := own_R_ext Et278 Rt275
    refine Gl.st (U' := (Tt278.setTop (mkF m 76 #[.val (.int p0), .val (.int p1), .val (.int p2), .val (.int fa), .val (.int fb), .val (.int kd), .val (.double dx), .second, .val (.double dy), .second, .val (.ref at271), .unset, .unset] [(.ref at278), (.ref at278)]))) (fun _ zz => XS.dup Xt278.here hx rfl (hb hby at_75) rfl rfl zz) ?_
    refine Gl.st (U' := (Tt278.setTop (mkF m 78 #[.val (.int p0), .val (.int p1), .val (.int p2), .val (.int fa), .val (.int fb), .val (.int kd), .val (.double dx), .second, .val (.double dy), .second, .val (.ref at271), .unset, .unset] [(.double dy), (.ref at278), (.ref at278)]))) (fun _ zz => XS.dload Xt278.here hx rfl (hb hby at_76) rfl zz) ?_
    refine gCallI Xt278 hx hZ (y := (⟨"com/example/ironbound_models/ironboundmodels/interpreter/RealValue", "<init>", "(D)V"⟩ : MethodName)) rfl hown (hw _ (List.mem_of_getElem? (i := 5) rfl)) (hw _ (List.mem_of_getElem? (i := 6) rfl)) (hw _ (List.mem_of_getElem? (i := 4) rfl)) (hw _ (List.mem_of_getElem? (i := 7) rfl)) (by decide) (own_rini l Z a0 hw ht278 n0 at278 gat279 At278 Kt281 dy) et278 (by decide) (W := 1) (by decide) (by decide) (by decide) (g := (mkF m 78 #[.val (.int p0), .val (.int p1), .val (.int p2), .val (.int fa), .val (.int fb), .val (.int kd), .val (.double dx), .second, .val (.double dy), .second, .val (.ref at271), .unset, .unset] [(.double dy), (.ref at278), (.ref at278)])) rfl (by rw [hml]; rfl) (argsL := [(.double dy)]) (rest := [(.ref at278)]) (own_lenOf own_pD rfl) rfl rfl (by show 2 * 0 + _ ≤ _; exact Nat.le_of_eq rfl) (hb hby at_78) ?_
    rintro _ Tt282 Lt282 Xt282 ⟨rfl, Nt282, Pt282, Rt282⟩
    show Gl p e below _ (Tt282.setTop (mkF m 81 #[.val (.int p0), .val (.int p1), .val (.int p2), .val (.int fa), .val (.int fb), .val (.int kd), .val (.double dx), .second, .val (.double dy), .second, .val (.ref at271), .unset, .unset] [(.ref at278)]))
    have Nt283 := Fr.app Nt276 Nt282
    have Ot284 := Old.keep Ot280 Pt282 (allS gat279 all0)
    have RY := own_R_keep Pt282 (ninS ne12 nin0) RX
    refine Gl.st (U' := (Tt282.setTop (mkF m 83 #[.val (.int p0), .val (.int p1), .val (.int p2), .val (.int fa), .val (.int fb), .val (.int kd), .val (.double dx), .second, .val (.double dy), .second, .val (.ref at271), .val (.ref at278), .unset] []))) (fun _ zz => XS.astore Xt282.here hx rfl (hb hby at_81) rfl rfl (l' := #[.val (.int p0), .val (.int p1), .val (.int p2), .val (.int fa), .val (.int fb), .val (.int kd), .val (.double dx), .second, .val (.double dy), .second, .val (.ref at271), .val (.ref at278), .unset]) rfl zz) ?_
    refine Gl.st (U' := (Tt282.setTop (mkF m 84 #[.val (.int p0), .val (.int p1), .val (.int p2), .val (.int fa), .val (.int fb), .val (.int kd), .val (.double dx), .second, .val (.double dy), .second, .val (.ref at271), .val (.ref at278), .unset] [(.int p0)]))) (fun _ zz => XS.iloadN Xt282.here hx rfl (hb hby at_83) rfl zz) ?_
    refine Gl.st (U' := (Tt282.setTop (mkF m 85 #[.val (.int p0), .val (.int p1), .val (.int p2), .val (.int fa), .val (.int fb), .val (.int kd), .val (.double dx), .second, .val (.double dy), .second, .val (.ref at271), .val (.ref at278), .unset] [(.int p1), (.int p0)]))) (fun _ zz => XS.iloadN Xt282.here hx rfl (hb hby at_84) rfl zz) ?_
    refine Gl.join (α := Int32) (P := fun b12 => b12 = own_bi (p0 = p1 ∧ fa = fb)) (f := fun b12 => (Tt282.setTop (mkF m 99 #[.val (.int p0), .val (.int p1), .val (.int p2), .val (.int fa), .val (.int fb), .val (.int kd), .val (.double dx), .second, .val (.double dy), .second, .val (.ref at271), .val (.ref at278), .unset] [(.int b12)]))) ?_ ?_
    · intro Jb12
      by_cases qp : p0 = p1
      · refine Gl.st (U' := (Tt282.setTop (mkF m 88 #[.val (.int p0), .val (.int p1), .val (.int p2), .val (.int fa), .val (.int fb), .val (.int kd), .val (.double dx), .second, .val (.double dy), .second, .val (.ref at271), .val (.ref at278), .unset] []))) (fun _ zz => XS.icmpNo Xt282.here hx rfl (hb hby at_85) rfl (teq qp).2 zz) ?_
        refine Gl.st (U' := (Tt282.setTop (mkF m 89 #[.val (.int p0), .val (.int p1), .val (.int p2), .val (.int fa), .val (.int fb), .val (.int kd), .val (.double dx), .second, .val (.double dy), .second, .val (.ref at271), .val (.ref at278), .unset] [(.int fa)]))) (fun _ zz => XS.iloadN Xt282.here hx rfl (hb hby at_88) rfl zz) ?_
        refine Gl.st (U' := (Tt282.setTop (mkF m 91 #[.val (.int p0), .val (.int p1), .val (.int p2), .val (.int fa), .val (.int fb), .val (.int kd), .val (.double dx), .second, .val (.double dy), .second, .val (.ref at271), .val (.ref at278), .unset] [(.int fb), (.int fa)]))) (fun _ zz => XS.iload Xt282.here hx rfl (hb hby at_89) rfl zz) ?_
        by_cases qq : fa = fb
        · refine Gl.st (U' := (Tt282.setTop (mkF m 94 #[.val (.int p0), .val (.int p1), .val (.int p2), .val (.int fa), .val (.int fb), .val (.int kd), .val (.double dx), .second, .val (.double dy), .second, .val (.ref at271), .val (.ref at278), .unset] []))) (fun _ zz => XS.icmpNo Xt282.here hx rfl (hb hby at_91) rfl (teq qq).2 zz) ?_
          refine Gl.st (U' := (Tt282.setTop (mkF m 95 #[.val (.int p0), .val (.int p1), .val (.int p2), .val (.int fa), .val (.int fb), .val (.int kd), .val (.double dx), .second, .val (.double dy), .second, .val (.ref at271), .val (.ref at278), .unset] [(.int (1 : Int32))]))) (fun _ zz => XS.iconst Xt282.here hx rfl (hb hby at_94) zz) ?_
          refine Gl.st (U' := (Tt282.setTop (mkF m 99 #[.val (.int p0), .val (.int p1), .val (.int p2), .val (.int fa), .val (.int fb), .val (.int kd), .val (.double dx), .second, .val (.double dy), .second, .val (.ref at271), .val (.ref at278), .unset] [(.int (1 : Int32))]))) (fun _ zz => XS.goto Xt282.here hx rfl (pc0 := 95) (pc' := 99) rfl (hb hby at_95) (by decide) (by decide) zz) ?_
          exact Jb12 1 (own_bi_t ⟨qp, qq⟩).symm
        · refine Gl.st (U' := (Tt282.setTop (mkF m 98 #[.val (.int p0), .val (.int p1), .val (.int p2), .val (.int fa), .val (.int fb), .val (.int kd), .val (.double dx), .second, .val (.double dy), .second, .val (.ref at271), .val (.ref at278), .unset] []))) (fun _ zz => XS.icmpYes Xt282.here hx rfl (pc0 := 91) (pc' := 98) rfl (hb hby at_91) rfl (feq qq).2 (by decide) (by decide) zz) ?_
          refine Gl.st (U' := (Tt282.setTop (mkF m 99 #[.val (.int p0), .val (.int p1), .val (.int p2), .val (.int fa), .val (.int fb), .val (.int kd), .val (.double dx), .second, .val (.double dy), .second, .val (.ref at271), .val (.ref at278), .unset] [(.int (0 : Int32))]))) (fun _ zz => XS.iconst Xt282.here hx rfl (hb hby at_98) zz) ?_
          exact Jb12 0 (own_bi_f (fun z => qq z.2)).symm
      · refine Gl.st (U' := (Tt282.setTop (mkF m 98 #[.val (.int p0), .val (.int p1), .val (.int p2), .val (.int fa), .val (.int fb), .val (.int kd), .val (.double dx), .second, .val (.double dy), .second, .val (.ref at271), .val (.ref at278), .unset] []))) (fun _ zz => XS.icmpYes Xt282.here hx rfl (pc0 := 85) (pc' := 98) rfl (hb hby at_85) rfl (feq qp).2 (by decide) (by decide) zz) ?_
        refine Gl.st (U' := (Tt282.setTop (mkF m 99 #[.val (.int p0), .val (.int p1), .val (.int p2), .val (.int fa), .val (.int fb), .val (.int kd), .val (.double dx), .second, .val (.double dy), .second, .val (.ref at271), .val (.ref at278), .unset] [(.int (0 : Int32))]))) (fun _ zz => XS.iconst Xt282.here hx rfl (hb hby at_98) zz) ?_
        exact Jb12 0 (own_bi_f (fun z => qp z.1)).symm
    intro b12 hb12
    show Gl p e below _ (Tt282.setTop (mkF m 99 #[.val (.int p0), .val (.int p1), .val (.int p2), .val (.int fa), .val (.int fb), .val (.int kd), .val (.double dx), .second, .val (.double dy), .second, .val (.ref at271), .val (.ref at278), .unset] [(.int b12)]))
    obtain ⟨cw, hcw⟩ : ∃ z, z = cmpValue (FP.dcmp dy dx) .l := ⟨_, rfl⟩
    refine Gl.st (U' := (Tt282.setTop (mkF m 101 #[.val (.int p0), .val (.int p1), .val (.int p2), .val (.int fa), .val (.int fb), .val (.int kd), .val (.double dx), .second, .val (.double dy), .second, .val (.ref at271), .val (.ref at278), .val (.int b12)] []))) (fun _ zz => XS.istore Xt282.here hx rfl (hb hby at_99) rfl (l' := #[.val (.int p0), .val (.int p1), .val (.int p2), .val (.int fa), .val (.int fb), .val (.int kd), .val (.double dx), .second, .val (.double dy), .second, .val (.ref at271), .val (.ref at278), .val (.int b12)]) rfl zz) ?_
    refine Gl.st (U' := (Tt282.setTop (mkF m 168 #[.val (.int p0), .val (.int p1), .val (.int p2), .val (.int fa), .val (.int fb), .val (.int kd), .val (.double dx), .second, .val (.double dy), .second, .val (.ref at271), .val (.ref at278), .val (.int b12)] []))) (fun _ zz => XS.goto Xt282.here hx rfl (pc0 := 101) (pc' := 168) rfl (hb hby at_101) (by decide) (by decide) zz) ?_
    refine Gl.st (U' := (Tt282.setTop (mkF m 170 #[.val (.int p0), .val (.int p1), .val (.int p2), .val (.int fa), .val (.int fb), .val (.int kd), .val (.double dx), .second, .val (.double dy), .second, .val (.ref at271), .val (.ref at278), .val (.int b12)] [(.ref at271)]))) (fun _ zz => XS.aload Xt282.here hx rfl (hb hby at_168) rfl rfl zz) ?_
    refine Gl.st (U' := (Tt282.setTop (mkF m 172 #[.val (.int p0), .val (.int p1), .val (.int p2), .val (.int fa), .val (.int fb), .val (.int kd), .val (.double dx), .second, .val (.double dy), .second, .val (.ref at271), .val (.ref at278), .val (.int b12)] [(.ref at278), (.ref at271)]))) (fun _ zz => XS.aload Xt282.here hx rfl (hb hby at_170) rfl rfl zz) ?_
    refine gCallV Xt282 hx hZ (y := (⟨"com/example/ironbound_models/ironboundmodels/interpreter/RealValue", "equals", "(Ljava/lang/Object;)Z"⟩ : MethodName)) (z := (⟨"com/example/ironbound_models/ironboundmodels/interpreter/RealValue", "equals", "(Ljava/lang/Object;)Z"⟩ : MethodName)) hown (hw _ (List.mem_of_getElem? (i := 23) rfl)) (hw _ (List.mem_of_getElem? (i := 24) rfl)) (hw _ (List.mem_of_getElem? (i := 26) rfl)) (own_nf (args := #[]) (mvT hZ (hw _ (List.mem_of_getElem? (i := 26) rfl))) rfl) (hw _ (List.mem_of_getElem? (i := 25) rfl)) (hw _ (List.mem_of_getElem? (i := 4) rfl)) (hw _ (List.mem_of_getElem? (i := 27) rfl)) (by decide) (own_eq l Z a0 hw Tt282.heap at271 at278 dx dy RY Rt282 cw hcw.symm) (rfl : Tt282.heap = Tt282.heap) RY.1 (by decide) (W := 0) (by decide) (by decide) (by decide) (g := (mkF m 172 #[.val (.int p0), .val (.int p1), .val (.int p2), .val (.int fa), .val (.int fb), .val (.int kd), .val (.double dx), .second, .val (.double dy), .second, .val (.ref at271), .val (.ref at278), .val (.int b12)] [(.ref at278), (.ref at271)])) rfl (by rw [hml]; rfl) (argsL := [(.ref at278)]) (rest := []) (own_lenOf own_pOZ rfl) rfl rfl (by show 2 * 0 + _ ≤ _; exact Nat.le_of_eq rfl) (hb hby at_172) ?_
    rintro _ Tt285 Lt285 Xt285 ⟨rfl, rfl, et285⟩
    show Gl p e below _ (Tt285.setTop (mkF m 175 #[.val (.int p0), .val (.int p1), .val (.int p2), .val (.int fa), .val (.int fb), .val (.int kd), .val (.double dx), .second, .val (.double dy), .second, .val (.ref at271), .val (.ref at278), .val (.int b12)] [(.int (own_bi (cw = 0)))]))
    refine Gl.st (U' := (Tt285.setTop (mkF m 177 #[.val (.int p0), .val (.int p1), .val (.int p2), .val (.int fa), .val (.int fb), .val (.int kd), .val (.double dx), .second, .val (.double dy), .second, .val (.ref at271), .val (.ref at278), .val (.int b12)] [(.int b12), (.int (own_bi (cw = 0)))]))) (fun _ zz => XS.iload Xt285.here hx rfl (hb hby at_175) rfl zz) ?_
    have hq : (own_bi (cw = 0)) = b12 := (by rw [hb12]; refine own_bi_eq.mpr ?_; rw [hcw, own_deq hdy.1 hdx.1 hdy.2 hdx.2]; exact own_final p0 p1 fa fb hA1 hB1)
    refine Gl.st (U' := (Tt285.setTop (mkF m 180 #[.val (.int p0), .val (.int p1), .val (.int p2), .val (.int fa), .val (.int fb), .val (.int kd), .val (.double dx), .second, .val (.double dy), .second, .val (.ref at271), .val (.ref at278), .val (.int b12)] []))) (fun _ zz => XS.icmpNo Xt285.here hx rfl (hb hby at_177) rfl (teq hq).2 zz) ?_
    refine Gl.st (U' := (Tt285.setTop (mkF m 181 #[.val (.int p0), .val (.int p1), .val (.int p2), .val (.int fa), .val (.int fb), .val (.int kd), .val (.double dx), .second, .val (.double dy), .second, .val (.ref at271), .val (.ref at278), .val (.int b12)] [(.int (1 : Int32))]))) (fun _ zz => XS.iconst Xt285.here hx rfl (hb hby at_180) zz) ?_
    refine Gl.st (U' := (Tt285.setTop (mkF m 185 #[.val (.int p0), .val (.int p1), .val (.int p2), .val (.int fa), .val (.int fb), .val (.int kd), .val (.double dx), .second, .val (.double dy), .second, .val (.ref at271), .val (.ref at278), .val (.int b12)] [(.int (1 : Int32))]))) (fun _ zz => XS.goto Xt285.here hx rfl (pc0 := 181) (pc' := 185) rfl (hb hby at_181) (by decide) (by decide) zz) ?_
    exact Gl.retZ Xt285 hx hret hlk (hb hby at_185) (Or.inr rfl) ⟨rfl, by simpa using Nt283⟩ (by decide) (by decide)
  · refine Gl.st (U' := (Tt275.setTop (mkF m 104 #[.val (.int p0), .val (.int p1), .val (.int p2), .val (.int fa), .val (.int fb), .val (.int kd), .val (.double dx), .second, .val (.double dy), .second, .val (.ref at271), .unset, .unset] []))) (fun _ zz => XS.ifYes Xt275.here hx rfl (pc0 := 69) (pc' := 104) rfl (hb hby at_69) rfl ((if0 _ _).trans (feq k0).2) (by decide) (by decide) zz) ?_
    refine Gl.st (U' := (Tt275.setTop (mkF m 106 #[.val (.int p0), .val (.int p1), .val (.int p2), .val (.int fa), .val (.int fb), .val (.int kd), .val (.double dx), .second, .val (.double dy), .second, .val (.ref at271), .unset, .unset] [(.int kd)]))) (fun _ zz => XS.iload Xt275.here hx rfl (hb hby at_104) rfl zz) ?_
    refine Gl.st (U' := (Tt275.setTop (mkF m 107 #[.val (.int p0), .val (.int p1), .val (.int p2), .val (.int fa), .val (.int fb), .val (.int kd), .val (.double dx), .second, .val (.double dy), .second, .val (.ref at271), .unset, .unset] [(.int (1 : Int32)), (.int kd)]))) (fun _ zz => XS.iconst Xt275.here hx rfl (hb hby at_106) zz) ?_
    by_cases k1 : kd = (1 : Int32)
    · refine Gl.st (U' := (Tt275.setTop (mkF m 110 #[.val (.int p0), .val (.int p1), .val (.int p2), .val (.int fa), .val (.int fb), .val (.int kd), .val (.double dx), .second, .val (.double dy), .second, .val (.ref at271), .unset, .unset] []))) (fun _ zz => XS.icmpNo Xt275.here hx rfl (hb hby at_107) rfl (teq k1).2 zz) ?_
      refine Gl.st (U' := (Tt275.setTop (mkF m 112 #[.val (.int p0), .val (.int p1), .val (.int p2), .val (.int fa), .val (.int fb), .val (.int kd), .val (.double dx), .second, .val (.double dy), .second, .val (.ref at271), .unset, .unset] [(.ref at271)]))) (fun _ zz => XS.aload Xt275.here hx rfl (hb hby at_110) rfl rfl zz) ?_
      refine Gl.st (U' := (Tt275.setTop (mkF m 114 #[.val (.int p0), .val (.int p1), .val (.int p2), .val (.int fa), .val (.int fb), .val (.int kd), .val (.double dx), .second, .val (.double dy), .second, .val (.ref at271), .val (.ref at271), .unset] []))) (fun _ zz => XS.astore Xt275.here hx rfl (hb hby at_112) rfl rfl (l' := #[.val (.int p0), .val (.int p1), .val (.int p2), .val (.int fa), .val (.int fb), .val (.int kd), .val (.double dx), .second, .val (.double dy), .second, .val (.ref at271), .val (.ref at271), .unset]) rfl zz) ?_
      refine Gl.st (U' := (Tt275.setTop (mkF m 115 #[.val (.int p0), .val (.int p1), .val (.int p2), .val (.int fa), .val (.int fb), .val (.int kd), .val (.double dx), .second, .val (.double dy), .second, .val (.ref at271), .val (.ref at271), .unset] [(.int (1 : Int32))]))) (fun _ zz => XS.iconst Xt275.here hx rfl (hb hby at_114) zz) ?_
      refine Gl.st (U' := (Tt275.setTop (mkF m 117 #[.val (.int p0), .val (.int p1), .val (.int p2), .val (.int fa), .val (.int fb), .val (.int kd), .val (.double dx), .second, .val (.double dy), .second, .val (.ref at271), .val (.ref at271), .val (.int (1 : Int32))] []))) (fun _ zz => XS.istore Xt275.here hx rfl (hb hby at_115) rfl (l' := #[.val (.int p0), .val (.int p1), .val (.int p2), .val (.int fa), .val (.int fb), .val (.int kd), .val (.double dx), .second, .val (.double dy), .second, .val (.ref at271), .val (.ref at271), .val (.int (1 : Int32))]) rfl zz) ?_
      refine Gl.st (U' := (Tt275.setTop (mkF m 168 #[.val (.int p0), .val (.int p1), .val (.int p2), .val (.int fa), .val (.int fb), .val (.int kd), .val (.double dx), .second, .val (.double dy), .second, .val (.ref at271), .val (.ref at271), .val (.int (1 : Int32))] []))) (fun _ zz => XS.goto Xt275.here hx rfl (pc0 := 117) (pc' := 168) rfl (hb hby at_117) (by decide) (by decide) zz) ?_
      refine Gl.st (U' := (Tt275.setTop (mkF m 170 #[.val (.int p0), .val (.int p1), .val (.int p2), .val (.int fa), .val (.int fb), .val (.int kd), .val (.double dx), .second, .val (.double dy), .second, .val (.ref at271), .val (.ref at271), .val (.int (1 : Int32))] [(.ref at271)]))) (fun _ zz => XS.aload Xt275.here hx rfl (hb hby at_168) rfl rfl zz) ?_
      refine Gl.st (U' := (Tt275.setTop (mkF m 172 #[.val (.int p0), .val (.int p1), .val (.int p2), .val (.int fa), .val (.int fb), .val (.int kd), .val (.double dx), .second, .val (.double dy), .second, .val (.ref at271), .val (.ref at271), .val (.int (1 : Int32))] [(.ref at271), (.ref at271)]))) (fun _ zz => XS.aload Xt275.here hx rfl (hb hby at_170) rfl rfl zz) ?_
      refine gCallV Xt275 hx hZ (y := (⟨"com/example/ironbound_models/ironboundmodels/interpreter/RealValue", "equals", "(Ljava/lang/Object;)Z"⟩ : MethodName)) (z := (⟨"com/example/ironbound_models/ironboundmodels/interpreter/RealValue", "equals", "(Ljava/lang/Object;)Z"⟩ : MethodName)) hown (hw _ (List.mem_of_getElem? (i := 23) rfl)) (hw _ (List.mem_of_getElem? (i := 24) rfl)) (hw _ (List.mem_of_getElem? (i := 26) rfl)) (own_nf (args := #[]) (mvT hZ (hw _ (List.mem_of_getElem? (i := 26) rfl))) rfl) (hw _ (List.mem_of_getElem? (i := 25) rfl)) (hw _ (List.mem_of_getElem? (i := 4) rfl)) (hw _ (List.mem_of_getElem? (i := 27) rfl)) (by decide) (own_eq l Z a0 hw Tt275.heap at271 at271 dx dx Rt275 Rt275 0 ((own_deq hdx.1 hdx.1 hdx.2 hdx.2).mpr rfl)) (rfl : Tt275.heap = Tt275.heap) Rt275.1 (by decide) (W := 0) (by decide) (by decide) (by decide) (g := (mkF m 172 #[.val (.int p0), .val (.int p1), .val (.int p2), .val (.int fa), .val (.int fb), .val (.int kd), .val (.double dx), .second, .val (.double dy), .second, .val (.ref at271), .val (.ref at271), .val (.int (1 : Int32))] [(.ref at271), (.ref at271)])) rfl (by rw [hml]; rfl) (argsL := [(.ref at271)]) (rest := []) (own_lenOf own_pOZ rfl) rfl rfl (by show 2 * 0 + _ ≤ _; exact Nat.le_of_eq rfl) (hb hby at_172) ?_
      rintro _ Tt286 Lt286 Xt286 ⟨rfl, rfl, et286⟩
      show Gl p e below _ (Tt286.setTop (mkF m 175 #[.val (.int p0), .val (.int p1), .val (.int p2), .val (.int fa), .val (.int fb), .val (.int kd), .val (.double dx), .second, .val (.double dy), .second, .val (.ref at271), .val (.ref at271), .val (.int (1 : Int32))] [(.int (own_bi ((0 : Int32) = 0)))]))
      refine Gl.st (U' := (Tt286.setTop (mkF m 177 #[.val (.int p0), .val (.int p1), .val (.int p2), .val (.int fa), .val (.int fb), .val (.int kd), .val (.double dx), .second, .val (.double dy), .second, .val (.ref at271), .val (.ref at271), .val (.int (1 : Int32))] [(.int (1 : Int32)), (.int (own_bi ((0 : Int32) = 0)))]))) (fun _ zz => XS.iload Xt286.here hx rfl (hb hby at_175) rfl zz) ?_
      have hq : (own_bi ((0 : Int32) = 0)) = (1 : Int32) := own_bi_t rfl
      refine Gl.st (U' := (Tt286.setTop (mkF m 180 #[.val (.int p0), .val (.int p1), .val (.int p2), .val (.int fa), .val (.int fb), .val (.int kd), .val (.double dx), .second, .val (.double dy), .second, .val (.ref at271), .val (.ref at271), .val (.int (1 : Int32))] []))) (fun _ zz => XS.icmpNo Xt286.here hx rfl (hb hby at_177) rfl (teq hq).2 zz) ?_
      refine Gl.st (U' := (Tt286.setTop (mkF m 181 #[.val (.int p0), .val (.int p1), .val (.int p2), .val (.int fa), .val (.int fb), .val (.int kd), .val (.double dx), .second, .val (.double dy), .second, .val (.ref at271), .val (.ref at271), .val (.int (1 : Int32))] [(.int (1 : Int32))]))) (fun _ zz => XS.iconst Xt286.here hx rfl (hb hby at_180) zz) ?_
      refine Gl.st (U' := (Tt286.setTop (mkF m 185 #[.val (.int p0), .val (.int p1), .val (.int p2), .val (.int fa), .val (.int fb), .val (.int kd), .val (.double dx), .second, .val (.double dy), .second, .val (.ref at271), .val (.ref at271), .val (.int (1 : Int32))] [(.int (1 : Int32))]))) (fun _ zz => XS.goto Xt286.here hx rfl (pc0 := 181) (pc' := 185) rfl (hb hby at_181) (by decide) (by decide) zz) ?_
      exact Gl.retZ Xt286 hx hret hlk (hb hby at_185) (Or.inr rfl) ⟨rfl, by simpa using Nt276⟩ (by decide) (by decide)
    · refine Gl.st (U' := (Tt275.setTop (mkF m 120 #[.val (.int p0), .val (.int p1), .val (.int p2), .val (.int fa), .val (.int fb), .val (.int kd), .val (.double dx), .second, .val (.double dy), .second, .val (.ref at271), .unset, .unset] []))) (fun _ zz => XS.icmpYes Xt275.here hx rfl (pc0 := 107) (pc' := 120) rfl (hb hby at_107) rfl (feq k1).2 (by decide) (by decide) zz) ?_
      refine Gl.st (U' := (Tt275.setTop (mkF m 122 #[.val (.int p0), .val (.int p1), .val (.int p2), .val (.int fa), .val (.int fb), .val (.int kd), .val (.double dx), .second, .val (.double dy), .second, .val (.ref at271), .unset, .unset] [(.int kd)]))) (fun _ zz => XS.iload Xt275.here hx rfl (hb hby at_120) rfl zz) ?_
      refine Gl.st (U' := (Tt275.setTop (mkF m 123 #[.val (.int p0), .val (.int p1), .val (.int p2), .val (.int fa), .val (.int fb), .val (.int kd), .val (.double dx), .second, .val (.double dy), .second, .val (.ref at271), .unset, .unset] [(.int (2 : Int32)), (.int kd)]))) (fun _ zz => XS.iconst Xt275.here hx rfl (hb hby at_122) zz) ?_
      by_cases k2 : kd = (2 : Int32)
      · refine Gl.st (U' := (Tt275.setTop (mkF m 126 #[.val (.int p0), .val (.int p1), .val (.int p2), .val (.int fa), .val (.int fb), .val (.int kd), .val (.double dx), .second, .val (.double dy), .second, .val (.ref at271), .unset, .unset] []))) (fun _ zz => XS.icmpNo Xt275.here hx rfl (hb hby at_123) rfl (teq k2).2 zz) ?_
        refine Gl.st (U' := (Tt275.setTop (mkF m 127 #[.val (.int p0), .val (.int p1), .val (.int p2), .val (.int fa), .val (.int fb), .val (.int kd), .val (.double dx), .second, .val (.double dy), .second, .val (.ref at271), .unset, .unset] [(.int p1)]))) (fun _ zz => XS.iloadN Xt275.here hx rfl (hb hby at_126) rfl zz) ?_
        refine Gl.st (U' := (Tt275.setTop (mkF m 128 #[.val (.int p0), .val (.int p1), .val (.int p2), .val (.int fa), .val (.int fb), .val (.int kd), .val (.double dx), .second, .val (.double dy), .second, .val (.ref at271), .unset, .unset] [(.double (FP.l2d (p1).toInt64))]))) (fun _ zz => XS.i2dS Xt275.here hx rfl (hb hby at_127) rfl (i2d_w _) zz) ?_
        refine gCallS Xt275 hx hZ (y := (⟨"com/example/ironbound_models/ironboundmodels/interpreter/NumericValue", "of", "(D)Lcom/example/ironbound_models/ironboundmodels/interpreter/NumericValue;"⟩ : MethodName)) hown (hw _ (List.mem_of_getElem? (i := 56) rfl)) (hw _ (List.mem_of_getElem? (i := 57) rfl)) (hw _ (List.mem_of_getElem? (i := 11) rfl)) (hw _ (List.mem_of_getElem? (i := 58) rfl)) (by decide) (own_nof l Z a0 hw Tt275.heap n0 Ot277 hfit zv hzv SZ pa na pc nc SP SN AP AN zP zN p1) (rfl : Tt275.heap = Tt275.heap) (by decide) (W := 0) (by decide) (by decide) (by decide) (g := (mkF m 128 #[.val (.int p0), .val (.int p1), .val (.int p2), .val (.int fa), .val (.int fb), .val (.int kd), .val (.double dx), .second, .val (.double dy), .second, .val (.ref at271), .unset, .unset] [(.double (FP.l2d (p1).toInt64))])) rfl (by rw [hml]; rfl) (argsL := [(.double (FP.l2d (p1).toInt64))]) (rest := []) (own_lenOf own_pN rfl) rfl rfl (by show 2 * 0 + _ ≤ _; exact Nat.le_of_eq rfl) (hb hby at_128) ?_
        rintro _ Tt287 Lt287 Xt287 ⟨r, rfl, EX, Nt287, Pt287⟩
        show Gl p e below _ (Tt287.setTop (mkF m 131 #[.val (.int p0), .val (.int p1), .val (.int p2), .val (.int fa), .val (.int fb), .val (.int kd), .val (.double dx), .second, .val (.double dy), .second, .val (.ref at271), .unset, .unset] [(.ref r)]))
        have Nt288 := Fr.app Nt276 Nt287
        have RY := own_R_keep Pt287 nin0 Rt275
        have NS0 : NS Z "java/lang/Object" "com/example/ironbound_models/ironboundmodels/interpreter/RealValue" := own_NS_root (hw _ (List.mem_of_getElem? (i := 55) rfl)) (hw _ (List.mem_of_getElem? (i := 3) rfl)) (by decide)
        have NS1 := NS.step (hw _ (List.mem_of_getElem? (i := 93) rfl)) NS0 (by decide)
        have NS2 := NS.step (hw _ (List.mem_of_getElem? (i := 92) rfl)) NS1 (by decide)
        have NS3 := NS.step (hw _ (List.mem_of_getElem? (i := 91) rfl)) NS2 (by decide)
        have NO := own_NS_no (hw _ (List.mem_of_getElem? (i := 91) rfl)) (hw _ (List.mem_of_getElem? (i := 3) rfl)) NS3 (by decide)
        refine Gl.st (U' := (Tt287.setTop (mkF m 133 #[.val (.int p0), .val (.int p1), .val (.int p2), .val (.int fa), .val (.int fb), .val (.int kd), .val (.double dx), .second, .val (.double dy), .second, .val (.ref at271), .val (.ref r), .unset] []))) (fun _ zz => XS.astore Xt287.here hx rfl (hb hby at_131) rfl rfl (l' := #[.val (.int p0), .val (.int p1), .val (.int p2), .val (.int fa), .val (.int fb), .val (.int kd), .val (.double dx), .second, .val (.double dy), .second, .val (.ref at271), .val (.ref r), .unset]) rfl zz) ?_
        refine Gl.st (U' := (Tt287.setTop (mkF m 134 #[.val (.int p0), .val (.int p1), .val (.int p2), .val (.int fa), .val (.int fb), .val (.int kd), .val (.double dx), .second, .val (.double dy), .second, .val (.ref at271), .val (.ref r), .unset] [(.int (0 : Int32))]))) (fun _ zz => XS.iconst Xt287.here hx rfl (hb hby at_133) zz) ?_
        refine Gl.st (U' := (Tt287.setTop (mkF m 136 #[.val (.int p0), .val (.int p1), .val (.int p2), .val (.int fa), .val (.int fb), .val (.int kd), .val (.double dx), .second, .val (.double dy), .second, .val (.ref at271), .val (.ref r), .val (.int (0 : Int32))] []))) (fun _ zz => XS.istore Xt287.here hx rfl (hb hby at_134) rfl (l' := #[.val (.int p0), .val (.int p1), .val (.int p2), .val (.int fa), .val (.int fb), .val (.int kd), .val (.double dx), .second, .val (.double dy), .second, .val (.ref at271), .val (.ref r), .val (.int (0 : Int32))]) rfl zz) ?_
        refine Gl.st (U' := (Tt287.setTop (mkF m 168 #[.val (.int p0), .val (.int p1), .val (.int p2), .val (.int fa), .val (.int fb), .val (.int kd), .val (.double dx), .second, .val (.double dy), .second, .val (.ref at271), .val (.ref r), .val (.int (0 : Int32))] []))) (fun _ zz => XS.goto Xt287.here hx rfl (pc0 := 136) (pc' := 168) rfl (hb hby at_136) (by decide) (by decide) zz) ?_
        refine Gl.st (U' := (Tt287.setTop (mkF m 170 #[.val (.int p0), .val (.int p1), .val (.int p2), .val (.int fa), .val (.int fb), .val (.int kd), .val (.double dx), .second, .val (.double dy), .second, .val (.ref at271), .val (.ref r), .val (.int (0 : Int32))] [(.ref at271)]))) (fun _ zz => XS.aload Xt287.here hx rfl (hb hby at_168) rfl rfl zz) ?_
        refine Gl.st (U' := (Tt287.setTop (mkF m 172 #[.val (.int p0), .val (.int p1), .val (.int p2), .val (.int fa), .val (.int fb), .val (.int kd), .val (.double dx), .second, .val (.double dy), .second, .val (.ref at271), .val (.ref r), .val (.int (0 : Int32))] [(.ref r), (.ref at271)]))) (fun _ zz => XS.aload Xt287.here hx rfl (hb hby at_170) rfl rfl zz) ?_
        refine gCallV Xt287 hx hZ (y := (⟨"com/example/ironbound_models/ironboundmodels/interpreter/RealValue", "equals", "(Ljava/lang/Object;)Z"⟩ : MethodName)) (z := (⟨"com/example/ironbound_models/ironboundmodels/interpreter/RealValue", "equals", "(Ljava/lang/Object;)Z"⟩ : MethodName)) hown (hw _ (List.mem_of_getElem? (i := 23) rfl)) (hw _ (List.mem_of_getElem? (i := 24) rfl)) (hw _ (List.mem_of_getElem? (i := 26) rfl)) (own_nf (args := #[]) (mvT hZ (hw _ (List.mem_of_getElem? (i := 26) rfl))) rfl) (hw _ (List.mem_of_getElem? (i := 25) rfl)) (hw _ (List.mem_of_getElem? (i := 4) rfl)) (hw _ (List.mem_of_getElem? (i := 27) rfl)) (by decide) (own_eqo l Z a0 hw Tt287.heap at271 r _ EX NO) (rfl : Tt287.heap = Tt287.heap) RY.1 (by decide) (W := 0) (by decide) (by decide) (by decide) (g := (mkF m 172 #[.val (.int p0), .val (.int p1), .val (.int p2), .val (.int fa), .val (.int fb), .val (.int kd), .val (.double dx), .second, .val (.double dy), .second, .val (.ref at271), .val (.ref r), .val (.int (0 : Int32))] [(.ref r), (.ref at271)])) rfl (by rw [hml]; rfl) (argsL := [(.ref r)]) (rest := []) (own_lenOf own_pOZ rfl) rfl rfl (by show 2 * 0 + _ ≤ _; exact Nat.le_of_eq rfl) (hb hby at_172) ?_
        rintro _ Tt289 Lt289 Xt289 ⟨rfl, rfl, et289⟩
        show Gl p e below _ (Tt289.setTop (mkF m 175 #[.val (.int p0), .val (.int p1), .val (.int p2), .val (.int fa), .val (.int fb), .val (.int kd), .val (.double dx), .second, .val (.double dy), .second, .val (.ref at271), .val (.ref r), .val (.int (0 : Int32))] [(.int (0 : Int32))]))
        refine Gl.st (U' := (Tt289.setTop (mkF m 177 #[.val (.int p0), .val (.int p1), .val (.int p2), .val (.int fa), .val (.int fb), .val (.int kd), .val (.double dx), .second, .val (.double dy), .second, .val (.ref at271), .val (.ref r), .val (.int (0 : Int32))] [(.int (0 : Int32)), (.int (0 : Int32))]))) (fun _ zz => XS.iload Xt289.here hx rfl (hb hby at_175) rfl zz) ?_
        have hq : (0 : Int32) = (0 : Int32) := rfl
        refine Gl.st (U' := (Tt289.setTop (mkF m 180 #[.val (.int p0), .val (.int p1), .val (.int p2), .val (.int fa), .val (.int fb), .val (.int kd), .val (.double dx), .second, .val (.double dy), .second, .val (.ref at271), .val (.ref r), .val (.int (0 : Int32))] []))) (fun _ zz => XS.icmpNo Xt289.here hx rfl (hb hby at_177) rfl (teq hq).2 zz) ?_
        refine Gl.st (U' := (Tt289.setTop (mkF m 181 #[.val (.int p0), .val (.int p1), .val (.int p2), .val (.int fa), .val (.int fb), .val (.int kd), .val (.double dx), .second, .val (.double dy), .second, .val (.ref at271), .val (.ref r), .val (.int (0 : Int32))] [(.int (1 : Int32))]))) (fun _ zz => XS.iconst Xt289.here hx rfl (hb hby at_180) zz) ?_
        refine Gl.st (U' := (Tt289.setTop (mkF m 185 #[.val (.int p0), .val (.int p1), .val (.int p2), .val (.int fa), .val (.int fb), .val (.int kd), .val (.double dx), .second, .val (.double dy), .second, .val (.ref at271), .val (.ref r), .val (.int (0 : Int32))] [(.int (1 : Int32))]))) (fun _ zz => XS.goto Xt289.here hx rfl (pc0 := 181) (pc' := 185) rfl (hb hby at_181) (by decide) (by decide) zz) ?_
        exact Gl.retZ Xt289 hx hret hlk (hb hby at_185) (Or.inr rfl) ⟨rfl, by simpa using Nt288⟩ (by decide) (by decide)
      · refine Gl.st (U' := (Tt275.setTop (mkF m 139 #[.val (.int p0), .val (.int p1), .val (.int p2), .val (.int fa), .val (.int fb), .val (.int kd), .val (.double dx), .second, .val (.double dy), .second, .val (.ref at271), .unset, .unset] []))) (fun _ zz => XS.icmpYes Xt275.here hx rfl (pc0 := 123) (pc' := 139) rfl (hb hby at_123) rfl (feq k2).2 (by decide) (by decide) zz) ?_
        refine Gl.st (U' := (Tt275.setTop (mkF m 141 #[.val (.int p0), .val (.int p1), .val (.int p2), .val (.int fa), .val (.int fb), .val (.int kd), .val (.double dx), .second, .val (.double dy), .second, .val (.ref at271), .unset, .unset] [(.int kd)]))) (fun _ zz => XS.iload Xt275.here hx rfl (hb hby at_139) rfl zz) ?_
        refine Gl.st (U' := (Tt275.setTop (mkF m 142 #[.val (.int p0), .val (.int p1), .val (.int p2), .val (.int fa), .val (.int fb), .val (.int kd), .val (.double dx), .second, .val (.double dy), .second, .val (.ref at271), .unset, .unset] [(.int (3 : Int32)), (.int kd)]))) (fun _ zz => XS.iconst Xt275.here hx rfl (hb hby at_141) zz) ?_
        by_cases k3 : kd = (3 : Int32)
        · refine Gl.st (U' := (Tt275.setTop (mkF m 145 #[.val (.int p0), .val (.int p1), .val (.int p2), .val (.int fa), .val (.int fb), .val (.int kd), .val (.double dx), .second, .val (.double dy), .second, .val (.ref at271), .unset, .unset] []))) (fun _ zz => XS.icmpNo Xt275.here hx rfl (hb hby at_142) rfl (teq k3).2 zz) ?_
          refine Gl.st (U' := (Tt275.setTop (mkF m 146 #[.val (.int p0), .val (.int p1), .val (.int p2), .val (.int fa), .val (.int fb), .val (.int kd), .val (.double dx), .second, .val (.double dy), .second, .val (.ref at271), .unset, .unset] [(.int p1)]))) (fun _ zz => XS.iloadN Xt275.here hx rfl (hb hby at_145) rfl zz) ?_
          refine Gl.st (U' := (Tt275.setTop (mkF m 149 #[.val (.int p0), .val (.int p1), .val (.int p2), .val (.int fa), .val (.int fb), .val (.int kd), .val (.double dx), .second, .val (.double dy), .second, .val (.ref at271), .unset, .unset] [(.int (255 : Int32)), (.int p1)]))) (fun _ zz => XS.sipush Xt275.here hx rfl (hb hby at_146) zz) ?_
          refine Gl.st (U' := (Tt275.setTop (mkF m 150 #[.val (.int p0), .val (.int p1), .val (.int p2), .val (.int fa), .val (.int fb), .val (.int kd), .val (.double dx), .second, .val (.double dy), .second, .val (.ref at271), .unset, .unset] [(.int (p1 &&& (255 : Int32)))]))) (fun _ zz => XS.iand Xt275.here hx rfl (hb hby at_149) rfl zz) ?_
          refine Gl.st (U' := (Tt275.setTop (mkF m 151 #[.val (.int p0), .val (.int p1), .val (.int p2), .val (.int fa), .val (.int fb), .val (.int kd), .val (.double dx), .second, .val (.double dy), .second, .val (.ref at271), .unset, .unset] [(.int ((p1 &&& (255 : Int32)).toUInt32.toUInt16.toUInt32.toInt32))]))) (fun _ zz => XT.i2c Xt275.here hx rfl (hb hby at_150) rfl zz) ?_
          refine gCallS Xt275 hx hZ (y := (⟨"java/lang/String", "valueOf", "(C)Ljava/lang/String;"⟩ : MethodName)) hown (hw _ (List.mem_of_getElem? (i := 30) rfl)) (hw _ (List.mem_of_getElem? (i := 31) rfl)) (hw _ (List.mem_of_getElem? (i := 32) rfl)) (hw _ (List.mem_of_getElem? (i := 33) rfl)) (by decide) (own_svof l Z a0 hw Tt275.heap n0 Ot277 G1 SC PC _ (own_c255 p1)) (rfl : Tt275.heap = Tt275.heap) (by decide) (W := 0) (by decide) (by decide) (by decide) (g := (mkF m 151 #[.val (.int p0), .val (.int p1), .val (.int p2), .val (.int fa), .val (.int fb), .val (.int kd), .val (.double dx), .second, .val (.double dy), .second, .val (.ref at271), .unset, .unset] [(.int ((p1 &&& (255 : Int32)).toUInt32.toUInt16.toUInt32.toInt32))])) rfl (by rw [hml]; rfl) (argsL := [(.int ((p1 &&& (255 : Int32)).toUInt32.toUInt16.toUInt32.toInt32))]) (rest := []) (own_lenOf own_pCS rfl) rfl rfl (by show 2 * 0 + _ ≤ _; exact Nat.le_of_eq rfl) (hb hby at_151) ?_
          rintro _ Tt290 Lt290 Xt290 ⟨r, rfl, EX, Nt290, Pt290⟩
          show Gl p e below _ (Tt290.setTop (mkF m 154 #[.val (.int p0), .val (.int p1), .val (.int p2), .val (.int fa), .val (.int fb), .val (.int kd), .val (.double dx), .second, .val (.double dy), .second, .val (.ref at271), .unset, .unset] [(.ref r)]))
          have Nt291 := Fr.app Nt276 Nt290
          have RY := own_R_keep Pt290 nin0 Rt275
          have NS0 : NS Z "java/lang/Object" "com/example/ironbound_models/ironboundmodels/interpreter/RealValue" := own_NS_root (hw _ (List.mem_of_getElem? (i := 55) rfl)) (hw _ (List.mem_of_getElem? (i := 3) rfl)) (by decide)
          have NS1 := NS.step (hw _ (List.mem_of_getElem? (i := 54) rfl)) NS0 (by decide)
          have NO := own_NS_no (hw _ (List.mem_of_getElem? (i := 54) rfl)) (hw _ (List.mem_of_getElem? (i := 3) rfl)) NS1 (by decide)
          refine Gl.st (U' := (Tt290.setTop (mkF m 156 #[.val (.int p0), .val (.int p1), .val (.int p2), .val (.int fa), .val (.int fb), .val (.int kd), .val (.double dx), .second, .val (.double dy), .second, .val (.ref at271), .val (.ref r), .unset] []))) (fun _ zz => XS.astore Xt290.here hx rfl (hb hby at_154) rfl rfl (l' := #[.val (.int p0), .val (.int p1), .val (.int p2), .val (.int fa), .val (.int fb), .val (.int kd), .val (.double dx), .second, .val (.double dy), .second, .val (.ref at271), .val (.ref r), .unset]) rfl zz) ?_
          refine Gl.st (U' := (Tt290.setTop (mkF m 157 #[.val (.int p0), .val (.int p1), .val (.int p2), .val (.int fa), .val (.int fb), .val (.int kd), .val (.double dx), .second, .val (.double dy), .second, .val (.ref at271), .val (.ref r), .unset] [(.int (0 : Int32))]))) (fun _ zz => XS.iconst Xt290.here hx rfl (hb hby at_156) zz) ?_
          refine Gl.st (U' := (Tt290.setTop (mkF m 159 #[.val (.int p0), .val (.int p1), .val (.int p2), .val (.int fa), .val (.int fb), .val (.int kd), .val (.double dx), .second, .val (.double dy), .second, .val (.ref at271), .val (.ref r), .val (.int (0 : Int32))] []))) (fun _ zz => XS.istore Xt290.here hx rfl (hb hby at_157) rfl (l' := #[.val (.int p0), .val (.int p1), .val (.int p2), .val (.int fa), .val (.int fb), .val (.int kd), .val (.double dx), .second, .val (.double dy), .second, .val (.ref at271), .val (.ref r), .val (.int (0 : Int32))]) rfl zz) ?_
          refine Gl.st (U' := (Tt290.setTop (mkF m 168 #[.val (.int p0), .val (.int p1), .val (.int p2), .val (.int fa), .val (.int fb), .val (.int kd), .val (.double dx), .second, .val (.double dy), .second, .val (.ref at271), .val (.ref r), .val (.int (0 : Int32))] []))) (fun _ zz => XS.goto Xt290.here hx rfl (pc0 := 159) (pc' := 168) rfl (hb hby at_159) (by decide) (by decide) zz) ?_
          refine Gl.st (U' := (Tt290.setTop (mkF m 170 #[.val (.int p0), .val (.int p1), .val (.int p2), .val (.int fa), .val (.int fb), .val (.int kd), .val (.double dx), .second, .val (.double dy), .second, .val (.ref at271), .val (.ref r), .val (.int (0 : Int32))] [(.ref at271)]))) (fun _ zz => XS.aload Xt290.here hx rfl (hb hby at_168) rfl rfl zz) ?_
          refine Gl.st (U' := (Tt290.setTop (mkF m 172 #[.val (.int p0), .val (.int p1), .val (.int p2), .val (.int fa), .val (.int fb), .val (.int kd), .val (.double dx), .second, .val (.double dy), .second, .val (.ref at271), .val (.ref r), .val (.int (0 : Int32))] [(.ref r), (.ref at271)]))) (fun _ zz => XS.aload Xt290.here hx rfl (hb hby at_170) rfl rfl zz) ?_
          refine gCallV Xt290 hx hZ (y := (⟨"com/example/ironbound_models/ironboundmodels/interpreter/RealValue", "equals", "(Ljava/lang/Object;)Z"⟩ : MethodName)) (z := (⟨"com/example/ironbound_models/ironboundmodels/interpreter/RealValue", "equals", "(Ljava/lang/Object;)Z"⟩ : MethodName)) hown (hw _ (List.mem_of_getElem? (i := 23) rfl)) (hw _ (List.mem_of_getElem? (i := 24) rfl)) (hw _ (List.mem_of_getElem? (i := 26) rfl)) (own_nf (args := #[]) (mvT hZ (hw _ (List.mem_of_getElem? (i := 26) rfl))) rfl) (hw _ (List.mem_of_getElem? (i := 25) rfl)) (hw _ (List.mem_of_getElem? (i := 4) rfl)) (hw _ (List.mem_of_getElem? (i := 27) rfl)) (by decide) (own_eqo l Z a0 hw Tt290.heap at271 r _ EX NO) (rfl : Tt290.heap = Tt290.heap) RY.1 (by decide) (W := 0) (by decide) (by decide) (by decide) (g := (mkF m 172 #[.val (.int p0), .val (.int p1), .val (.int p2), .val (.int fa), .val (.int fb), .val (.int kd), .val (.double dx), .second, .val (.double dy), .second, .val (.ref at271), .val (.ref r), .val (.int (0 : Int32))] [(.ref r), (.ref at271)])) rfl (by rw [hml]; rfl) (argsL := [(.ref r)]) (rest := []) (own_lenOf own_pOZ rfl) rfl rfl (by show 2 * 0 + _ ≤ _; exact Nat.le_of_eq rfl) (hb hby at_172) ?_
          rintro _ Tt292 Lt292 Xt292 ⟨rfl, rfl, et292⟩
          show Gl p e below _ (Tt292.setTop (mkF m 175 #[.val (.int p0), .val (.int p1), .val (.int p2), .val (.int fa), .val (.int fb), .val (.int kd), .val (.double dx), .second, .val (.double dy), .second, .val (.ref at271), .val (.ref r), .val (.int (0 : Int32))] [(.int (0 : Int32))]))
          refine Gl.st (U' := (Tt292.setTop (mkF m 177 #[.val (.int p0), .val (.int p1), .val (.int p2), .val (.int fa), .val (.int fb), .val (.int kd), .val (.double dx), .second, .val (.double dy), .second, .val (.ref at271), .val (.ref r), .val (.int (0 : Int32))] [(.int (0 : Int32)), (.int (0 : Int32))]))) (fun _ zz => XS.iload Xt292.here hx rfl (hb hby at_175) rfl zz) ?_
          have hq : (0 : Int32) = (0 : Int32) := rfl
          refine Gl.st (U' := (Tt292.setTop (mkF m 180 #[.val (.int p0), .val (.int p1), .val (.int p2), .val (.int fa), .val (.int fb), .val (.int kd), .val (.double dx), .second, .val (.double dy), .second, .val (.ref at271), .val (.ref r), .val (.int (0 : Int32))] []))) (fun _ zz => XS.icmpNo Xt292.here hx rfl (hb hby at_177) rfl (teq hq).2 zz) ?_
          refine Gl.st (U' := (Tt292.setTop (mkF m 181 #[.val (.int p0), .val (.int p1), .val (.int p2), .val (.int fa), .val (.int fb), .val (.int kd), .val (.double dx), .second, .val (.double dy), .second, .val (.ref at271), .val (.ref r), .val (.int (0 : Int32))] [(.int (1 : Int32))]))) (fun _ zz => XS.iconst Xt292.here hx rfl (hb hby at_180) zz) ?_
          refine Gl.st (U' := (Tt292.setTop (mkF m 185 #[.val (.int p0), .val (.int p1), .val (.int p2), .val (.int fa), .val (.int fb), .val (.int kd), .val (.double dx), .second, .val (.double dy), .second, .val (.ref at271), .val (.ref r), .val (.int (0 : Int32))] [(.int (1 : Int32))]))) (fun _ zz => XS.goto Xt292.here hx rfl (pc0 := 181) (pc' := 185) rfl (hb hby at_181) (by decide) (by decide) zz) ?_
          exact Gl.retZ Xt292 hx hret hlk (hb hby at_185) (Or.inr rfl) ⟨rfl, by simpa using Nt291⟩ (by decide) (by decide)
        · refine Gl.st (U' := (Tt275.setTop (mkF m 162 #[.val (.int p0), .val (.int p1), .val (.int p2), .val (.int fa), .val (.int fb), .val (.int kd), .val (.double dx), .second, .val (.double dy), .second, .val (.ref at271), .unset, .unset] []))) (fun _ zz => XS.icmpYes Xt275.here hx rfl (pc0 := 142) (pc' := 162) rfl (hb hby at_142) rfl (feq k3).2 (by decide) (by decide) zz) ?_
          refine Gl.st (U' := (Tt275.setTop (mkF m 163 #[.val (.int p0), .val (.int p1), .val (.int p2), .val (.int fa), .val (.int fb), .val (.int kd), .val (.double dx), .second, .val (.double dy), .second, .val (.ref at271), .unset, .unset] [.null]))) (fun _ zz => XS.aconstNull Xt275.here hx rfl (hb hby at_162) zz) ?_
          refine Gl.st (U' := (Tt275.setTop (mkF m 165 #[.val (.int p0), .val (.int p1), .val (.int p2), .val (.int fa), .val (.int fb), .val (.int kd), .val (.double dx), .second, .val (.double dy), .second, .val (.ref at271), .val .null, .unset] []))) (fun _ zz => XS.astore Xt275.here hx rfl (hb hby at_163) rfl rfl (l' := #[.val (.int p0), .val (.int p1), .val (.int p2), .val (.int fa), .val (.int fb), .val (.int kd), .val (.double dx), .second, .val (.double dy), .second, .val (.ref at271), .val .null, .unset]) rfl zz) ?_
          refine Gl.st (U' := (Tt275.setTop (mkF m 166 #[.val (.int p0), .val (.int p1), .val (.int p2), .val (.int fa), .val (.int fb), .val (.int kd), .val (.double dx), .second, .val (.double dy), .second, .val (.ref at271), .val .null, .unset] [(.int (0 : Int32))]))) (fun _ zz => XS.iconst Xt275.here hx rfl (hb hby at_165) zz) ?_
          refine Gl.st (U' := (Tt275.setTop (mkF m 168 #[.val (.int p0), .val (.int p1), .val (.int p2), .val (.int fa), .val (.int fb), .val (.int kd), .val (.double dx), .second, .val (.double dy), .second, .val (.ref at271), .val .null, .val (.int (0 : Int32))] []))) (fun _ zz => XS.istore Xt275.here hx rfl (hb hby at_166) rfl (l' := #[.val (.int p0), .val (.int p1), .val (.int p2), .val (.int fa), .val (.int fb), .val (.int kd), .val (.double dx), .second, .val (.double dy), .second, .val (.ref at271), .val .null, .val (.int (0 : Int32))]) rfl zz) ?_
          refine Gl.st (U' := (Tt275.setTop (mkF m 170 #[.val (.int p0), .val (.int p1), .val (.int p2), .val (.int fa), .val (.int fb), .val (.int kd), .val (.double dx), .second, .val (.double dy), .second, .val (.ref at271), .val .null, .val (.int (0 : Int32))] [(.ref at271)]))) (fun _ zz => XS.aload Xt275.here hx rfl (hb hby at_168) rfl rfl zz) ?_
          refine Gl.st (U' := (Tt275.setTop (mkF m 172 #[.val (.int p0), .val (.int p1), .val (.int p2), .val (.int fa), .val (.int fb), .val (.int kd), .val (.double dx), .second, .val (.double dy), .second, .val (.ref at271), .val .null, .val (.int (0 : Int32))] [.null, (.ref at271)]))) (fun _ zz => XS.aload Xt275.here hx rfl (hb hby at_170) rfl rfl zz) ?_
          refine gCallV Xt275 hx hZ (y := (⟨"com/example/ironbound_models/ironboundmodels/interpreter/RealValue", "equals", "(Ljava/lang/Object;)Z"⟩ : MethodName)) (z := (⟨"com/example/ironbound_models/ironboundmodels/interpreter/RealValue", "equals", "(Ljava/lang/Object;)Z"⟩ : MethodName)) hown (hw _ (List.mem_of_getElem? (i := 23) rfl)) (hw _ (List.mem_of_getElem? (i := 24) rfl)) (hw _ (List.mem_of_getElem? (i := 26) rfl)) (own_nf (args := #[]) (mvT hZ (hw _ (List.mem_of_getElem? (i := 26) rfl))) rfl) (hw _ (List.mem_of_getElem? (i := 25) rfl)) (hw _ (List.mem_of_getElem? (i := 4) rfl)) (hw _ (List.mem_of_getElem? (i := 27) rfl)) (by decide) (own_eqn l Z a0 hw Tt275.heap at271) (rfl : Tt275.heap = Tt275.heap) Rt275.1 (by decide) (W := 0) (by decide) (by decide) (by decide) (g := (mkF m 172 #[.val (.int p0), .val (.int p1), .val (.int p2), .val (.int fa), .val (.int fb), .val (.int kd), .val (.double dx), .second, .val (.double dy), .second, .val (.ref at271), .val .null, .val (.int (0 : Int32))] [.null, (.ref at271)])) rfl (by rw [hml]; rfl) (argsL := [.null]) (rest := []) (own_lenOf own_pOZ rfl) rfl rfl (by show 2 * 0 + _ ≤ _; exact Nat.le_of_eq rfl) (hb hby at_172) ?_
          rintro _ Tt293 Lt293 Xt293 ⟨rfl, rfl, et293⟩
          show Gl p e below _ (Tt293.setTop (mkF m 175 #[.val (.int p0), .val (.int p1), .val (.int p2), .val (.int fa), .val (.int fb), .val (.int kd), .val (.double dx), .second, .val (.double dy), .second, .val (.ref at271), .val .null, .val (.int (0 : Int32))] [(.int (0 : Int32))]))
          refine Gl.st (U' := (Tt293.setTop (mkF m 177 #[.val (.int p0), .val (.int p1), .val (.int p2), .val (.int fa), .val (.int fb), .val (.int kd), .val (.double dx), .second, .val (.double dy), .second, .val (.ref at271), .val .null, .val (.int (0 : Int32))] [(.int (0 : Int32)), (.int (0 : Int32))]))) (fun _ zz => XS.iload Xt293.here hx rfl (hb hby at_175) rfl zz) ?_
          have hq : (0 : Int32) = (0 : Int32) := rfl
          refine Gl.st (U' := (Tt293.setTop (mkF m 180 #[.val (.int p0), .val (.int p1), .val (.int p2), .val (.int fa), .val (.int fb), .val (.int kd), .val (.double dx), .second, .val (.double dy), .second, .val (.ref at271), .val .null, .val (.int (0 : Int32))] []))) (fun _ zz => XS.icmpNo Xt293.here hx rfl (hb hby at_177) rfl (teq hq).2 zz) ?_
          refine Gl.st (U' := (Tt293.setTop (mkF m 181 #[.val (.int p0), .val (.int p1), .val (.int p2), .val (.int fa), .val (.int fb), .val (.int kd), .val (.double dx), .second, .val (.double dy), .second, .val (.ref at271), .val .null, .val (.int (0 : Int32))] [(.int (1 : Int32))]))) (fun _ zz => XS.iconst Xt293.here hx rfl (hb hby at_180) zz) ?_
          refine Gl.st (U' := (Tt293.setTop (mkF m 185 #[.val (.int p0), .val (.int p1), .val (.int p2), .val (.int fa), .val (.int fb), .val (.int kd), .val (.double dx), .second, .val (.double dy), .second, .val (.ref at271), .val .null, .val (.int (0 : Int32))] [(.int (1 : Int32))]))) (fun _ zz => XS.goto Xt293.here hx rfl (pc0 := 181) (pc' := 185) rfl (hb hby at_181) (by decide) (by decide) zz) ?_
          exact Gl.retZ Xt293 hx hret hlk (hb hby at_185) (Or.inr rfl) ⟨rfl, by simpa using Nt276⟩ (by decide) (by decide)
set_option maxRecDepth 65536 in
set_option maxHeartbeats 40000000 in
theorem comes_1 {Post : Tables → Env → Array Value → State → Outcome → State → Prop} (hpost : ∀ tb e args s v u, (limb_1_1.after args s (.returned v) u = true ∧ limb_1_2.after args s (.returned v) u = true ∧ True) → FrameEnd s (.returned v) u (Jvm.fieldLocs frame_1_writes args s ++ Jvm.arrayLocs frame_1_arrays args s ++ Jvm.staticLocs frame_1_statics s) 16 128 → Post tb e args s (.returned v) u) :
    ArmFor flags0 classFile x code maxLocals ret World_1 tables_1 room_1 Calls_1 rest_1 Pre_1 Post := by
  intro l hfl _ _ p e ha hc hk s m args below hf hA hF happ hP
  obtain ⟨hcalls, hrest, hpre⟩ := hP
  obtain ⟨-, -, -, hnamed, -, -, -, hat⟩ := (Spec.applies_iff hf).mp happ
  obtain ⟨hg, hn⟩ := and_e (Cond.before_iff.mp (show (Jvm.Cond.and given_1 narrow_1).before args s = true from hpre))
  obtain ⟨hcount, hg⟩ := and_e hg
  obtain ⟨hg0, hg⟩ := and_e hg
  obtain ⟨hg1, hg⟩ := and_e hg
  have hg2 := hg
  obtain ⟨w0, w1, w2, rfl⟩ : ∃ w0 w1 w2 : Value, args = #[w0, w1, w2] := by
    have hs : args.size = 3 := by simpa [Cond.value, given_1] using hcount
    obtain ⟨L⟩ := args
    match L, hs with
    | [w0, w1, w2], _ => exact ⟨w0, w1, w2, rfl⟩
  have hw := fun d (hd : d ∈ tables_1) => atoms_spec (ws := Jvm.Cond.code x code maxLocals ret :: tables_1) hat d (List.mem_cons_of_mem _ hd)
  obtain ⟨hsets, hown0⟩ := atoms_of _ (rest_1_c_eq ▸ (show rest_1_c.before _ s = true from hrest))
  have hfit : Fit s := fun {y c} hc i hi => by
    obtain ⟨ha, rfl⟩ := Array.getElem?_eq_some_iff.mp hc
    have q := List.all_eq_true.mp ((Array.all_eq_true_iff_forall_mem.mp hF) _ (Array.getElem_mem ha)) i (List.mem_range.mpr hi)
    simpa [Array.getElem?_eq_getElem hi] using q
  obtain ⟨i0, ev0⟩ := is_v hg0
  obtain rfl : w0 = (.int i0) := Option.some.inj ev0
  obtain ⟨i1, ev1⟩ := is_v hg1
  obtain rfl : w1 = (.int i1) := Option.some.inj ev1
  obtain ⟨i2, ev2⟩ := is_v hg2
  obtain rfl : w2 = (.int i2) := Option.some.inj ev2
  obtain ⟨aP, evP⟩ := arr_v (Cond.before_iff.mp (hsets _ (List.mem_of_getElem? (i := 17) rfl)))
  have SP := Sta.start evP (Or.inl (hsets _ (List.mem_of_getElem? (i := 10) rfl)))
  obtain ⟨cP, AP⟩ := Arr.start evP (Cond.before_iff.mp (hsets _ (List.mem_of_getElem? (i := 17) rfl)))
  obtain ⟨z1P, z2P⟩ := own_len evP AP (eqv_i (Term.int_eval _) (Cond.before_iff.mp (hsets _ (List.mem_of_getElem? (i := 19) rfl))))
  have zP : cP.slots.size = (17 : Int32).toNatClampNeg := by rw [← z2P]; simp only [Int32.toNatClampNeg, len_toInt z1P]; rfl
  obtain ⟨aN, evN⟩ := arr_v (Cond.before_iff.mp (hsets _ (List.mem_of_getElem? (i := 123) rfl)))
  have SN := Sta.start evN (Or.inl (hsets _ (List.mem_of_getElem? (i := 120) rfl)))
  obtain ⟨cN, AN⟩ := Arr.start evN (Cond.before_iff.mp (hsets _ (List.mem_of_getElem? (i := 123) rfl)))
  obtain ⟨z1N, z2N⟩ := own_len evN AN (eqv_i (Term.int_eval _) (Cond.before_iff.mp (hsets _ (List.mem_of_getElem? (i := 125) rfl))))
  have zN : cN.slots.size = (17 : Int32).toNatClampNeg := by rw [← z2N]; simp only [Int32.toNatClampNeg, len_toInt z1N]; rfl
  obtain ⟨zv, evZ⟩ := exa_v (Cond.before_iff.mp (hsets _ (List.mem_of_getElem? (i := 225) rfl)))
  have SZ := Sta.start evZ (Or.inl (hsets _ (List.mem_of_getElem? (i := 224) rfl)))
  have nz := not_v (Cond.before_iff.mp (hsets _ (List.mem_of_getElem? (i := 2) rfl)))
  obtain ⟨G1, evG⟩ := is_v (Cond.before_iff.mp (hsets _ (List.mem_of_getElem? (i := 1) rfl)))
  have SC := Sta.start evG (Or.inl (hsets _ (List.mem_of_getElem? (i := 0) rfl)))
  have PC : ¬ (G1 = (0 : Int32)) := gotF (Cond.eq_ints evG (Term.int_eval (0))) nz
  obtain ⟨n, o, h1, h2, h3, _, L, rfl, ⟨rfl, N⟩, hq⟩ := own_law l s _ hw s.heap s.heap.size (Old.start s) hfit (.ref zv) rfl SZ aP aN cP cN SP SN AP AN zP zN G1 SC PC i0 i1 i2 p e ha hc hk s m _ below hf ((Spec.applies_iff_loose hf).mp happ).1 ⟨rfl, State.Warmed39.refl s, rfl⟩ trivial
  refine ⟨n, _, h1, h2, h3, hpost _ _ _ _ _ _ ⟨Cond.after_iff.mpr rfl, Cond.after_iff.mpr (eq_i res_at (Term.int_eval (1)) rfl), trivial⟩ ⟨hq.1, hq.2.1, (hq.2.2.sift fun y hy => Or.inr (N y hy)).mono (by decide) (by decide)⟩⟩
theorem main_1_1 : Claimed_1_1 := comes_1 fun _ _ _ _ _ _ h hF => ⟨h.1, hF⟩
theorem main_1_2 : Claimed_1_2 := comes_1 fun _ _ _ _ _ _ h hF => ⟨h.2.1, hF⟩
end Jvm.Pilot.@@N@@
namespace Jvm.Pilot.@@N@@
open Jvm Jvm.ClassFile Sem Op Lib Jvm.Free Jvm.Stand Jvm.Pilot.@@N@@.Jvm.D
/-! MADE BY PROGRAM (witnessworld.py) out of the Statement's table words and the real class files: 24 classes; the members and pool entries that the words name. The judged class is class 1, her method 1. -/
namespace start1
open Jvm.ClassFile
def u (s : String) : CpInfo := .utf8 (stringToUtf16 s)
/-- a pool by its gaps: so many unusable entries, then the entry; so many at the end -/
def gap : Nat → List CpInfo → List CpInfo
  | 0, r => r
  | n + 1, r => .unusable :: gap n r
def poolList (es : List (Nat × CpInfo)) (last : Nat) : List CpInfo := es.foldr (fun e r => gap e.1 (e.2 :: r)) (gap last [])
def pool (es : List (Nat × CpInfo)) (last : Nat) : Array CpInfo := ⟨poolList es last⟩
def fileOf (pool : Array CpInfo) (this : Nat) (attrs : Array Attribute := #[]) (ms : Array MethodInfo := #[]) (fl : Nat := 33) (sup : Nat := 0) (ifs : Array Nat := #[]) (fds : Array FieldInfo := #[]) : ClassFile where
  minorVersion := 0
  majorVersion := 65
  constantPool := pool
  accessFlags := fl
  thisClass := this
  superClass := sup
  interfaces := ifs
  fields := fds
  methods := ms
  attributes := attrs
def plain (name : String) (sup : Option ClassId) : Class where
  name := name
  kind := .ordinary
  loader := none
  accessFlags := 33
  super := sup
  interfaces := #[]
  cf := none
  fields := #[]
  methods := #[]
  instanceTypes := #[]
  staticTypes := #[]
  resolved := #[]
  callSites := []
  init := .initialized
  statics := none
  mirror := none

def pool0 : Array CpInfo := pool [(5, u "<init>"), (0, u "()V"), (1, .class_ 10), (1, u "java/lang/Object")] 113

def k0c0 : Code := { maxStack := 0, maxLocals := 1, code := object_method_1_code, exceptionTable := #[], attributes := #[] }
def k0m0 : Method := { name := "<init>", desc := "()V", sig := { parameters := [], returnType := none }, accessFlags := 1, code := some k0c0 }
/-- java/lang/Object -/
def k0 : Class := { plain "java/lang/Object" none with
  accessFlags := 33
  interfaces := #[]
  cf := some (fileOf pool0 8 #[] #[{ accessFlags := 1, nameIndex := 5, descriptorIndex := 6, attributes := #[] }] 33 0 #[] #[])
  fields := #[]
  methods := #[k0m0]
  instanceTypes := #[]
  staticTypes := #[]
  resolved := Array.replicate 124 none
  statics := none }

def pool1 : Array CpInfo := pool [(2, .class_ 4), (1, u "java/lang/Object"), (0, u "<init>"), (0, u "()V"), (0, .integer 1073741823), (0, .double 4602678819172646912), (1, .class_ 11), (0, u "com/example/ironbound_models/ironboundmodels/interpreter/RealValue"), (0, .methodref 10 13), (0, .nameAndType 5 14), (0, u "(D)V"), (0, .methodref 16 17), (0, .class_ 18), (0, .nameAndType 19 20), (0, u "com/example/ironbound_models/ironboundmodels/interpreter/NumericValue"), (0, u "of"), (0, u "(D)Lcom/example/ironbound_models/ironboundmodels/interpreter/NumericValue;"), (0, .methodref 22 23), (0, .class_ 24), (0, .nameAndType 25 26), (0, u "java/lang/String"), (0, u "valueOf"), (0, u "(C)Ljava/lang/String;"), (0, .methodref 10 28), (0, .nameAndType 29 30), (0, u "equals"), (0, u "(Ljava/lang/Object;)Z"), (0, .class_ 32), (0, u "com/example/ironbound_models/ironboundmodels/interpreter/RealValueEqualsPinLaw"), (2, u "law"), (0, u "(III)Z")] 3

def k1m0 : Method := { name := "<init>", desc := "()V", sig := { parameters := [], returnType := none }, accessFlags := 1, code := none }
def k1c1 : Code := { maxStack := 4, maxLocals := 13, code := code, exceptionTable := #[], attributes := #[] }
def k1m1 : Method := { name := "law", desc := "(III)Z", sig := { parameters := [.int, .int, .int], returnType := some .boolean }, accessFlags := 9, code := some k1c1 }
/-- com/example/ironbound_models/ironboundmodels/interpreter/RealValueEqualsPinLaw -/
def k1 : Class := { plain "com/example/ironbound_models/ironboundmodels/interpreter/RealValueEqualsPinLaw" (some 0) with
  accessFlags := 49
  interfaces := #[]
  cf := some (fileOf pool1 31 #[] #[{ accessFlags := 1, nameIndex := 5, descriptorIndex := 6, attributes := #[] }, { accessFlags := 9, nameIndex := 35, descriptorIndex := 36, attributes := #[] }] 49 2 #[] #[])
  fields := #[]
  methods := #[k1m0, k1m1]
  instanceTypes := #[]
  staticTypes := #[]
  resolved := Array.replicate 40 none
  statics := none }

def pool2 : Array CpInfo := pool [(1, .class_ 2), (0, u "java/lang/Comparable"), (0, .class_ 4), (0, u "java/lang/Object")] 7

/-- java/lang/Comparable -/
def k2 : Class := { plain "java/lang/Comparable" (some 0) with
  accessFlags := 1537
  interfaces := #[]
  cf := some (fileOf pool2 1 #[] #[] 1537 3 #[] #[])
  fields := #[]
  methods := #[]
  instanceTypes := #[]
  staticTypes := #[]
  resolved := Array.replicate 12 none
  statics := none }

def pool3 : Array CpInfo := pool [(1, .methodref 2 3), (0, .class_ 4), (0, .nameAndType 5 6), (0, u "java/lang/Object"), (0, u "<init>"), (0, u "()V"), (16, .class_ 24), (0, u "com/example/ironbound_models/ironboundmodels/interpreter/Value"), (8, .class_ 35), (1, u "com/example/ironbound_models/ironboundmodels/interpreter/Value$Kind"), (24, .class_ 61), (0, u "java/lang/Comparable")] 18

def k3c0 : Code := { maxStack := 1, maxLocals := 1, code := prog_209_method_1_code, exceptionTable := #[], attributes := #[] }
def k3m0 : Method := { name := "<init>", desc := "()V", sig := { parameters := [], returnType := none }, accessFlags := 0, code := some k3c0 }
/-- com/example/ironbound_models/ironboundmodels/interpreter/Value -/
def k3 : Class := { plain "com/example/ironbound_models/ironboundmodels/interpreter/Value" (some 0) with
  accessFlags := 1057
  interfaces := #[2]
  cf := some (fileOf pool3 23 #[.nestMembers #[33]] #[{ accessFlags := 0, nameIndex := 5, descriptorIndex := 6, attributes := #[] }] 1057 2 #[60] #[])
  fields := #[]
  methods := #[k3m0]
  instanceTypes := #[]
  staticTypes := #[]
  resolved := Array.replicate 80 none
  statics := none }

def pool4 : Array CpInfo := pool [(1, .methodref 2 3), (0, .class_ 4), (0, .nameAndType 5 6), (0, u "com/example/ironbound_models/ironboundmodels/interpreter/Value"), (0, u "<init>"), (0, u "()V"), (0, .methodref 8 9), (0, .class_ 10), (0, .nameAndType 11 12), (0, u "java/lang/Math"), (0, u "rint"), (0, u "(D)D"), (0, .class_ 14), (0, u "com/example/ironbound_models/ironboundmodels/interpreter/RealValue"), (0, .methodref 13 16), (0, .nameAndType 5 17), (0, u "(D)V"), (0, .methodref 8 19), (0, .nameAndType 20 12), (0, u "abs"), (0, .double 4886405595696988160), (1, .class_ 24), (0, u "com/example/ironbound_models/ironboundmodels/interpreter/IntegerValue"), (0, .methodref 26 27), (0, .class_ 28), (0, .nameAndType 29 30), (0, u "java/math/BigInteger"), (0, u "valueOf"), (0, u "(J)Ljava/math/BigInteger;"), (0, .methodref 23 32), (0, .nameAndType 5 33), (0, u "(Ljava/math/BigInteger;)V"), (13, .class_ 48), (0, u "com/example/ironbound_models/ironboundmodels/interpreter/NumericValue"), (30, u "of"), (0, u "(D)Lcom/example/ironbound_models/ironboundmodels/interpreter/NumericValue;")] 11

def k4c0 : Code := { maxStack := 1, maxLocals := 1, code := prog_176_method_1_code, exceptionTable := #[], attributes := #[] }
def k4m0 : Method := { name := "<init>", desc := "()V", sig := { parameters := [], returnType := none }, accessFlags := 0, code := some k4c0 }
def k4c1 : Code := { maxStack := 6, maxLocals := 3, code := prog_176_method_2_code, exceptionTable := #[], attributes := #[] }
def k4m1 : Method := { name := "of", desc := "(D)Lcom/example/ironbound_models/ironboundmodels/interpreter/NumericValue;", sig := { parameters := [.double], returnType := some (.object "com/example/ironbound_models/ironboundmodels/interpreter/NumericValue") }, accessFlags := 8, code := some k4c1 }
/-- com/example/ironbound_models/ironboundmodels/interpreter/NumericValue -/
def k4 : Class := { plain "com/example/ironbound_models/ironboundmodels/interpreter/NumericValue" (some 3) with
  accessFlags := 1057
  interfaces := #[]
  cf := some (fileOf pool4 47 #[] #[{ accessFlags := 0, nameIndex := 5, descriptorIndex := 6, attributes := #[] }, { accessFlags := 8, nameIndex := 79, descriptorIndex := 80, attributes := #[] }] 1057 2 #[] #[])
  fields := #[]
  methods := #[k4m0, k4m1]
  instanceTypes := #[]
  staticTypes := #[]
  resolved := Array.replicate 92 none
  statics := none }

def pool5 : Array CpInfo := pool [(1, .methodref 2 3), (0, .class_ 4), (0, .nameAndType 5 6), (0, u "com/example/ironbound_models/ironboundmodels/interpreter/NumericValue"), (0, u "<init>"), (0, u "()V"), (0, .fieldref 8 9), (0, .class_ 10), (0, .nameAndType 11 12), (0, u "com/example/ironbound_models/ironboundmodels/interpreter/RealValue"), (0, u "value"), (0, u "D"), (4, u "(D)V"), (16, u "equals"), (0, u "(Ljava/lang/Object;)Z")] 5

def k5c0 : Code := { maxStack := 3, maxLocals := 3, code := prog_188_method_1_code, exceptionTable := #[], attributes := #[] }
def k5m0 : Method := { name := "<init>", desc := "(D)V", sig := { parameters := [.double], returnType := none }, accessFlags := 0, code := some k5c0 }
def k5c1 : Code := { maxStack := 4, maxLocals := 2, code := prog_188_method_4_code, exceptionTable := #[], attributes := #[] }
def k5m1 : Method := { name := "equals", desc := "(Ljava/lang/Object;)Z", sig := { parameters := [(.object "java/lang/Object")], returnType := some .boolean }, accessFlags := 1, code := some k5c1 }
/-- com/example/ironbound_models/ironboundmodels/interpreter/RealValue -/
def k5 : Class := { plain "com/example/ironbound_models/ironboundmodels/interpreter/RealValue" (some 4) with
  accessFlags := 49
  interfaces := #[]
  cf := some (fileOf pool5 8 #[] #[{ accessFlags := 0, nameIndex := 5, descriptorIndex := 17, attributes := #[] }, { accessFlags := 1, nameIndex := 34, descriptorIndex := 35, attributes := #[] }] 49 2 #[] #[{ accessFlags := 18, nameIndex := 11, descriptorIndex := 12, attributes := #[] }])
  fields := #[{ name := "value", type := .double, accessFlags := 18, slot := 0, constantValue := 0 }]
  methods := #[k5m0, k5m1]
  instanceTypes := #[.double]
  staticTypes := #[]
  resolved := Array.replicate 41 none
  statics := none }

def pool6 : Array CpInfo := pool [(1, .class_ 2), (0, u "java/io/Serializable"), (0, .class_ 4), (0, u "java/lang/Object")] 2

/-- java/io/Serializable -/
def k6 : Class := { plain "java/io/Serializable" (some 0) with
  accessFlags := 1537
  interfaces := #[]
  cf := some (fileOf pool6 1 #[] #[] 1537 3 #[] #[])
  fields := #[]
  methods := #[]
  instanceTypes := #[]
  staticTypes := #[]
  resolved := Array.replicate 7 none
  statics := none }

def pool7 : Array CpInfo := pool [(2, .class_ 4), (1, u "java/lang/CharSequence"), (42, .class_ 48), (0, u "java/lang/CharSequence$1CodePointIterator"), (10, .class_ 60), (0, u "java/lang/CharSequence$1CharIterator"), (5, .class_ 67), (0, u "java/lang/Object")] 63

/-- java/lang/CharSequence -/
def k7 : Class := { plain "java/lang/CharSequence" (some 0) with
  accessFlags := 1537
  interfaces := #[]
  cf := some (fileOf pool7 2 #[.nestMembers #[47, 59]] #[] 1537 66 #[] #[])
  fields := #[]
  methods := #[]
  instanceTypes := #[]
  staticTypes := #[]
  resolved := Array.replicate 131 none
  statics := none }

def pool8 : Array CpInfo := pool [(1, .class_ 2), (0, u "java/lang/constant/Constable"), (0, .class_ 4), (0, u "java/lang/Object")] 6

/-- java/lang/constant/Constable -/
def k8 : Class := { plain "java/lang/constant/Constable" (some 0) with
  accessFlags := 1537
  interfaces := #[]
  cf := some (fileOf pool8 1 #[] #[] 1537 3 #[] #[])
  fields := #[]
  methods := #[]
  instanceTypes := #[]
  staticTypes := #[]
  resolved := Array.replicate 11 none
  statics := none }

def pool9 : Array CpInfo := pool [(1, .class_ 2), (0, u "java/lang/constant/ConstantDesc"), (0, .class_ 4), (0, u "java/lang/Object")] 32

/-- java/lang/constant/ConstantDesc -/
def k9 : Class := { plain "java/lang/constant/ConstantDesc" (some 0) with
  accessFlags := 1537
  interfaces := #[]
  cf := some (fileOf pool9 1 #[] #[] 1537 3 #[] #[])
  fields := #[]
  methods := #[]
  instanceTypes := #[]
  staticTypes := #[]
  resolved := Array.replicate 37 none
  statics := none }

def pool10 : Array CpInfo := pool [(1, .methodref 2 3), (0, .class_ 4), (0, .nameAndType 5 6), (0, u "java/lang/Object"), (0, u "<init>"), (0, u "()V"), (2, .fieldref 10 11), (0, .class_ 12), (0, .nameAndType 13 14), (0, u "java/lang/String"), (0, u "value"), (0, u "[B"), (0, .fieldref 10 16), (0, .nameAndType 17 18), (0, u "coder"), (0, u "B"), (2, u "hash"), (0, u "I"), (2, u "hashIsZero"), (0, u "Z"), (11, .fieldref 10 39), (0, .nameAndType 40 26), (0, u "COMPACT_STRINGS"), (12, u "toBytes"), (53, .class_ 109), (1, u "java/lang/StringLatin1"), (99, .methodref 10 210), (0, .nameAndType 5 211), (0, u "([BB)V"), (157, u "(C)Z"), (205, .class_ 576), (0, u "java/lang/CharSequence"), (22, u "CASE_INSENSITIVE_ORDER"), (0, u "Ljava/util/Comparator;"), (181, u "valueOf"), (0, u "(C)Ljava/lang/String;"), (231, .methodref 107 1016), (0, .nameAndType 1017 369), (0, u "canEncode"), (0, .methodref 107 1019), (0, .nameAndType 53 1020), (0, u "(C)[B"), (80, u "serialPersistentFields"), (0, u "[Ljava/io/ObjectStreamField;"), (0, .class_ 1104), (0, u "java/lang/String$CaseInsensitiveComparator"), (1, .class_ 1107), (0, u "java/io/Serializable"), (0, .class_ 1109), (0, u "java/lang/Comparable"), (0, .class_ 1111), (0, u "java/lang/constant/Constable"), (0, .class_ 1113), (0, u "java/lang/constant/ConstantDesc"), (2, u "serialVersionUID"), (0, u "J"), (3, u "REPL"), (0, u "C"), (2, u "LATIN1"), (1, u "UTF16")] 323

def k10m0 : Method := { name := "<init>", desc := "()V", sig := { parameters := [], returnType := none }, accessFlags := 1, code := none }
def k10c1 : Code := { maxStack := 4, maxLocals := 1, code := jdk_42_method_139_code, exceptionTable := #[], attributes := #[] }
def k10m1 : Method := { name := "valueOf", desc := "(C)Ljava/lang/String;", sig := { parameters := [.char], returnType := some (.object "java/lang/String") }, accessFlags := 9, code := some k10c1 }
def k10c2 : Code := { maxStack := 2, maxLocals := 3, code := jdk_42_method_151_code, exceptionTable := #[], attributes := #[] }
def k10m2 : Method := { name := "<init>", desc := "([BB)V", sig := { parameters := [(.array .byte), .byte], returnType := none }, accessFlags := 0, code := some k10c2 }
/-- java/lang/String -/
def k10 : Class := { plain "java/lang/String" (some 0) with
  accessFlags := 49
  interfaces := #[6, 2, 7, 8, 9]
  cf := some (fileOf pool10 10 #[.nestMembers #[1103]] #[{ accessFlags := 1, nameIndex := 5, descriptorIndex := 6, attributes := #[] }, { accessFlags := 9, nameIndex := 782, descriptorIndex := 783, attributes := #[] }, { accessFlags := 0, nameIndex := 5, descriptorIndex := 211, attributes := #[] }] 49 2 #[1106, 1108, 575, 1110, 1112] #[{ accessFlags := 18, nameIndex := 13, descriptorIndex := 14, attributes := #[] }, { accessFlags := 18, nameIndex := 17, descriptorIndex := 18, attributes := #[] }, { accessFlags := 2, nameIndex := 21, descriptorIndex := 22, attributes := #[] }, { accessFlags := 2, nameIndex := 25, descriptorIndex := 26, attributes := #[] }, { accessFlags := 26, nameIndex := 1116, descriptorIndex := 1117, attributes := #[] }, { accessFlags := 24, nameIndex := 40, descriptorIndex := 26, attributes := #[] }, { accessFlags := 26, nameIndex := 1101, descriptorIndex := 1102, attributes := #[] }, { accessFlags := 26, nameIndex := 1121, descriptorIndex := 1122, attributes := #[] }, { accessFlags := 25, nameIndex := 599, descriptorIndex := 600, attributes := #[] }, { accessFlags := 24, nameIndex := 1125, descriptorIndex := 18, attributes := #[] }, { accessFlags := 24, nameIndex := 1127, descriptorIndex := 18, attributes := #[] }])
  fields := #[{ name := "value", type := (.array .byte), accessFlags := 18, slot := 0, constantValue := 0 }, { name := "coder", type := .byte, accessFlags := 18, slot := 1, constantValue := 0 }, { name := "hash", type := .int, accessFlags := 2, slot := 2, constantValue := 0 }, { name := "hashIsZero", type := .boolean, accessFlags := 2, slot := 3, constantValue := 0 }, { name := "serialVersionUID", type := .long, accessFlags := 26, slot := 0, constantValue := 0 }, { name := "COMPACT_STRINGS", type := .boolean, accessFlags := 24, slot := 1, constantValue := 0 }, { name := "serialPersistentFields", type := (.array (.object "java/io/ObjectStreamField")), accessFlags := 26, slot := 2, constantValue := 0 }, { name := "REPL", type := .char, accessFlags := 26, slot := 3, constantValue := 0 }, { name := "CASE_INSENSITIVE_ORDER", type := (.object "java/util/Comparator"), accessFlags := 25, slot := 4, constantValue := 0 }, { name := "LATIN1", type := .byte, accessFlags := 24, slot := 5, constantValue := 0 }, { name := "UTF16", type := .byte, accessFlags := 24, slot := 6, constantValue := 0 }]
  methods := #[k10m0, k10m1, k10m2]
  instanceTypes := #[(.array .byte), .byte, .int, .boolean]
  staticTypes := #[.long, .boolean, (.array (.object "java/io/ObjectStreamField")), .char, (.object "java/util/Comparator"), .byte, .byte]
  resolved := Array.replicate 1451 none
  statics := some 0 }

def pool11 : Array CpInfo := pool [(4, .class_ 6), (1, u "java/lang/Object"), (0, u "<init>"), (0, u "()V"), (5, .class_ 16), (1, u "java/lang/StringLatin1"), (73, u "canEncode"), (14, u "(C)Z"), (15, u "$assertionsDisabled"), (0, u "Z"), (98, .class_ 223), (1, u "java/lang/StringLatin1$LinesSpliterator"), (156, u "toBytes"), (1, u "(C)[B"), (7, .class_ 391), (0, u "java/lang/StringLatin1$CharsSpliterator")] 3

def k11m0 : Method := { name := "<init>", desc := "()V", sig := { parameters := [], returnType := none }, accessFlags := 0, code := none }
def k11c1 : Code := { maxStack := 2, maxLocals := 1, code := jdk_43_method_3_code, exceptionTable := #[], attributes := #[] }
def k11m1 : Method := { name := "canEncode", desc := "(C)Z", sig := { parameters := [.char], returnType := some .boolean }, accessFlags := 9, code := some k11c1 }
def k11c2 : Code := { maxStack := 4, maxLocals := 1, code := jdk_43_method_46_code, exceptionTable := #[], attributes := #[] }
def k11m2 : Method := { name := "toBytes", desc := "(C)[B", sig := { parameters := [.char], returnType := some (.array .byte) }, accessFlags := 9, code := some k11c2 }
/-- java/lang/StringLatin1 -/
def k11 : Class := { plain "java/lang/StringLatin1" (some 0) with
  accessFlags := 48
  interfaces := #[]
  cf := some (fileOf pool11 14 #[.nestMembers #[390, 221]] #[{ accessFlags := 0, nameIndex := 7, descriptorIndex := 8, attributes := #[] }, { accessFlags := 9, nameIndex := 90, descriptorIndex := 105, attributes := #[] }, { accessFlags := 9, nameIndex := 380, descriptorIndex := 382, attributes := #[] }] 48 4 #[] #[{ accessFlags := 4120, nameIndex := 121, descriptorIndex := 122, attributes := #[] }])
  fields := #[{ name := "$assertionsDisabled", type := .boolean, accessFlags := 4120, slot := 0, constantValue := 0 }]
  methods := #[k11m0, k11m1, k11m2]
  instanceTypes := #[]
  staticTypes := #[.boolean]
  resolved := Array.replicate 395 none
  statics := none }

def pool12 : Array CpInfo := pool [(1, .class_ 2), (0, u "java/lang/Math"), (1, .class_ 6), (1, u "java/lang/Object"), (0, u "<init>"), (0, u "()V"), (1, .class_ 12), (1, u "java/lang/StrictMath"), (1, u "(D)D"), (37, u "(DD)D"), (6, .methodref 10 60), (0, .nameAndType 61 14), (0, u "rint"), (36, .class_ 100), (1, u "java/lang/Math$RandomNumberGeneratorHolder"), (23, u "abs"), (47, u "negativeZeroFloatBits"), (0, u "J"), (2, u "negativeZeroDoubleBits"), (68, u "$assertionsDisabled"), (0, u "Z"), (54, u "copySign"), (36, u "twoToTheDoubleScaleDown"), (0, u "D"), (4, u "twoToTheDoubleScaleUp"), (9, u "E"), (3, u "PI"), (2, u "TAU"), (2, u "DEGREES_TO_RADIANS"), (0, u "RADIANS_TO_DEGREES")] 94

def k12m0 : Method := { name := "<init>", desc := "()V", sig := { parameters := [], returnType := none }, accessFlags := 2, code := none }
def k12c1 : Code := { maxStack := 2, maxLocals := 2, code := jdk_29_method_18_code, exceptionTable := #[], attributes := #[] }
def k12m1 : Method := { name := "rint", desc := "(D)D", sig := { parameters := [.double], returnType := some .double }, accessFlags := 9, code := some k12c1 }
def k12c2 : Code := { maxStack := 4, maxLocals := 2, code := jdk_29_method_64_code, exceptionTable := #[], attributes := #[] }
def k12m2 : Method := { name := "abs", desc := "(D)D", sig := { parameters := [.double], returnType := some .double }, accessFlags := 9, code := some k12c2 }
def k12c3 : Code := { maxStack := 6, maxLocals := 4, code := jdk_29_method_89_code, exceptionTable := #[], attributes := #[] }
def k12m3 : Method := { name := "copySign", desc := "(DD)D", sig := { parameters := [.double, .double], returnType := some .double }, accessFlags := 9, code := some k12c3 }
/-- java/lang/Math -/
def k12 : Class := { plain "java/lang/Math" (some 0) with
  accessFlags := 49
  interfaces := #[]
  cf := some (fileOf pool12 1 #[.nestMembers #[98]] #[{ accessFlags := 2, nameIndex := 7, descriptorIndex := 8, attributes := #[] }, { accessFlags := 9, nameIndex := 61, descriptorIndex := 14, attributes := #[] }, { accessFlags := 9, nameIndex := 124, descriptorIndex := 14, attributes := #[] }, { accessFlags := 9, nameIndex := 301, descriptorIndex := 52, attributes := #[] }] 49 4 #[] #[{ accessFlags := 25, nameIndex := 354, descriptorIndex := 339, attributes := #[] }, { accessFlags := 25, nameIndex := 358, descriptorIndex := 339, attributes := #[] }, { accessFlags := 25, nameIndex := 361, descriptorIndex := 339, attributes := #[] }, { accessFlags := 26, nameIndex := 364, descriptorIndex := 339, attributes := #[] }, { accessFlags := 26, nameIndex := 365, descriptorIndex := 339, attributes := #[] }, { accessFlags := 26, nameIndex := 172, descriptorIndex := 173, attributes := #[] }, { accessFlags := 26, nameIndex := 176, descriptorIndex := 173, attributes := #[] }, { accessFlags := 8, nameIndex := 344, descriptorIndex := 339, attributes := #[] }, { accessFlags := 8, nameIndex := 338, descriptorIndex := 339, attributes := #[] }, { accessFlags := 4120, nameIndex := 245, descriptorIndex := 246, attributes := #[] }])
  fields := #[{ name := "E", type := .double, accessFlags := 25, slot := 0, constantValue := 0 }, { name := "PI", type := .double, accessFlags := 25, slot := 1, constantValue := 0 }, { name := "TAU", type := .double, accessFlags := 25, slot := 2, constantValue := 0 }, { name := "DEGREES_TO_RADIANS", type := .double, accessFlags := 26, slot := 3, constantValue := 0 }, { name := "RADIANS_TO_DEGREES", type := .double, accessFlags := 26, slot := 4, constantValue := 0 }, { name := "negativeZeroFloatBits", type := .long, accessFlags := 26, slot := 5, constantValue := 0 }, { name := "negativeZeroDoubleBits", type := .long, accessFlags := 26, slot := 6, constantValue := 0 }, { name := "twoToTheDoubleScaleUp", type := .double, accessFlags := 8, slot := 7, constantValue := 0 }, { name := "twoToTheDoubleScaleDown", type := .double, accessFlags := 8, slot := 8, constantValue := 0 }, { name := "$assertionsDisabled", type := .boolean, accessFlags := 4120, slot := 9, constantValue := 0 }]
  methods := #[k12m0, k12m1, k12m2, k12m3]
  instanceTypes := #[]
  staticTypes := #[.double, .double, .double, .double, .double, .long, .long, .double, .double, .boolean]
  resolved := Array.replicate 460 none
  statics := none }

def pool13 : Array CpInfo := pool [(1, .class_ 2), (0, u "java/lang/StrictMath"), (1, .class_ 6), (1, u "java/lang/Object"), (0, u "<init>"), (0, u "()V"), (5, u "(D)D"), (16, .class_ 33), (1, u "java/lang/Math"), (23, u "(DD)D"), (14, u "$assertionsDisabled"), (0, u "Z"), (19, .double 4841369599423283200), (1, .methodref 31 96), (0, .nameAndType 97 57), (0, u "copySign"), (0, .methodref 31 99), (0, .nameAndType 100 14), (0, u "abs"), (13, .class_ 116), (1, u "java/lang/StrictMath$RandomNumberGeneratorHolder"), (222, u "E"), (0, u "D"), (3, u "PI"), (2, u "TAU"), (38, u "rint")] 49

def k13m0 : Method := { name := "<init>", desc := "()V", sig := { parameters := [], returnType := none }, accessFlags := 2, code := none }
def k13c1 : Code := { maxStack := 4, maxLocals := 6, code := jdk_128_method_19_code, exceptionTable := #[], attributes := #[] }
def k13m1 : Method := { name := "rint", desc := "(D)D", sig := { parameters := [.double], returnType := some .double }, accessFlags := 9, code := some k13c1 }
/-- java/lang/StrictMath -/
def k13 : Class := { plain "java/lang/StrictMath" (some 0) with
  accessFlags := 49
  interfaces := #[]
  cf := some (fileOf pool13 1 #[.nestMembers #[114]] #[{ accessFlags := 2, nameIndex := 7, descriptorIndex := 8, attributes := #[] }, { accessFlags := 9, nameIndex := 386, descriptorIndex := 14, attributes := #[] }] 49 4 #[] #[{ accessFlags := 25, nameIndex := 339, descriptorIndex := 340, attributes := #[] }, { accessFlags := 25, nameIndex := 344, descriptorIndex := 340, attributes := #[] }, { accessFlags := 25, nameIndex := 347, descriptorIndex := 340, attributes := #[] }, { accessFlags := 4120, nameIndex := 72, descriptorIndex := 73, attributes := #[] }])
  fields := #[{ name := "E", type := .double, accessFlags := 25, slot := 0, constantValue := 0 }, { name := "PI", type := .double, accessFlags := 25, slot := 1, constantValue := 0 }, { name := "TAU", type := .double, accessFlags := 25, slot := 2, constantValue := 0 }, { name := "$assertionsDisabled", type := .boolean, accessFlags := 4120, slot := 3, constantValue := 0 }]
  methods := #[k13m0, k13m1]
  instanceTypes := #[]
  staticTypes := #[.double, .double, .double, .boolean]
  resolved := Array.replicate 436 none
  statics := none }

def pool14 : Array CpInfo := pool [(1, .methodref 2 3), (0, .class_ 4), (0, .nameAndType 5 6), (0, u "com/example/ironbound_models/ironboundmodels/interpreter/NumericValue"), (0, u "<init>"), (0, u "()V"), (0, .fieldref 8 9), (0, .class_ 10), (0, .nameAndType 11 12), (0, u "com/example/ironbound_models/ironboundmodels/interpreter/IntegerValue"), (0, u "value"), (0, u "Ljava/math/BigInteger;"), (10, u "(Ljava/math/BigInteger;)V")] 21

def k14c0 : Code := { maxStack := 2, maxLocals := 2, code := prog_161_method_1_code, exceptionTable := #[], attributes := #[] }
def k14m0 : Method := { name := "<init>", desc := "(Ljava/math/BigInteger;)V", sig := { parameters := [(.object "java/math/BigInteger")], returnType := none }, accessFlags := 1, code := some k14c0 }
/-- com/example/ironbound_models/ironboundmodels/interpreter/IntegerValue -/
def k14 : Class := { plain "com/example/ironbound_models/ironboundmodels/interpreter/IntegerValue" (some 4) with
  accessFlags := 49
  interfaces := #[]
  cf := some (fileOf pool14 8 #[] #[{ accessFlags := 1, nameIndex := 5, descriptorIndex := 23, attributes := #[] }] 49 2 #[] #[{ accessFlags := 18, nameIndex := 11, descriptorIndex := 12, attributes := #[] }])
  fields := #[{ name := "value", type := (.object "java/math/BigInteger"), accessFlags := 18, slot := 0, constantValue := 0 }]
  methods := #[k14m0]
  instanceTypes := #[(.object "java/math/BigInteger")]
  staticTypes := #[]
  resolved := Array.replicate 45 none
  statics := none }

def pool15 : Array CpInfo := pool [(1, .methodref 2 3), (0, .class_ 4), (0, .nameAndType 5 6), (0, u "java/lang/Object"), (0, u "<init>"), (0, u "()V"), (1, .class_ 10), (1, u "java/lang/Number"), (2, .class_ 14), (0, u "java/io/Serializable"), (0, u "serialVersionUID"), (0, u "J")] 20

def k15c0 : Code := { maxStack := 1, maxLocals := 1, code := jdk_18_method_1_code, exceptionTable := #[], attributes := #[] }
def k15m0 : Method := { name := "<init>", desc := "()V", sig := { parameters := [], returnType := none }, accessFlags := 1, code := some k15c0 }
/-- java/lang/Number -/
def k15 : Class := { plain "java/lang/Number" (some 0) with
  accessFlags := 1057
  interfaces := #[6]
  cf := some (fileOf pool15 8 #[] #[{ accessFlags := 1, nameIndex := 5, descriptorIndex := 6, attributes := #[] }] 1057 2 #[13] #[{ accessFlags := 26, nameIndex := 15, descriptorIndex := 16, attributes := #[] }])
  fields := #[{ name := "serialVersionUID", type := .long, accessFlags := 26, slot := 0, constantValue := 0 }]
  methods := #[k15m0]
  instanceTypes := #[]
  staticTypes := #[.long]
  resolved := Array.replicate 37 none
  statics := none }

def pool16 : Array CpInfo := pool [(3, .methodref 4 5), (0, .class_ 6), (0, .nameAndType 7 8), (0, u "java/lang/Number"), (0, u "<init>"), (0, u "()V"), (13, .fieldref 23 24), (0, .class_ 25), (0, .nameAndType 26 27), (0, u "java/math/BigInteger"), (0, u "ZERO"), (0, u "Ljava/math/BigInteger;"), (0, .fieldref 23 29), (0, .nameAndType 30 31), (0, u "mag"), (0, u "[I"), (0, .fieldref 23 33), (0, .nameAndType 34 35), (0, u "signum"), (0, u "I"), (59, u "bitsPerDigit"), (0, u "[J"), (9, u "digitsPerInt"), (12, u "intRadix"), (60, u "SMALL_PRIME_PRODUCT"), (56, u "valueOf"), (0, u "(J)Ljava/math/BigInteger;"), (21, u "ONE"), (6, u "TWO"), (43, u "$assertionsDisabled"), (0, u "Z"), (32, .long 16), (1, .fieldref 23 348), (0, .nameAndType 349 350), (0, u "posConst"), (0, u "[Ljava/math/BigInteger;"), (0, .long 18446744073709551600), (1, .fieldref 23 354), (0, .nameAndType 355 350), (0, u "negConst"), (0, .methodref 23 357), (0, .nameAndType 7 358), (0, u "(J)V"), (113, .class_ 474), (1, u "java/math/BigInteger$RecursiveOp"), (106, u "NEGATIVE_ONE"), (91, u "bnExpModThreshTable"), (72, u "lowestSetBitPlusTwo"), (2, u "bitLengthPlusOne"), (2, u "bitCountPlusOne"), (6, u "LOG_TWO"), (0, u "D"), (2, u "logCache"), (0, u "[D"), (13, u "NUM_ZEROS"), (2, u "ZEROS"), (0, u "Ljava/lang/String;"), (9, u "longRadix"), (5, u "digitsPerLong"), (22, u "powerCache"), (0, u "[[Ljava/math/BigInteger;"), (45, u "firstNonzeroIntNumPlusTwo"), (38, .class_ 909), (1, u "java/math/BigInteger$UnsafeHolder"), (141, u "TEN"), (106, u "serialPersistentFields"), (0, u "[Ljava/io/ObjectStreamField;"), (0, .class_ 1161), (0, u "java/lang/Comparable"), (0, u "LONG_MASK"), (0, u "J"), (1, u "MAX_MAG_LENGTH"), (0, u "PRIME_SEARCH_BIT_LENGTH_LIMIT"), (1, u "KARATSUBA_THRESHOLD"), (1, u "TOOM_COOK_THRESHOLD"), (1, u "KARATSUBA_SQUARE_THRESHOLD"), (1, u "TOOM_COOK_SQUARE_THRESHOLD"), (1, u "BURNIKEL_ZIEGLER_THRESHOLD"), (0, u "BURNIKEL_ZIEGLER_OFFSET"), (1, u "SCHOENHAGE_BASE_CONVERSION_THRESHOLD"), (1, u "MULTIPLY_SQUARE_THRESHOLD"), (0, u "MONTGOMERY_INTRINSIC_THRESHOLD"), (1, u "SMALL_PRIME_THRESHOLD"), (1, u "DEFAULT_PRIME_CERTAINTY"), (1, u "MAX_CONSTANT"), (3, u "serialVersionUID"), (338, .class_ 1532), (0, u "java/math/BigInteger$RecursiveOp$RecursiveSquare"), (0, .class_ 1534), (0, u "java/math/BigInteger$RecursiveOp$RecursiveMultiply")] 7

def k16c0 : Code := { maxStack := 4, maxLocals := 2, code := jdk_2097_method_29_code, exceptionTable := #[], attributes := #[] }
def k16m0 : Method := { name := "valueOf", desc := "(J)Ljava/math/BigInteger;", sig := { parameters := [.long], returnType := some (.object "java/math/BigInteger") }, accessFlags := 9, code := some k16c0 }
def k16c1 : Code := { maxStack := 4, maxLocals := 4, code := jdk_2097_method_30_code, exceptionTable := #[], attributes := #[] }
def k16m1 : Method := { name := "<init>", desc := "(J)V", sig := { parameters := [.long], returnType := none }, accessFlags := 2, code := some k16c1 }
/-- java/math/BigInteger -/
def k16 : Class := { plain "java/math/BigInteger" (some 15) with
  accessFlags := 33
  interfaces := #[2]
  cf := some (fileOf pool16 23 #[.nestMembers #[907, 472, 1531, 1533]] #[{ accessFlags := 9, nameIndex := 237, descriptorIndex := 238, attributes := #[] }, { accessFlags := 2, nameIndex := 7, descriptorIndex := 358, attributes := #[] }] 33 4 #[1160] #[{ accessFlags := 16, nameIndex := 34, descriptorIndex := 35, attributes := #[] }, { accessFlags := 16, nameIndex := 30, descriptorIndex := 31, attributes := #[] }, { accessFlags := 2, nameIndex := 752, descriptorIndex := 35, attributes := #[] }, { accessFlags := 2, nameIndex := 749, descriptorIndex := 35, attributes := #[] }, { accessFlags := 2, nameIndex := 746, descriptorIndex := 35, attributes := #[] }, { accessFlags := 2, nameIndex := 868, descriptorIndex := 35, attributes := #[] }, { accessFlags := 24, nameIndex := 1162, descriptorIndex := 1163, attributes := #[] }, { accessFlags := 26, nameIndex := 1165, descriptorIndex := 35, attributes := #[] }, { accessFlags := 26, nameIndex := 1166, descriptorIndex := 35, attributes := #[] }, { accessFlags := 26, nameIndex := 1168, descriptorIndex := 35, attributes := #[] }, { accessFlags := 26, nameIndex := 1170, descriptorIndex := 35, attributes := #[] }, { accessFlags := 26, nameIndex := 1172, descriptorIndex := 35, attributes := #[] }, { accessFlags := 26, nameIndex := 1174, descriptorIndex := 35, attributes := #[] }, { accessFlags := 24, nameIndex := 1176, descriptorIndex := 35, attributes := #[] }, { accessFlags := 24, nameIndex := 1177, descriptorIndex := 35, attributes := #[] }, { accessFlags := 26, nameIndex := 1179, descriptorIndex := 35, attributes := #[] }, { accessFlags := 26, nameIndex := 1181, descriptorIndex := 35, attributes := #[] }, { accessFlags := 26, nameIndex := 1182, descriptorIndex := 35, attributes := #[] }, { accessFlags := 10, nameIndex := 95, descriptorIndex := 96, attributes := #[] }, { accessFlags := 26, nameIndex := 1184, descriptorIndex := 35, attributes := #[] }, { accessFlags := 26, nameIndex := 1186, descriptorIndex := 35, attributes := #[] }, { accessFlags := 26, nameIndex := 180, descriptorIndex := 27, attributes := #[] }, { accessFlags := 26, nameIndex := 1188, descriptorIndex := 35, attributes := #[] }, { accessFlags := 26, nameIndex := 349, descriptorIndex := 350, attributes := #[] }, { accessFlags := 26, nameIndex := 355, descriptorIndex := 350, attributes := #[] }, { accessFlags := 74, nameIndex := 821, descriptorIndex := 822, attributes := #[] }, { accessFlags := 26, nameIndex := 763, descriptorIndex := 764, attributes := #[] }, { accessFlags := 26, nameIndex := 759, descriptorIndex := 760, attributes := #[] }, { accessFlags := 25, nameIndex := 26, descriptorIndex := 27, attributes := #[] }, { accessFlags := 25, nameIndex := 260, descriptorIndex := 27, attributes := #[] }, { accessFlags := 25, nameIndex := 267, descriptorIndex := 27, attributes := #[] }, { accessFlags := 26, nameIndex := 581, descriptorIndex := 27, attributes := #[] }, { accessFlags := 25, nameIndex := 1051, descriptorIndex := 27, attributes := #[] }, { accessFlags := 8, nameIndex := 673, descriptorIndex := 31, attributes := #[] }, { accessFlags := 10, nameIndex := 778, descriptorIndex := 35, attributes := #[] }, { accessFlags := 26, nameIndex := 781, descriptorIndex := 782, attributes := #[] }, { accessFlags := 10, nameIndex := 798, descriptorIndex := 31, attributes := #[] }, { accessFlags := 10, nameIndex := 792, descriptorIndex := 350, attributes := #[] }, { accessFlags := 10, nameIndex := 106, descriptorIndex := 31, attributes := #[] }, { accessFlags := 10, nameIndex := 119, descriptorIndex := 31, attributes := #[] }, { accessFlags := 26, nameIndex := 1192, descriptorIndex := 1163, attributes := #[] }, { accessFlags := 26, nameIndex := 1158, descriptorIndex := 1159, attributes := #[] }, { accessFlags := 4120, nameIndex := 311, descriptorIndex := 312, attributes := #[] }])
  fields := #[{ name := "signum", type := .int, accessFlags := 16, slot := 0, constantValue := 0 }, { name := "mag", type := (.array .int), accessFlags := 16, slot := 1, constantValue := 0 }, { name := "bitCountPlusOne", type := .int, accessFlags := 2, slot := 2, constantValue := 0 }, { name := "bitLengthPlusOne", type := .int, accessFlags := 2, slot := 3, constantValue := 0 }, { name := "lowestSetBitPlusTwo", type := .int, accessFlags := 2, slot := 4, constantValue := 0 }, { name := "firstNonzeroIntNumPlusTwo", type := .int, accessFlags := 2, slot := 5, constantValue := 0 }, { name := "LONG_MASK", type := .long, accessFlags := 24, slot := 0, constantValue := 0 }, { name := "MAX_MAG_LENGTH", type := .int, accessFlags := 26, slot := 1, constantValue := 0 }, { name := "PRIME_SEARCH_BIT_LENGTH_LIMIT", type := .int, accessFlags := 26, slot := 2, constantValue := 0 }, { name := "KARATSUBA_THRESHOLD", type := .int, accessFlags := 26, slot := 3, constantValue := 0 }, { name := "TOOM_COOK_THRESHOLD", type := .int, accessFlags := 26, slot := 4, constantValue := 0 }, { name := "KARATSUBA_SQUARE_THRESHOLD", type := .int, accessFlags := 26, slot := 5, constantValue := 0 }, { name := "TOOM_COOK_SQUARE_THRESHOLD", type := .int, accessFlags := 26, slot := 6, constantValue := 0 }, { name := "BURNIKEL_ZIEGLER_THRESHOLD", type := .int, accessFlags := 24, slot := 7, constantValue := 0 }, { name := "BURNIKEL_ZIEGLER_OFFSET", type := .int, accessFlags := 24, slot := 8, constantValue := 0 }, { name := "SCHOENHAGE_BASE_CONVERSION_THRESHOLD", type := .int, accessFlags := 26, slot := 9, constantValue := 0 }, { name := "MULTIPLY_SQUARE_THRESHOLD", type := .int, accessFlags := 26, slot := 10, constantValue := 0 }, { name := "MONTGOMERY_INTRINSIC_THRESHOLD", type := .int, accessFlags := 26, slot := 11, constantValue := 0 }, { name := "bitsPerDigit", type := (.array .long), accessFlags := 10, slot := 12, constantValue := 0 }, { name := "SMALL_PRIME_THRESHOLD", type := .int, accessFlags := 26, slot := 13, constantValue := 0 }, { name := "DEFAULT_PRIME_CERTAINTY", type := .int, accessFlags := 26, slot := 14, constantValue := 0 }, { name := "SMALL_PRIME_PRODUCT", type := (.object "java/math/BigInteger"), accessFlags := 26, slot := 15, constantValue := 0 }, { name := "MAX_CONSTANT", type := .int, accessFlags := 26, slot := 16, constantValue := 0 }, { name := "posConst", type := (.array (.object "java/math/BigInteger")), accessFlags := 26, slot := 17, constantValue := 0 }, { name := "negConst", type := (.array (.object "java/math/BigInteger")), accessFlags := 26, slot := 18, constantValue := 0 }, { name := "powerCache", type := (.array (.array (.object "java/math/BigInteger"))), accessFlags := 74, slot := 19, constantValue := 0 }, { name := "logCache", type := (.array .double), accessFlags := 26, slot := 20, constantValue := 0 }, { name := "LOG_TWO", type := .double, accessFlags := 26, slot := 21, constantValue := 0 }, { name := "ZERO", type := (.object "java/math/BigInteger"), accessFlags := 25, slot := 22, constantValue := 0 }, { name := "ONE", type := (.object "java/math/BigInteger"), accessFlags := 25, slot := 23, constantValue := 0 }, { name := "TWO", type := (.object "java/math/BigInteger"), accessFlags := 25, slot := 24, constantValue := 0 }, { name := "NEGATIVE_ONE", type := (.object "java/math/BigInteger"), accessFlags := 26, slot := 25, constantValue := 0 }, { name := "TEN", type := (.object "java/math/BigInteger"), accessFlags := 25, slot := 26, constantValue := 0 }, { name := "bnExpModThreshTable", type := (.array .int), accessFlags := 8, slot := 27, constantValue := 0 }, { name := "NUM_ZEROS", type := .int, accessFlags := 10, slot := 28, constantValue := 0 }, { name := "ZEROS", type := (.object "java/lang/String"), accessFlags := 26, slot := 29, constantValue := 0 }, { name := "digitsPerLong", type := (.array .int), accessFlags := 10, slot := 30, constantValue := 0 }, { name := "longRadix", type := (.array (.object "java/math/BigInteger")), accessFlags := 10, slot := 31, constantValue := 0 }, { name := "digitsPerInt", type := (.array .int), accessFlags := 10, slot := 32, constantValue := 0 }, { name := "intRadix", type := (.array .int), accessFlags := 10, slot := 33, constantValue := 0 }, { name := "serialVersionUID", type := .long, accessFlags := 26, slot := 34, constantValue := 0 }, { name := "serialPersistentFields", type := (.array (.object "java/io/ObjectStreamField")), accessFlags := 26, slot := 35, constantValue := 0 }, { name := "$assertionsDisabled", type := .boolean, accessFlags := 4120, slot := 36, constantValue := 0 }]
  methods := #[k16m0, k16m1]
  instanceTypes := #[.int, (.array .int), .int, .int, .int, .int]
  staticTypes := #[.long, .int, .int, .int, .int, .int, .int, .int, .int, .int, .int, .int, (.array .long), .int, .int, (.object "java/math/BigInteger"), .int, (.array (.object "java/math/BigInteger")), (.array (.object "java/math/BigInteger")), (.array (.array (.object "java/math/BigInteger"))), (.array .double), .double, (.object "java/math/BigInteger"), (.object "java/math/BigInteger"), (.object "java/math/BigInteger"), (.object "java/math/BigInteger"), (.object "java/math/BigInteger"), (.array .int), .int, (.object "java/lang/String"), (.array .int), (.array (.object "java/math/BigInteger")), (.array .int), (.array .int), .long, (.array (.object "java/io/ObjectStreamField")), .boolean]
  resolved := Array.replicate 1542 none
  statics := some 1 }

def pool17 : Array CpInfo := pool [(2, .class_ 4), (1, u "java/lang/Object"), (0, u "<init>"), (0, u "()V"), (17, .class_ 26), (1, u "jdk/internal/util/Preconditions"), (28, .class_ 56), (0, u "jdk/internal/util/Preconditions$4"), (57, .class_ 115), (0, u "jdk/internal/util/Preconditions$1"), (7, u "SIOOBE_FORMATTER"), (0, u "Ljava/util/function/BiFunction;"), (0, .class_ 126), (0, u "jdk/internal/util/Preconditions$2"), (3, u "AIOOBE_FORMATTER"), (0, .class_ 132), (0, u "jdk/internal/util/Preconditions$3"), (3, u "IOOBE_FORMATTER")] 57

def k17m0 : Method := { name := "<init>", desc := "()V", sig := { parameters := [], returnType := none }, accessFlags := 1, code := none }
/-- jdk/internal/util/Preconditions -/
def k17 : Class := { plain "jdk/internal/util/Preconditions" (some 0) with
  accessFlags := 33
  interfaces := #[]
  cf := some (fileOf pool17 24 #[.nestMembers #[55, 131, 125, 114]] #[{ accessFlags := 1, nameIndex := 5, descriptorIndex := 6, attributes := #[] }] 33 2 #[] #[{ accessFlags := 25, nameIndex := 123, descriptorIndex := 124, attributes := #[] }, { accessFlags := 25, nameIndex := 130, descriptorIndex := 124, attributes := #[] }, { accessFlags := 25, nameIndex := 136, descriptorIndex := 124, attributes := #[] }])
  fields := #[{ name := "SIOOBE_FORMATTER", type := (.object "java/util/function/BiFunction"), accessFlags := 25, slot := 0, constantValue := 0 }, { name := "AIOOBE_FORMATTER", type := (.object "java/util/function/BiFunction"), accessFlags := 25, slot := 1, constantValue := 0 }, { name := "IOOBE_FORMATTER", type := (.object "java/util/function/BiFunction"), accessFlags := 25, slot := 2, constantValue := 0 }]
  methods := #[k17m0]
  instanceTypes := #[]
  staticTypes := #[(.object "java/util/function/BiFunction"), (.object "java/util/function/BiFunction"), (.object "java/util/function/BiFunction")]
  resolved := Array.replicate 194 none
  statics := some 2 }

def pool18 : Array CpInfo := pool [(1, u "java/lang/Cloneable"), (0, .class_ 1), (0, u "java/lang/Object"), (0, .class_ 3)] 3

/-- java/lang/Cloneable -/
def k18 : Class := { plain "java/lang/Cloneable" (some 0) with
  accessFlags := 1537
  interfaces := #[]
  cf := some (fileOf pool18 2 #[] #[] 1537 4 #[] #[])
  fields := #[]
  methods := #[]
  instanceTypes := #[]
  staticTypes := #[]
  resolved := Array.replicate 8 none
  statics := none }

/-- the primitive byte -/
def k19 : Class := { plain "byte" none with kind := .primitive 'B', accessFlags := 0x411 }
/-- [B -/
def k20 : Class := { plain "[B" (some 0) with kind := .array 19 .byte, interfaces := #[18, 6], accessFlags := 1041 }

/-- the primitive int -/
def k21 : Class := { plain "int" none with kind := .primitive 'I', accessFlags := 0x411 }
/-- [I -/
def k22 : Class := { plain "[I" (some 0) with kind := .array 21 .int, interfaces := #[18, 6], accessFlags := 1041 }

/-- [Ljava/math/BigInteger; -/
def k23 : Class := { plain "[Ljava/math/BigInteger;" (some 0) with kind := .array 16 (.object "java/math/BigInteger"), interfaces := #[18, 6], accessFlags := 1041 }

def k24 : Class := plain "jdk/internal/util/ArraysSupport" (some 0)
def heap : Heap := #[{ cls := 10, slots := #[.long 0, .int 1, .null, .int 0, .null, .int 0, .int 0], vm := .statics 10 },
  { cls := 16, slots := #[.long 0, .int 0, .int 0, .int 0, .int 0, .int 0, .int 0, .int 0, .int 0, .int 0, .int 0, .int 0, .null, .int 0, .int 0, .null, .int 0, .ref 3, .ref 4, .null, .null, .double 0, .ref 53, .ref 5, .ref 6, .ref 21, .ref 14, .null, .int 0, .null, .null, .null, .null, .null, .long 0, .null, .int 0], vm := .statics 16 },
  { cls := 17, slots := #[.null, .null, .null], vm := .statics 17 },
  { cls := 23, slots := #[.null, .ref 5, .ref 6, .ref 7, .ref 8, .ref 9, .ref 10, .ref 11, .ref 12, .ref 13, .ref 14, .ref 15, .ref 16, .ref 17, .ref 18, .ref 19, .ref 20], vm := .none },
  { cls := 23, slots := #[.null, .ref 21, .ref 22, .ref 23, .ref 24, .ref 25, .ref 26, .ref 27, .ref 28, .ref 29, .ref 30, .ref 31, .ref 32, .ref 33, .ref 34, .ref 35, .ref 36], vm := .none },
  { cls := 16, slots := #[.int 1, .ref 37, .int 0, .int 0, .int 0, .int 0], vm := .none },
  { cls := 16, slots := #[.int 1, .ref 38, .int 0, .int 0, .int 0, .int 0], vm := .none },
  { cls := 16, slots := #[.int 1, .ref 39, .int 0, .int 0, .int 0, .int 0], vm := .none },
  { cls := 16, slots := #[.int 1, .ref 40, .int 0, .int 0, .int 0, .int 0], vm := .none },
  { cls := 16, slots := #[.int 1, .ref 41, .int 0, .int 0, .int 0, .int 0], vm := .none },
  { cls := 16, slots := #[.int 1, .ref 42, .int 0, .int 0, .int 0, .int 0], vm := .none },
  { cls := 16, slots := #[.int 1, .ref 43, .int 0, .int 0, .int 0, .int 0], vm := .none },
  { cls := 16, slots := #[.int 1, .ref 44, .int 0, .int 0, .int 0, .int 0], vm := .none },
  { cls := 16, slots := #[.int 1, .ref 45, .int 0, .int 0, .int 0, .int 0], vm := .none },
  { cls := 16, slots := #[.int 1, .ref 46, .int 0, .int 0, .int 0, .int 0], vm := .none },
  { cls := 16, slots := #[.int 1, .ref 47, .int 0, .int 0, .int 0, .int 0], vm := .none },
  { cls := 16, slots := #[.int 1, .ref 48, .int 0, .int 0, .int 0, .int 0], vm := .none },
  { cls := 16, slots := #[.int 1, .ref 49, .int 0, .int 0, .int 0, .int 0], vm := .none },
  { cls := 16, slots := #[.int 1, .ref 50, .int 0, .int 0, .int 0, .int 0], vm := .none },
  { cls := 16, slots := #[.int 1, .ref 51, .int 0, .int 0, .int 0, .int 0], vm := .none },
  { cls := 16, slots := #[.int 1, .ref 52, .int 0, .int 0, .int 0, .int 0], vm := .none },
  { cls := 16, slots := #[.int (-1), .ref 37, .int 0, .int 0, .int 0, .int 0], vm := .none },
  { cls := 16, slots := #[.int (-1), .ref 38, .int 0, .int 0, .int 0, .int 0], vm := .none },
  { cls := 16, slots := #[.int (-1), .ref 39, .int 0, .int 0, .int 0, .int 0], vm := .none },
  { cls := 16, slots := #[.int (-1), .ref 40, .int 0, .int 0, .int 0, .int 0], vm := .none },
  { cls := 16, slots := #[.int (-1), .ref 41, .int 0, .int 0, .int 0, .int 0], vm := .none },
  { cls := 16, slots := #[.int (-1), .ref 42, .int 0, .int 0, .int 0, .int 0], vm := .none },
  { cls := 16, slots := #[.int (-1), .ref 43, .int 0, .int 0, .int 0, .int 0], vm := .none },
  { cls := 16, slots := #[.int (-1), .ref 44, .int 0, .int 0, .int 0, .int 0], vm := .none },
  { cls := 16, slots := #[.int (-1), .ref 45, .int 0, .int 0, .int 0, .int 0], vm := .none },
  { cls := 16, slots := #[.int (-1), .ref 46, .int 0, .int 0, .int 0, .int 0], vm := .none },
  { cls := 16, slots := #[.int (-1), .ref 47, .int 0, .int 0, .int 0, .int 0], vm := .none },
  { cls := 16, slots := #[.int (-1), .ref 48, .int 0, .int 0, .int 0, .int 0], vm := .none },
  { cls := 16, slots := #[.int (-1), .ref 49, .int 0, .int 0, .int 0, .int 0], vm := .none },
  { cls := 16, slots := #[.int (-1), .ref 50, .int 0, .int 0, .int 0, .int 0], vm := .none },
  { cls := 16, slots := #[.int (-1), .ref 51, .int 0, .int 0, .int 0, .int 0], vm := .none },
  { cls := 16, slots := #[.int (-1), .ref 52, .int 0, .int 0, .int 0, .int 0], vm := .none },
  { cls := 22, slots := #[.int 1], vm := .none },
  { cls := 22, slots := #[.int 2], vm := .none },
  { cls := 22, slots := #[.int 3], vm := .none },
  { cls := 22, slots := #[.int 4], vm := .none },
  { cls := 22, slots := #[.int 5], vm := .none },
  { cls := 22, slots := #[.int 6], vm := .none },
  { cls := 22, slots := #[.int 7], vm := .none },
  { cls := 22, slots := #[.int 8], vm := .none },
  { cls := 22, slots := #[.int 9], vm := .none },
  { cls := 22, slots := #[.int 10], vm := .none },
  { cls := 22, slots := #[.int 11], vm := .none },
  { cls := 22, slots := #[.int 12], vm := .none },
  { cls := 22, slots := #[.int 13], vm := .none },
  { cls := 22, slots := #[.int 14], vm := .none },
  { cls := 22, slots := #[.int 15], vm := .none },
  { cls := 22, slots := #[.int 16], vm := .none },
  { cls := 16, slots := #[.int 0, .ref 54, .int 0, .int 0, .int 0, .int 0], vm := .none },
  { cls := 22, slots := #[], vm := .none }]
def classes : Array Class := #[k0, k1, k2, k3, k4, k5, k6, k7, k8, k9, k10, k11, k12, k13, k14, k15, k16, k17, k18, k19, k20, k21, k22, k23, k24]
def interned : List (Array UInt16 × Addr) := []
def slotsUsed : Nat := 295
def theMethod : MethodId := ⟨1, 1⟩
def args0 : Array Value := #[.int 5, .int 6, .int 7]
def aboutOver (below : List Frame) : State where
  vm := { classes := classes, interned := interned.toArray }
  heap := heap
  slotsUsed := slotsUsed
  threads := #[{ frames := .invoking theMethod args0 :: below }]
def below0 : List Frame := [.native { method := ⟨0, 0⟩, args := #[] }]
def about1 : State := aboutOver below0
def p0 : Program := .bare "" "" ""
def e0 : Env := launch0.env 0 0 0
theorem w_frames : about1.frames = Frame.invoking theMethod args0 :: below0 := rfl
set_option maxRecDepth 65536 in
theorem w_args : argsFit about1.vm theMethod args0 = true := by decide +kernel
set_option maxRecDepth 65536 in
theorem w_heap : heapFits about1 = true := by decide +kernel
set_option maxRecDepth 65536 in
theorem w_runnable : about1.curStatus? = some .runnable := by decide +kernel
set_option maxRecDepth 65536 in
theorem w_alone : about1.alone = true := by decide +kernel
set_option maxRecDepth 65536 in
theorem w_named : about1.methodNamed? x = some theMethod := by decide +kernel
set_option maxRecDepth 65536 in
theorem w_hears : about1.hears theMethod below0 = true := by decide +kernel
set_option maxRecDepth 65536 in
theorem w_ripe : about1.ripe theMethod args0 below0 = true := by decide +kernel
theorem w_running : about1.status = .running := rfl
set_option maxRecDepth 65536 in
theorem w_room : about1.hasRoom e0.platform room_1 = true :=
  launch0.hasRoom_least _ room_1 (by decide +kernel) (by decide +kernel) (by decide +kernel) (by decide +kernel) (by decide +kernel) (by decide +kernel)
theorem allAtoms_all (ts : List Jvm.Cond) (a : Array Jvm.Value) (st : Jvm.State) : (allAtoms ts).before a st = ts.all (fun c => c.before a st) := by
  induction ts with
  | nil => rfl
  | cons c t ih =>
    show (Jvm.Cond.and c (allAtoms t)).before a st = _
    rw [Jvm.Cond.before_and, ih, List.all_cons]
def words1 : List Jvm.Cond := Jvm.Cond.code x code maxLocals ret :: tables_1
/-- a 'code' word, met by the world's own term for the bytes: nothing is compared byte by byte -/
theorem code_word {y : MethodName} {bytes : ByteArray} {mx : Nat} {rt : Option FieldType} {a : Array Value} {s : State} {m : MethodId} {meth : Method} {c : Code} (h1 : s.methodNamed? y = some m) (h2 : s.vm.method? m = some meth) (h3 : meth.code = some c) (h4 : c.code = bytes)
    (h5 : (c.maxLocals == mx && c.exceptionTable.isEmpty && decide (c.maxStack ≤ mostOperands) && decide (meth.sig.returnType = rt) && !meth.locks && decide (parseMethodDescriptor y.desc = some meth.sig)) = true) : (Jvm.Cond.code y bytes mx rt).before a s = true := by
  simp only [Bool.and_eq_true, beq_iff_eq, Bool.not_eq_true', decide_eq_true_eq] at h5
  obtain ⟨⟨⟨⟨⟨g1, g2⟩, g3⟩, g4⟩, g5⟩, g6⟩ := h5
  simp [Cond.before, Cond.holds, Cond.value, h1, h2, h3, h4, g1, g2, g3, g4, g5, g6]
def isCode : Jvm.Cond → Bool
  | .code _ _ _ _ => true
  | _ => false
theorem all_split {L : List Jvm.Cond} {P : Jvm.Cond → Bool} (h1 : L.all (fun c => isCode c || P c) = true) (h2 : ∀ c ∈ L.filter isCode, P c = true) : L.all P = true := by
  refine List.all_eq_true.mpr fun c hc => ?_
  have h := List.all_eq_true.mp h1 c hc
  rcases Bool.eq_false_or_eq_true (isCode c) with hi | hi
  · exact h2 c (List.mem_filter.mpr ⟨hc, hi⟩)
  · simpa [hi] using h
set_option maxRecDepth 65536 in
theorem w_c0 : (Jvm.Cond.code x code maxLocals ret).before args0 about1 = true := code_word (m := ⟨1, 1⟩) (meth := k1m1) (c := k1c1) (by decide +kernel) rfl rfl rfl (by decide +kernel)
set_option maxRecDepth 65536 in
theorem w_c1 : (Jvm.Cond.code ({ cls := "com/example/ironbound_models/ironboundmodels/interpreter/RealValue", name := "<init>", desc := "(D)V" } : Jvm.MethodName) prog_188_method_1_code (3 : Nat) (Option.none : Option Jvm.ClassFile.FieldType)).before args0 about1 = true := code_word (m := ⟨5, 0⟩) (meth := k5m0) (c := k5c0) (by decide +kernel) rfl rfl rfl (by decide +kernel)
set_option maxRecDepth 65536 in
theorem w_c2 : (Jvm.Cond.code ({ cls := "com/example/ironbound_models/ironboundmodels/interpreter/NumericValue", name := "<init>", desc := "()V" } : Jvm.MethodName) prog_176_method_1_code (1 : Nat) (Option.none : Option Jvm.ClassFile.FieldType)).before args0 about1 = true := code_word (m := ⟨4, 0⟩) (meth := k4m0) (c := k4c0) (by decide +kernel) rfl rfl rfl (by decide +kernel)
set_option maxRecDepth 65536 in
theorem w_c3 : (Jvm.Cond.code ({ cls := "com/example/ironbound_models/ironboundmodels/interpreter/Value", name := "<init>", desc := "()V" } : Jvm.MethodName) prog_209_method_1_code (1 : Nat) (Option.none : Option Jvm.ClassFile.FieldType)).before args0 about1 = true := code_word (m := ⟨3, 0⟩) (meth := k3m0) (c := k3c0) (by decide +kernel) rfl rfl rfl (by decide +kernel)
set_option maxRecDepth 65536 in
theorem w_c4 : (Jvm.Cond.code ({ cls := "java/lang/Object", name := "<init>", desc := "()V" } : Jvm.MethodName) object_method_1_code (1 : Nat) (Option.none : Option Jvm.ClassFile.FieldType)).before args0 about1 = true := code_word (m := ⟨0, 0⟩) (meth := k0m0) (c := k0c0) (by decide +kernel) rfl rfl rfl (by decide +kernel)
set_option maxRecDepth 65536 in
theorem w_c5 : (Jvm.Cond.code ({ cls := "com/example/ironbound_models/ironboundmodels/interpreter/RealValue", name := "equals", desc := "(Ljava/lang/Object;)Z" } : Jvm.MethodName) prog_188_method_4_code (2 : Nat) (Option.some Jvm.ClassFile.FieldType.boolean)).before args0 about1 = true := code_word (m := ⟨5, 1⟩) (meth := k5m1) (c := k5c1) (by decide +kernel) rfl rfl rfl (by decide +kernel)
set_option maxRecDepth 65536 in
theorem w_c6 : (Jvm.Cond.code ({ cls := "java/lang/String", name := "valueOf", desc := "(C)Ljava/lang/String;" } : Jvm.MethodName) jdk_42_method_139_code (1 : Nat) (Option.some (Jvm.ClassFile.FieldType.object "java/lang/String"))).before args0 about1 = true := code_word (m := ⟨10, 1⟩) (meth := k10m1) (c := k10c1) (by decide +kernel) rfl rfl rfl (by decide +kernel)
set_option maxRecDepth 65536 in
theorem w_c7 : (Jvm.Cond.code ({ cls := "java/lang/StringLatin1", name := "canEncode", desc := "(C)Z" } : Jvm.MethodName) jdk_43_method_3_code (1 : Nat) (Option.some Jvm.ClassFile.FieldType.boolean)).before args0 about1 = true := code_word (m := ⟨11, 1⟩) (meth := k11m1) (c := k11c1) (by decide +kernel) rfl rfl rfl (by decide +kernel)
set_option maxRecDepth 65536 in
theorem w_c8 : (Jvm.Cond.code ({ cls := "java/lang/StringLatin1", name := "toBytes", desc := "(C)[B" } : Jvm.MethodName) jdk_43_method_46_code (1 : Nat) (Option.some (Jvm.ClassFile.FieldType.array Jvm.ClassFile.FieldType.byte))).before args0 about1 = true := code_word (m := ⟨11, 2⟩) (meth := k11m2) (c := k11c2) (by decide +kernel) rfl rfl rfl (by decide +kernel)
set_option maxRecDepth 65536 in
theorem w_c9 : (Jvm.Cond.code ({ cls := "java/lang/String", name := "<init>", desc := "([BB)V" } : Jvm.MethodName) jdk_42_method_151_code (3 : Nat) (Option.none : Option Jvm.ClassFile.FieldType)).before args0 about1 = true := code_word (m := ⟨10, 2⟩) (meth := k10m2) (c := k10c2) (by decide +kernel) rfl rfl rfl (by decide +kernel)
set_option maxRecDepth 65536 in
theorem w_c10 : (Jvm.Cond.code ({ cls := "com/example/ironbound_models/ironboundmodels/interpreter/NumericValue", name := "of", desc := "(D)Lcom/example/ironbound_models/ironboundmodels/interpreter/NumericValue;" } : Jvm.MethodName) prog_176_method_2_code (3 : Nat) (Option.some (Jvm.ClassFile.FieldType.object "com/example/ironbound_models/ironboundmodels/interpreter/NumericValue"))).before args0 about1 = true := code_word (m := ⟨4, 1⟩) (meth := k4m1) (c := k4c1) (by decide +kernel) rfl rfl rfl (by decide +kernel)
set_option maxRecDepth 65536 in
theorem w_c11 : (Jvm.Cond.code ({ cls := "java/lang/Math", name := "rint", desc := "(D)D" } : Jvm.MethodName) jdk_29_method_18_code (2 : Nat) (Option.some Jvm.ClassFile.FieldType.double)).before args0 about1 = true := code_word (m := ⟨12, 1⟩) (meth := k12m1) (c := k12c1) (by decide +kernel) rfl rfl rfl (by decide +kernel)
set_option maxRecDepth 65536 in
theorem w_c12 : (Jvm.Cond.code ({ cls := "java/lang/StrictMath", name := "rint", desc := "(D)D" } : Jvm.MethodName) jdk_128_method_19_code (6 : Nat) (Option.some Jvm.ClassFile.FieldType.double)).before args0 about1 = true := code_word (m := ⟨13, 1⟩) (meth := k13m1) (c := k13c1) (by decide +kernel) rfl rfl rfl (by decide +kernel)
set_option maxRecDepth 65536 in
theorem w_c13 : (Jvm.Cond.code ({ cls := "java/lang/Math", name := "copySign", desc := "(DD)D" } : Jvm.MethodName) jdk_29_method_89_code (4 : Nat) (Option.some Jvm.ClassFile.FieldType.double)).before args0 about1 = true := code_word (m := ⟨12, 3⟩) (meth := k12m3) (c := k12c3) (by decide +kernel) rfl rfl rfl (by decide +kernel)
set_option maxRecDepth 65536 in
theorem w_c14 : (Jvm.Cond.code ({ cls := "java/lang/Math", name := "abs", desc := "(D)D" } : Jvm.MethodName) jdk_29_method_64_code (2 : Nat) (Option.some Jvm.ClassFile.FieldType.double)).before args0 about1 = true := code_word (m := ⟨12, 2⟩) (meth := k12m2) (c := k12c2) (by decide +kernel) rfl rfl rfl (by decide +kernel)
set_option maxRecDepth 65536 in
theorem w_c15 : (Jvm.Cond.code ({ cls := "java/math/BigInteger", name := "valueOf", desc := "(J)Ljava/math/BigInteger;" } : Jvm.MethodName) jdk_2097_method_29_code (2 : Nat) (Option.some (Jvm.ClassFile.FieldType.object "java/math/BigInteger"))).before args0 about1 = true := code_word (m := ⟨16, 0⟩) (meth := k16m0) (c := k16c0) (by decide +kernel) rfl rfl rfl (by decide +kernel)
set_option maxRecDepth 65536 in
theorem w_c16 : (Jvm.Cond.code ({ cls := "com/example/ironbound_models/ironboundmodels/interpreter/IntegerValue", name := "<init>", desc := "(Ljava/math/BigInteger;)V" } : Jvm.MethodName) prog_161_method_1_code (2 : Nat) (Option.none : Option Jvm.ClassFile.FieldType)).before args0 about1 = true := code_word (m := ⟨14, 0⟩) (meth := k14m0) (c := k14c0) (by decide +kernel) rfl rfl rfl (by decide +kernel)
set_option maxRecDepth 65536 in
theorem w_c17 : (Jvm.Cond.code ({ cls := "java/math/BigInteger", name := "<init>", desc := "(J)V" } : Jvm.MethodName) jdk_2097_method_30_code (4 : Nat) (Option.none : Option Jvm.ClassFile.FieldType)).before args0 about1 = true := code_word (m := ⟨16, 1⟩) (meth := k16m1) (c := k16c1) (by decide +kernel) rfl rfl rfl (by decide +kernel)
set_option maxRecDepth 65536 in
theorem w_c18 : (Jvm.Cond.code ({ cls := "java/lang/Number", name := "<init>", desc := "()V" } : Jvm.MethodName) jdk_18_method_1_code (1 : Nat) (Option.none : Option Jvm.ClassFile.FieldType)).before args0 about1 = true := code_word (m := ⟨15, 0⟩) (meth := k15m0) (c := k15c0) (by decide +kernel) rfl rfl rfl (by decide +kernel)
def codes1 : List Jvm.Cond := [Jvm.Cond.code x code maxLocals ret, Jvm.Cond.code ({ cls := "com/example/ironbound_models/ironboundmodels/interpreter/RealValue", name := "<init>", desc := "(D)V" } : Jvm.MethodName) prog_188_method_1_code (3 : Nat) (Option.none : Option Jvm.ClassFile.FieldType), Jvm.Cond.code ({ cls := "com/example/ironbound_models/ironboundmodels/interpreter/NumericValue", name := "<init>", desc := "()V" } : Jvm.MethodName) prog_176_method_1_code (1 : Nat) (Option.none : Option Jvm.ClassFile.FieldType), Jvm.Cond.code ({ cls := "com/example/ironbound_models/ironboundmodels/interpreter/Value", name := "<init>", desc := "()V" } : Jvm.MethodName) prog_209_method_1_code (1 : Nat) (Option.none : Option Jvm.ClassFile.FieldType), Jvm.Cond.code ({ cls := "java/lang/Object", name := "<init>", desc := "()V" } : Jvm.MethodName) object_method_1_code (1 : Nat) (Option.none : Option Jvm.ClassFile.FieldType), Jvm.Cond.code ({ cls := "com/example/ironbound_models/ironboundmodels/interpreter/RealValue", name := "equals", desc := "(Ljava/lang/Object;)Z" } : Jvm.MethodName) prog_188_method_4_code (2 : Nat) (Option.some Jvm.ClassFile.FieldType.boolean), Jvm.Cond.code ({ cls := "java/lang/String", name := "valueOf", desc := "(C)Ljava/lang/String;" } : Jvm.MethodName) jdk_42_method_139_code (1 : Nat) (Option.some (Jvm.ClassFile.FieldType.object "java/lang/String")), Jvm.Cond.code ({ cls := "java/lang/StringLatin1", name := "canEncode", desc := "(C)Z" } : Jvm.MethodName) jdk_43_method_3_code (1 : Nat) (Option.some Jvm.ClassFile.FieldType.boolean), Jvm.Cond.code ({ cls := "java/lang/StringLatin1", name := "toBytes", desc := "(C)[B" } : Jvm.MethodName) jdk_43_method_46_code (1 : Nat) (Option.some (Jvm.ClassFile.FieldType.array Jvm.ClassFile.FieldType.byte)), Jvm.Cond.code ({ cls := "java/lang/String", name := "<init>", desc := "([BB)V" } : Jvm.MethodName) jdk_42_method_151_code (3 : Nat) (Option.none : Option Jvm.ClassFile.FieldType), Jvm.Cond.code ({ cls := "com/example/ironbound_models/ironboundmodels/interpreter/NumericValue", name := "of", desc := "(D)Lcom/example/ironbound_models/ironboundmodels/interpreter/NumericValue;" } : Jvm.MethodName) prog_176_method_2_code (3 : Nat) (Option.some (Jvm.ClassFile.FieldType.object "com/example/ironbound_models/ironboundmodels/interpreter/NumericValue")), Jvm.Cond.code ({ cls := "java/lang/Math", name := "rint", desc := "(D)D" } : Jvm.MethodName) jdk_29_method_18_code (2 : Nat) (Option.some Jvm.ClassFile.FieldType.double), Jvm.Cond.code ({ cls := "java/lang/StrictMath", name := "rint", desc := "(D)D" } : Jvm.MethodName) jdk_128_method_19_code (6 : Nat) (Option.some Jvm.ClassFile.FieldType.double), Jvm.Cond.code ({ cls := "java/lang/Math", name := "copySign", desc := "(DD)D" } : Jvm.MethodName) jdk_29_method_89_code (4 : Nat) (Option.some Jvm.ClassFile.FieldType.double), Jvm.Cond.code ({ cls := "java/lang/Math", name := "abs", desc := "(D)D" } : Jvm.MethodName) jdk_29_method_64_code (2 : Nat) (Option.some Jvm.ClassFile.FieldType.double), Jvm.Cond.code ({ cls := "java/math/BigInteger", name := "valueOf", desc := "(J)Ljava/math/BigInteger;" } : Jvm.MethodName) jdk_2097_method_29_code (2 : Nat) (Option.some (Jvm.ClassFile.FieldType.object "java/math/BigInteger")), Jvm.Cond.code ({ cls := "com/example/ironbound_models/ironboundmodels/interpreter/IntegerValue", name := "<init>", desc := "(Ljava/math/BigInteger;)V" } : Jvm.MethodName) prog_161_method_1_code (2 : Nat) (Option.none : Option Jvm.ClassFile.FieldType), Jvm.Cond.code ({ cls := "java/math/BigInteger", name := "<init>", desc := "(J)V" } : Jvm.MethodName) jdk_2097_method_30_code (4 : Nat) (Option.none : Option Jvm.ClassFile.FieldType), Jvm.Cond.code ({ cls := "java/lang/Number", name := "<init>", desc := "()V" } : Jvm.MethodName) jdk_18_method_1_code (1 : Nat) (Option.none : Option Jvm.ClassFile.FieldType)]
set_option maxRecDepth 65536 in
theorem codes_eq : words1.filter isCode = codes1 := rfl
theorem w_codes : ∀ c ∈ words1.filter isCode, c.before args0 about1 = true := by
  rw [codes_eq]
  intro c hc
  simp only [codes1, List.mem_cons, List.not_mem_nil, or_false] at hc
  rcases hc with rfl | rfl | rfl | rfl | rfl | rfl | rfl | rfl | rfl | rfl | rfl | rfl | rfl | rfl | rfl | rfl | rfl | rfl | rfl
  · exact w_c0
  · exact w_c1
  · exact w_c2
  · exact w_c3
  · exact w_c4
  · exact w_c5
  · exact w_c6
  · exact w_c7
  · exact w_c8
  · exact w_c9
  · exact w_c10
  · exact w_c11
  · exact w_c12
  · exact w_c13
  · exact w_c14
  · exact w_c15
  · exact w_c16
  · exact w_c17
  · exact w_c18
set_option maxRecDepth 65536 in
theorem w_t1 : (words1.take 24).all (fun c => isCode c || c.before args0 about1) = true := by decide +kernel
set_option maxRecDepth 65536 in
theorem w_t2 : ((words1.drop 24).take 24).all (fun c => isCode c || c.before args0 about1) = true := by decide +kernel
set_option maxRecDepth 65536 in
theorem w_t3 : (((words1.drop 24).drop 24).take 24).all (fun c => isCode c || c.before args0 about1) = true := by decide +kernel
set_option maxRecDepth 65536 in
theorem w_t4 : ((((words1.drop 24).drop 24).drop 24).take 24).all (fun c => isCode c || c.before args0 about1) = true := by decide +kernel
set_option maxRecDepth 65536 in
theorem w_t5 : ((((words1.drop 24).drop 24).drop 24).drop 24).all (fun c => isCode c || c.before args0 about1) = true := by decide +kernel
theorem w_tables : (allAtoms (Jvm.Cond.code x code maxLocals ret :: tables_1)).before args0 about1 = true := by
  rw [allAtoms_all]
  show words1.all (fun c => c.before args0 about1) = true
  refine all_split ?_ w_codes
  rw [← List.take_append_drop 24 words1, List.all_append, w_t1, ← List.take_append_drop 24 (words1.drop 24), List.all_append, w_t2, ← List.take_append_drop 24 ((words1.drop 24).drop 24), List.all_append, w_t3, ← List.take_append_drop 24 (((words1.drop 24).drop 24).drop 24), List.all_append, w_t4, w_t5]
  rfl
set_option maxRecDepth 65536 in
theorem w_rest : rest_1_c.before args0 about1 = true := by decide +kernel
set_option maxRecDepth 65536 in
theorem w_case : (Jvm.Cond.and given_1 narrow_1).before args0 about1 = true := by decide +kernel
theorem w_applies : (headSpec (Jvm.Cond.code x code maxLocals ret :: tables_1) room_1).applies x e0.platform about1 = true :=
  (Spec.applies_iff w_frames).mpr ⟨w_running, w_runnable, w_alone, w_named, w_hears, w_ripe, w_room, w_tables⟩
theorem atStart : AtStart classFile x code maxLocals ret World_1 tables_1 room_1 Calls_1 rest_1 Pre_1 launch0 p0 e0 about1 theMethod args0 below0 :=
  ⟨lists_1, trivial, launch0.admits_env _ _ _, launch0.least_env, fairChoices_fair.cas, fairChoices_fair.clock, w_frames, w_args, w_heap, w_applies, trivial, w_rest, w_case⟩
end start1
theorem witness_1 : WitnessClaimed_1 := ⟨start1.p0, start1.e0, start1.about1, start1.theMethod, start1.args0, start1.below0, start1.atStart⟩
end Jvm.Pilot.@@N@@

