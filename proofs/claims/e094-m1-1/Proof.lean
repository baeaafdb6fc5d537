import JvmDerived
import JvmDerived.Pilot.@@N@@Statement
import JvmDerived.Pilot.@@N@@Code
set_option linter.unusedVariables false
set_option linter.unusedSimpArgs false

namespace Jvm.RoadKit
open Sem ClassFile Op Lib Jvm.Stand Jvm.Free Jvm.LawKit
section OwnKit
variable {p : Program} {l : Launch} {e : Env} {R : Room} {s : State} {m : MethodId} {args : Array Value} {below : List Frame} {meth : Method} {c : Code} {T : State} {locs : List Loc} {cells slots : Nat} {Z : State} {a0 : Array Value} {h : Heap}
/-- one for a truth, nought else -/
def own_bi (q : Prop) [Decidable q] : Int32 := if q then 1 else 0
theorem own_bi_t {q : Prop} [Decidable q] (h : q) : own_bi q = 1 := if_pos h
theorem own_bi_f {q : Prop} [Decidable q] (h : ¬ q) : own_bi q = 0 := if_neg h
theorem own_bi_01 (q : Prop) [Decidable q] : own_bi q = 0 ∨ own_bi q = 1 := by unfold own_bi; split <;> simp
theorem own_bi_0 {q : Prop} [Decidable q] : own_bi q = 0 ↔ ¬ q := by unfold own_bi; split <;> simp_all
theorem own_bi_1 {q : Prop} [Decidable q] : own_bi q = 1 ↔ q := by unfold own_bi; split <;> simp_all
theorem own_bi_eq {q r : Prop} [Decidable q] [Decidable r] : own_bi q = own_bi r ↔ (q ↔ r) := by unfold own_bi; split <;> split <;> simp_all
theorem own_bi_fits (q : Prop) [Decidable q] : fits .boolean (.int (own_bi q)) = true := by unfold own_bi; split <;> rfl
theorem own_bi_nar (q : Prop) [Decidable q] : narrow .boolean (.int (own_bi q)) = .int (own_bi q) := by unfold own_bi; split <;> rfl
/-- from U the invocation comes to an end of which Rr holds -/
def Gl (p : Program) (e : Env) (below : List Frame) (Rr : State → Outcome → Prop) (U : State) : Prop := ∃ s₂ o, Steps p.tables e below U s₂ ∧ Rr s₂ o
theorem Gl.st {Rr : State → Outcome → Prop} {U U' : State} (f : ∀ t, Steps p.tables e below U' t → Steps p.tables e below U t) (g : Gl p e below Rr U') : Gl p e below Rr U := by
  obtain ⟨a, b, h1, h2⟩ := g
  exact ⟨a, b, f _ h1, h2⟩
/-- what is asked of the end -/
def Rq (s : State) (below : List Frame) (QQ : Option Value → Heap → List Loc → Prop) (k n : Nat) (s₂ : State) (o : Outcome) : Prop := s₂.status = .running ∧ Ended s₂ below o ∧ ∃ v L, o = .returned v ∧ QQ v s₂.heap L ∧ FrameEnd s o s₂ L k n
theorem Gl.join {Rr : State → Outcome → Prop} {U : State} {α : Type} (P : α → Prop) (f : α → State) (k : (∀ b, P b → Gl p e below Rr (f b)) → Gl p e below Rr U) (j : ∀ b, P b → Gl p e below Rr (f b)) : Gl p e below Rr U := k j
theorem Gl.joinS (X : Stand p l e R s m args below meth c T locs cells slots) {Rr : State → Outcome → Prop} {U : State} {β : Type} (kc ks : Nat) (P : State → List Loc → β → Prop) (f : State → β → State)
    (k : (∀ T' locs' b, Stand p l e R s m args below meth c T' locs' kc ks → P T' locs' b → Gl p e below Rr (f T' b)) → Gl p e below Rr U) (j : ∀ T' locs' b, Stand p l e R s m args below meth c T' locs' kc ks → P T' locs' b → Gl p e below Rr (f T' b)) : Gl p e below Rr U := k j
/-- a cell of the machine's own kind isn't there -/
def own_K (h : Heap) (a : Addr) : Prop := ∃ cell : Cell, h[a]? = some cell ∧ cell.vm ≠ .unknown
theorem own_K_wr {h h' : Heap} {a b : Addr} {sl : Nat} {v : Value} (W : Wr h h' a sl v) (F : own_K h b) : own_K h' b := by
  obtain ⟨cell, h1, h2⟩ := F
  obtain ⟨c', e1, -, e3, -⟩ := wr_at W h1
  exact ⟨c', e1, by rw [e3]; exact h2⟩
theorem own_K_ext {h h' : Heap} {b : Addr} (E : Ext h h') (F : own_K h b) : own_K h' b := by
  obtain ⟨cell, h1, h2⟩ := F
  exact ⟨cell, E.2 _ _ h1, h2⟩
theorem own_K_keep {h h' : Heap} {b : Addr} {ws : List Addr} (K : Keep h h' ws) (F : own_K h b) : own_K h' b := by
  obtain ⟨cell, h1, h2⟩ := F
  obtain ⟨c', q, -, r2, -⟩ := K.2.2 b cell h1
  exact ⟨c', q, by rw [r2]; exact h2⟩
theorem own_K_new {h : Heap} {a : Addr} (F : ∃ cell : Cell, h[a]? = some cell ∧ cell.vm = .none ∧ cell.monitor = {}) : own_K h a := by
  obtain ⟨cell, h1, h2, -⟩ := F
  exact ⟨cell, h1, by rw [h2]; simp⟩
theorem own_K_fld {h : Heap} {a : Addr} {C n d : String} {v : Value} (F : Fld Z h a C n d v) : own_K h a := by
  obtain ⟨cell, _, _, _, _, h1, -, -, h4, -⟩ := F
  exact ⟨cell, h1, h4⟩
/-- the type that a descriptor names -/
def own_ty (d : String) : FieldType := (parseFieldDescriptor d).getD .int
theorem own_ty_eq {d : String} (h : (parseFieldDescriptor d).isSome = true) : parseFieldDescriptor d = some (own_ty d) := by
  unfold own_ty
  cases q : parseFieldDescriptor d with
  | none => rw [q] at h; cases h
  | some t => rfl
theorem own_nn {t : FieldType} : narrow t .null = .null := by cases t <;> rfl
theorem own_lenOf {d : String} {n : Nat} (hd : (parseMethodDescriptor d).map (fun s => s.parameters.length) = some n) {L : List Value} (hl : L.length = n) : ∀ sig, parseMethodDescriptor d = some sig → L.length = sig.parameters.length := fun sig h => by
  rw [h] at hd
  rw [hl]
  exact (Option.some.inj hd).symm
theorem own_nz {z : Int32} (h : z = 0 ∨ z = 1) : narrow .boolean (.int z) = .int z := by rcases h with rfl | rfl <;> rfl
theorem own_fz {z : Int32} (h : z = 0 ∨ z = 1) : fits .boolean (.int z) = true := by rcases h with rfl | rfl <;> rfl
theorem own_nr {v : Value} {C : String} : narrow (.object C) v = v := by cases v <;> rfl
theorem own_fr {v : Value} {C : String} (h : v.isRef = true) : fits (.object C) v = true := by rcases ref_cases h with rfl | ⟨a, rfl⟩ <;> rfl
theorem own_cat1 {v : Value} (h : v.isRef = true) : v.category = 1 := by cases v <;> first | rfl | simp_all [Value.isRef]
theorem Gl.fin (X : Stand p l e R s m args below meth c T locs cells slots) {v : Option Value} (hv : meth.sig.returnType = none → v = none) (hlk : meth.locks = false) {QQ : Option Value → Heap → List Loc → Prop} {k n : Nat} {g : JFrame}
    (hst : ∀ fs, (∀ (f : JFrame) (acts : List Action), f.method = m → f.locked = none → f.entered = [] → (doReturn e (T.setTop f) acts v).1 = T.setFrames fs) → Steps p.tables e below (T.setTop g) (T.setFrames fs))
    (hq : QQ v T.heap locs) (hk : cells ≤ k) (hn : slots ≤ n) : Gl p e below (Rq s below QQ k n) (T.setTop g) := by
  obtain ⟨fs, hr, hrun, hended, hW, hsame⟩ := X.leave (v := v) hv hlk
  exact ⟨_, _, hst fs hr, hrun, hended, v, locs, rfl, hq, ⟨v, rfl⟩, hW, hsame.mono hk hn⟩
theorem Gl.retW (X : Stand p l e R s m args below meth c T locs cells slots) (hx : p.tables.exec = Jvm.exec) {t : FieldType} (hret : meth.sig.returnType = some t) (hlk : meth.locks = false) {pc : Nat} {Ls : Array Slot} {w : Value} {i : Instr} {rest : List Value} (hn : narrow t w = w)
    (hi : (i = .ireturn ∧ (t = .int ∨ t = .boolean ∨ t = .byte ∨ t = .char ∨ t = .short) ∧ ∃ z, w = .int z) ∨ (i = .lreturn ∧ t = .long ∧ ∃ z, w = .long z) ∨ (i = .dreturn ∧ t = .double ∧ ∃ z, w = .double z) ∨ (i = .freturn ∧ t = .float ∧ ∃ z, w = .float z) ∨ (i = .areturn ∧ t.isReference = true ∧ w.isRef = true))
    (hd : decode c.code pc = .ok (i, 1)) {QQ : Option Value → Heap → List Loc → Prop} {k n : Nat} (hq : QQ (some w) T.heap locs) (hk : cells ≤ k) (hs : slots ≤ n) : Gl p e below (Rq s below QQ k n) (T.setTop (mkF m pc Ls (w :: rest))) :=
  Gl.fin X (fun q => by rw [hret] at q; cases q) hlk (fun _ hr => retOut X hx hret hn hi hd hr) hq hk hs
theorem Gl.retZ (X : Stand p l e R s m args below meth c T locs cells slots) (hx : p.tables.exec = Jvm.exec) (hret : meth.sig.returnType = some .boolean) (hlk : meth.locks = false) {pc : Nat} {Ls : Array Slot} {z : Int32} {rest : List Value}
    (hd : decode c.code pc = .ok (.ireturn, 1)) (hz : z = 0 ∨ z = 1) {QQ : Option Value → Heap → List Loc → Prop} {k n : Nat} (hq : QQ (some (.int z)) T.heap locs) (hk : cells ≤ k) (hs : slots ≤ n) : Gl p e below (Rq s below QQ k n) (T.setTop (mkF m pc Ls (.int z :: rest))) :=
  Gl.retW X hx hret hlk (by rcases hz with rfl | rfl <;> rfl) (Or.inl ⟨rfl, by simp, z, rfl⟩) hd hq hk hs
theorem Gl.retI (X : Stand p l e R s m args below meth c T locs cells slots) (hx : p.tables.exec = Jvm.exec) (hret : meth.sig.returnType = some .int) (hlk : meth.locks = false) {pc : Nat} {Ls : Array Slot} {z : Int32} {rest : List Value}
    (hd : decode c.code pc = .ok (.ireturn, 1)) {QQ : Option Value → Heap → List Loc → Prop} {k n : Nat} (hq : QQ (some (.int z)) T.heap locs) (hk : cells ≤ k) (hs : slots ≤ n) : Gl p e below (Rq s below QQ k n) (T.setTop (mkF m pc Ls (.int z :: rest))) :=
  Gl.retW X hx hret hlk rfl (Or.inl ⟨rfl, by simp, z, rfl⟩) hd hq hk hs
theorem Gl.retJ (X : Stand p l e R s m args below meth c T locs cells slots) (hx : p.tables.exec = Jvm.exec) (hret : meth.sig.returnType = some .long) (hlk : meth.locks = false) {pc : Nat} {Ls : Array Slot} {z : Int64} {rest : List Value}
    (hd : decode c.code pc = .ok (.lreturn, 1)) {QQ : Option Value → Heap → List Loc → Prop} {k n : Nat} (hq : QQ (some (.long z)) T.heap locs) (hk : cells ≤ k) (hs : slots ≤ n) : Gl p e below (Rq s below QQ k n) (T.setTop (mkF m pc Ls (.long z :: rest))) :=
  Gl.retW X hx hret hlk rfl (Or.inr (Or.inl ⟨rfl, rfl, z, rfl⟩)) hd hq hk hs
theorem Gl.retA (X : Stand p l e R s m args below meth c T locs cells slots) (hx : p.tables.exec = Jvm.exec) {t : FieldType} (hret : meth.sig.returnType = some t) (ht : t.isReference = true) (hlk : meth.locks = false) {pc : Nat} {Ls : Array Slot} {w : Value} {rest : List Value} (hw : w.isRef = true)
    (hd : decode c.code pc = .ok (.areturn, 1)) {QQ : Option Value → Heap → List Loc → Prop} {k n : Nat} (hq : QQ (some w) T.heap locs) (hk : cells ≤ k) (hs : slots ≤ n) : Gl p e below (Rq s below QQ k n) (T.setTop (mkF m pc Ls (w :: rest))) :=
  Gl.retW X hx hret hlk (by cases t <;> first | rfl | cases ht) (Or.inr (Or.inr (Or.inr (Or.inr ⟨rfl, ht, hw⟩)))) hd hq hk hs
theorem Gl.retV (X : Stand p l e R s m args below meth c T locs cells slots) (hx : p.tables.exec = Jvm.exec) (hret : meth.sig.returnType = none) (hlk : meth.locks = false) {pc : Nat} {Ls : Array Slot}
    (hd : decode c.code pc = .ok (.return_, 1)) {QQ : Option Value → Heap → List Loc → Prop} {k n : Nat} (hq : QQ none T.heap locs) (hk : cells ≤ k) (hs : slots ≤ n) : Gl p e below (Rq s below QQ k n) (T.setTop (mkF m pc Ls [])) :=
  Gl.fin X (fun _ => rfl) hlk (fun _ hr => X.returnOut hx hret hd hr) hq hk hs
/-- what a body does from the heap h0 with these arguments -/
def Con (ws : List Cond) (l : Launch) (Z : State) (y : MethodName) (bytes : ByteArray) (maxL : Nat) (ret : Option FieldType) (rm : Room) (as' : Array Value) (h0 : Heap) (QQ : Option Value → Heap → List Loc → Prop) : Prop :=
  MetFree l y (head1 (Cond.code y bytes maxL ret :: ws) rm) (fun a U => a = as' ∧ Z.Warmed39 U.vm ∧ U.heap = h0) (fun _ _ _ _ _ => True) (fun _ U o U' => ∃ v L, o = .returned v ∧ QQ v U'.heap L ∧ FrameEnd U o U' L rm.cells rm.slots)
theorem Con.of {ws : List Cond} {l : Launch} {Z : State} {y : MethodName} {bytes : ByteArray} {maxL : Nat} {ret : Option FieldType} {rm : Room} {as' : Array Value} {h0 : Heap} {QQ : Option Value → Heap → List Loc → Prop} {Ls : Array Slot}
    (hp : plainFor y = true) (ef : ∀ m : MethodId, entryFrame m as' maxL = mkF m 0 Ls [])
    (body : ∀ (p : Program) (e : Env) (s : State) (m : MethodId) (below : List Frame) (meth : Method) (c : Code) (T : State), p.tables.exec = Jvm.exec → c.code = bytes → c.maxLocals = maxL → s.vm.findClass y.cls = some m.cls → meth.name = y.name → meth.sig.returnType = ret → meth.locks = false → Z.Warmed39 s.vm → T.heap = h0 → Stand p l e rm s m as' below meth c T [] 0 0 →
      Gl p e below (Rq s below QQ rm.cells rm.slots) (T.setTop (mkF m 0 Ls []))) : Con ws l Z y bytes maxL ret rm as' h0 QQ := by
  refine MetFree.of_bodySF hp hisR ?_
  intro p e s m args below meth c s₁ Bd hml0 hP hK
  obtain ⟨rfl, hZ, hh⟩ := hP
  obtain ⟨s₂, o, h1, h2, h3, h4⟩ := body p e s m below meth c s₁ Bd.exec Bd.bytes hml0 (findClass_of_methodNamed Bd.named) (name_of_methodNamed Bd.named Bd.method).1 Bd.returns Bd.notSynchronized hZ (by rw [← hh, Bd.state]; rfl) (Stand.of_body Bd)
  exact ⟨s₂, o, castTop (ef m) h1, h2, h3, h4⟩
theorem gCallS (X : Stand p l e R s m args below meth c T locs cells slots) (hx : p.tables.exec = Jvm.exec) (hZ : Z.Warmed39 s.vm) {own : String} {index : Nat} {y : MethodName} {bytes : ByteArray} {maxL : Nat} {ret : Option FieldType} (hown : s.vm.findClass own = some m.cls)
    (w1 : (Cond.methodLink own index y).before a0 Z = true) (w2 : (Cond.static y).before a0 Z = true) (w3 : (Cond.initialized y.cls).before a0 Z = true) (w4 : (Cond.code y bytes maxL ret).before a0 Z = true) (hy : y.cls ≠ "java/lang/invoke/MethodHandle" ∧ y.cls ≠ "java/lang/invoke/VarHandle")
    {rm : Room} {as' : Array Value} {QQ : Option Value → Heap → List Loc → Prop} (hC : Con [] l Z y bytes maxL ret rm as' h QQ) (eT : T.heap = h) (hf : rm.frames + 1 ≤ R.frames) {W : Nat} (hl : W + (maxL + 11) + rm.locals ≤ R.locals) (hc : cells + rm.cells ≤ R.cells) (hs : slots + rm.slots ≤ R.slots)
    {g : JFrame} (hg : g.method = m) (hsize : g.locals.size = c.maxLocals) {argsL rest : List Value} (hlen : ∀ sig, parseMethodDescriptor y.desc = some sig → argsL.length = sig.parameters.length) (hstack : g.stack = argsL.reverse ++ rest) (has : argsL.toArray = as') (hW : 2 * g.monitorRoom + (rest.map fun v => v.category).sum ≤ W) (hd : decode c.code g.pc = .ok (.invokestatic index, 3))
    {Rr : State → Outcome → Prop} (k : ∀ (v : Option Value) (T' : State) (L : List Loc), Stand p l e R s m args below meth c T' (locs ++ L) (cells + rm.cells) (slots + rm.slots) → QQ v T'.heap L → Gl p e below Rr (T'.setTop { g with pc := g.pc + 3, stack := v.toList ++ rest })) : Gl p e below Rr (T.setTop g) := by
  obtain ⟨v, vm₁, ⟨T', L', c', n'⟩, -, X', ⟨L, hQ, q1, q2, q3⟩, st⟩ := Jvm.LawKit.callS X hx (y := y) hown (mvT hZ w1) (mvT hZ w2) (mvT hZ w3) (mvT hZ w4) hy (backOf (W := W) hC hZ w4 w3 hf hl) hg hsize hlen hstack hW hd (fun _ _ => ⟨has, eT, hc, hs⟩)
  dsimp only [Pt.U, Pt.locs, Pt.cells, Pt.slots] at X' q1 q2 q3 st hQ
  subst q1 q2 q3
  exact Gl.st st (k v T' L X' hQ)
theorem gCallI (X : Stand p l e R s m args below meth c T locs cells slots) (hx : p.tables.exec = Jvm.exec) (hZ : Z.Warmed39 s.vm) {own : String} {index : Nat} {y : MethodName} {bytes : ByteArray} {maxL : Nat} (hy1 : y.name = "<init>") (hown : s.vm.findClass own = some m.cls)
    (w1 : (Cond.methodLink own index y).before a0 Z = true) (w2 : (Cond.instanceMethod y).before a0 Z = true) (w3 : (Cond.initialized y.cls).before a0 Z = true) (w4 : (Cond.code y bytes maxL none).before a0 Z = true) (hy : y.cls ≠ "java/lang/invoke/MethodHandle" ∧ y.cls ≠ "java/lang/invoke/VarHandle")
    {rm : Room} {as' : Array Value} {QQ : Option Value → Heap → List Loc → Prop} (hC : Con [] l Z y bytes maxL none rm as' h QQ) (eT : T.heap = h) (hf : rm.frames + 1 ≤ R.frames) {W : Nat} (hl : W + (maxL + 11) + rm.locals ≤ R.locals) (hc : cells + rm.cells ≤ R.cells) (hs : slots + rm.slots ≤ R.slots)
    {g : JFrame} (hg : g.method = m) (hsize : g.locals.size = c.maxLocals) {a : Addr} {argsL rest : List Value} (hlen : ∀ sig, parseMethodDescriptor y.desc = some sig → argsL.length = sig.parameters.length) (hstack : g.stack = argsL.reverse ++ .ref a :: rest) (has : (.ref a :: argsL).toArray = as') (hW : 2 * g.monitorRoom + (rest.map fun v => v.category).sum ≤ W) (hd : decode c.code g.pc = .ok (.invokespecial index, 3))
    {Rr : State → Outcome → Prop} (k : ∀ (v : Option Value) (T' : State) (L : List Loc), Stand p l e R s m args below meth c T' (locs ++ L) (cells + rm.cells) (slots + rm.slots) → QQ v T'.heap L → Gl p e below Rr (T'.setTop { g with pc := g.pc + 3, stack := v.toList ++ rest })) : Gl p e below Rr (T.setTop g) := by
  obtain ⟨v, vm₁, ⟨T', L', c', n'⟩, -, X', ⟨L, hQ, q1, q2, q3⟩, st⟩ := X.specialBack hx (y := y) hy1 hown (mvT hZ w1) (mvT hZ w2) (mvT hZ w4) hy (backOf (W := W) hC hZ w4 w3 hf hl) hg hsize (Steps.refl _) hlen hstack hW hd (fun _ _ => ⟨has, eT, hc, hs⟩)
  dsimp only [Pt.U, Pt.locs, Pt.cells, Pt.slots] at X' q1 q2 q3 st hQ
  subst q1 q2 q3
  exact Gl.st (fun _ kk => st.trans kk) (k v T' L X' hQ)
/-- a constructor, paid by a Back of the shape that backOf and the pasted String laws have -/
theorem gBackI (X : Stand p l e R s m args below meth c T locs cells slots) (hx : p.tables.exec = Jvm.exec) (hZ : Z.Warmed39 s.vm) {own : String} {index : Nat} {y : MethodName} {bytes : ByteArray} {maxL : Nat} (hy1 : y.name = "<init>") (hown : s.vm.findClass own = some m.cls)
    (w1 : (Cond.methodLink own index y).before a0 Z = true) (w2 : (Cond.instanceMethod y).before a0 Z = true) (w4 : (Cond.code y bytes maxL none).before a0 Z = true) (hy : y.cls ≠ "java/lang/invoke/MethodHandle" ∧ y.cls ≠ "java/lang/invoke/VarHandle")
    {kc ks W : Nat} {as' : Array Value} {QQ : Option Value → Heap → List Loc → Prop} (hK : Back l R p e below s args y 3 W (fun A a => a = as' ∧ A.U.heap = h ∧ A.cells + kc ≤ R.cells ∧ A.slots + ks ≤ R.slots) (fun A _ v B => ∃ L, QQ v B.U.heap L ∧ B.locs = A.locs ++ L ∧ B.cells = A.cells + kc ∧ B.slots = A.slots + ks)) (eT : T.heap = h) (hc : cells + kc ≤ R.cells) (hs : slots + ks ≤ R.slots)
    {g : JFrame} (hg : g.method = m) (hsize : g.locals.size = c.maxLocals) {a : Addr} {argsL rest : List Value} (hlen : ∀ sig, parseMethodDescriptor y.desc = some sig → argsL.length = sig.parameters.length) (hstack : g.stack = argsL.reverse ++ .ref a :: rest) (has : (.ref a :: argsL).toArray = as') (hW : 2 * g.monitorRoom + (rest.map fun v => v.category).sum ≤ W) (hd : decode c.code g.pc = .ok (.invokespecial index, 3))
    {Rr : State → Outcome → Prop} (k : ∀ (v : Option Value) (T' : State) (L : List Loc), Stand p l e R s m args below meth c T' (locs ++ L) (cells + kc) (slots + ks) → QQ v T'.heap L → Gl p e below Rr (T'.setTop { g with pc := g.pc + 3, stack := v.toList ++ rest })) : Gl p e below Rr (T.setTop g) := by
  obtain ⟨v, vm₁, ⟨T', L', c', n'⟩, -, X', ⟨L, hQ, q1, q2, q3⟩, st⟩ := X.specialBack hx (y := y) hy1 hown (mvT hZ w1) (mvT hZ w2) (mvT hZ w4) hy hK hg hsize (Steps.refl _) hlen hstack hW hd (fun _ _ => ⟨has, eT, hc, hs⟩)
  dsimp only [Pt.U, Pt.locs, Pt.cells, Pt.slots] at X' q1 q2 q3 st hQ
  subst q1 q2 q3
  exact Gl.st (fun _ kk => st.trans kk) (k v T' L X' hQ)
/-- the class of y is no interface: some call lands in a method of hers -/
theorem own_nf {s : State} {args : Array Value} {y x' z' : MethodName} {C' : String} (w : (Cond.selects C' x' z').before args s = true) (hc : z'.cls = y.cls) : NotFace s y := fun r0 h0 => by
  obtain ⟨c2, r2, m2, -, -, q3, -, kP, hkP, hkPi⟩ := Cond.selects_spec w
  have h1 := findClass_of_methodNamed h0
  have h2 := findClass_of_methodNamed q3
  rw [hc] at h2
  have q := Option.some.inj (h1.symm.trans h2)
  exact ⟨kP, by rw [q]; exact hkP, hkPi⟩
theorem gCallV (X : Stand p l e R s m args below meth c T locs cells slots) (hx : p.tables.exec = Jvm.exec) (hZ : Z.Warmed39 s.vm) {own C : String} {index : Nat} {y z : MethodName} {bytes : ByteArray} {maxL : Nat} {ret : Option FieldType} (hown : s.vm.findClass own = some m.cls)
    (w1 : (Cond.methodLink own index y).before a0 Z = true) (w2 : (Cond.declares y).before a0 Z = true) (w3 : (Cond.selects C y z).before a0 Z = true) (hnf : NotFace s y) (w4 : (Cond.instanceMethod z).before a0 Z = true) (w5 : (Cond.initialized z.cls).before a0 Z = true) (w6 : (Cond.code z bytes maxL ret).before a0 Z = true) (hy : y.cls ≠ "java/lang/invoke/MethodHandle" ∧ y.cls ≠ "java/lang/invoke/VarHandle")
    {rm : Room} {as' : Array Value} {QQ : Option Value → Heap → List Loc → Prop} (hC : Con [] l Z z bytes maxL ret rm as' h QQ) (eT : T.heap = h) {a : Addr} (E : Exa Z h a C) (hf : rm.frames + 1 ≤ R.frames) {W : Nat} (hl : W + (maxL + 11) + rm.locals ≤ R.locals) (hc : cells + rm.cells ≤ R.cells) (hs : slots + rm.slots ≤ R.slots)
    {g : JFrame} (hg : g.method = m) (hsize : g.locals.size = c.maxLocals) {argsL rest : List Value} (hlen : ∀ sig, parseMethodDescriptor y.desc = some sig → argsL.length = sig.parameters.length) (hstack : g.stack = argsL.reverse ++ .ref a :: rest) (has : (.ref a :: argsL).toArray = as') (hW : 2 * g.monitorRoom + (rest.map fun v => v.category).sum ≤ W) (hd : decode c.code g.pc = .ok (.invokevirtual index, 3))
    {Rr : State → Outcome → Prop} (k : ∀ (v : Option Value) (T' : State) (L : List Loc), Stand p l e R s m args below meth c T' (locs ++ L) (cells + rm.cells) (slots + rm.slots) → QQ v T'.heap L → Gl p e below Rr (T'.setTop { g with pc := g.pc + 3, stack := v.toList ++ rest })) : Gl p e below Rr (T.setTop g) := by
  obtain ⟨cq, kq, q34a, q34b, q34c⟩ := isOf hZ eT E
  obtain ⟨v, vm₁, ⟨T', L', c', n'⟩, -, X', ⟨L, hQ, q1, q2, q3⟩, st⟩ := X.virtualBack hx (y := y) (z := z) hown (mvT hZ w1) (mvT hZ w2) hnf (mvT hZ w3) (mvT hZ w4) hy (backOf (W := W) hC hZ w6 w5 hf hl) q34a q34c hg hsize (Steps.refl _) hlen hstack hW hd (fun _ _ => ⟨has, eT, hc, hs⟩)
  dsimp only [Pt.U, Pt.locs, Pt.cells, Pt.slots] at X' q1 q2 q3 st hQ
  subst q1 q2 q3
  exact Gl.st (fun _ kk => st.trans kk) (k v T' L X' hQ)
theorem gCallU (X : Stand p l e R s m args below meth c T locs cells slots) (hx : p.tables.exec = Jvm.exec) (hZ : Z.Warmed39 s.vm) {own C owner : String} {index : Nat} {y z : MethodName} {bytes : ByteArray} {maxL : Nat} {ret : Option FieldType} (hown : s.vm.findClass own = some m.cls)
    (w1 : (Cond.methodLink own index y).before a0 Z = true) (w0 : (Cond.sameMethod y.cls owner y.name y.desc).before a0 Z = true) (w2 : (Cond.declares ⟨owner, y.name, y.desc⟩).before a0 Z = true) (w3 : (Cond.selects C y z).before a0 Z = true) (w4 : (Cond.instanceMethod z).before a0 Z = true) (w5 : (Cond.initialized z.cls).before a0 Z = true) (w6 : (Cond.code z bytes maxL ret).before a0 Z = true) (hy : owner ≠ "java/lang/invoke/MethodHandle" ∧ owner ≠ "java/lang/invoke/VarHandle")
    {rm : Room} {as' : Array Value} {QQ : Option Value → Heap → List Loc → Prop} (hC : Con [] l Z z bytes maxL ret rm as' h QQ) (eT : T.heap = h) {a : Addr} (E : Exa Z h a C) (hf : rm.frames + 1 ≤ R.frames) {W : Nat} (hl : W + (maxL + 11) + rm.locals ≤ R.locals) (hc : cells + rm.cells ≤ R.cells) (hs : slots + rm.slots ≤ R.slots)
    {g : JFrame} (hg : g.method = m) (hsize : g.locals.size = c.maxLocals) {argsL rest : List Value} (hlen : ∀ sig, parseMethodDescriptor y.desc = some sig → argsL.length = sig.parameters.length) (hstack : g.stack = argsL.reverse ++ .ref a :: rest) (has : (.ref a :: argsL).toArray = as') (hW : 2 * g.monitorRoom + (rest.map fun v => v.category).sum ≤ W) (hd : decode c.code g.pc = .ok (.invokevirtual index, 3))
    {Rr : State → Outcome → Prop} (k : ∀ (v : Option Value) (T' : State) (L : List Loc), Stand p l e R s m args below meth c T' (locs ++ L) (cells + rm.cells) (slots + rm.slots) → QQ v T'.heap L → Gl p e below Rr (T'.setTop { g with pc := g.pc + 3, stack := v.toList ++ rest })) : Gl p e below Rr (T.setTop g) := by
  obtain ⟨cq, kq, q34a, q34b, q34c⟩ := isOf hZ eT E
  obtain ⟨v, vm₁, ⟨T', L', c', n'⟩, -, X', ⟨L, hQ, q1, q2, q3⟩, st⟩ := X.virtualBackUp hx (x := y) (y := z) hown (mvT hZ w1) (mvT hZ w0) (mvT hZ w2) hy (mvT hZ w3) (mvT hZ w4) (backOf (W := W) hC hZ w6 w5 hf hl) q34a q34c hg hsize (Steps.refl _) hlen hstack hW hd (fun _ _ => ⟨has, eT, hc, hs⟩)
  dsimp only [Pt.U, Pt.locs, Pt.cells, Pt.slots] at X' q1 q2 q3 st hQ
  subst q1 q2 q3
  exact Gl.st (fun _ kk => st.trans kk) (k v T' L X' hQ)
/-- C is no K: the chain of superclasses doesn't meet it; K by her word 'instantiable' -/
theorem own_NS_root {O K : String} {n : Nat} (w : (Cond.noSuperclass O).before a0 Z = true) (wk : (Cond.instantiable K n).before a0 Z = true) (hn : O ≠ K) : NS Z O K := by
  obtain ⟨c, k, h1, h2, h3, -, -⟩ := Cond.noSuperclass_spec w
  obtain ⟨t, kt, g1, -⟩ := Cond.instantiable_spec wk
  have ne := ids_ne h1 g1 hn
  refine ⟨c, t, h1, g1, fun fuel => ?_⟩
  cases fuel with
  | zero => rfl
  | succ f => simp [Vm.isSubclassAux, ne, h2, h3]
theorem own_NS_no {C S K : String} {n : Nat} (w : (Cond.superclass C S).before a0 Z = true) (wk : (Cond.instantiable K n).before a0 Z = true) (N : NS Z C K) (hn : C ≠ K) : ∃ c t, Z.vm.findClass C = some c ∧ Z.vm.findClass K = some t ∧ Z.vm.assignable c t = false := by
  obtain ⟨c, t, h0, g0, n3⟩ := N
  obtain ⟨pp, k, kp, h1, h2, h3, h4, h5, -, h7⟩ := Cond.superclass_spec h0 w
  obtain ⟨t', kt, g1, g2, g3, g4, -⟩ := Cond.instantiable_spec wk
  cases g0.symm.trans g1
  have gi : kt.isInterface = false := by
    rcases Bool.or_eq_false_iff.mp g4 with ⟨q, -⟩
    exact q
  have ne := ids_ne h0 g0 hn
  refine ⟨c, t, h0, g0, ?_⟩
  show Z.vm.assignableAux (255 + 1) c t = false
  simp [Vm.assignableAux, ne, h2, g2, h5, g3, gi, Vm.isSubclass, n3]
theorem own_gcls (X : Stand p l e R s m args below meth c T locs cells slots) (hx : p.tables.exec = Jvm.exec) (hZ : Z.Warmed39 s.vm) {own C : String} {index : Nat} (hown : s.vm.findClass own = some m.cls)
    (w1 : (Cond.methodLink own index ⟨"java/lang/Object", "getClass", "()Ljava/lang/Class;"⟩).before a0 Z = true) (w2 : (Cond.declares ⟨"java/lang/Object", "getClass", "()Ljava/lang/Class;"⟩).before a0 Z = true) (w3 : (Cond.noSuperclass "java/lang/Object").before a0 Z = true) (w4 : (Cond.selects C ⟨"java/lang/Object", "getClass", "()Ljava/lang/Class;"⟩ ⟨"java/lang/Object", "getClass", "()Ljava/lang/Class;"⟩).before a0 Z = true)
    (w5 : (Cond.instanceMethod ⟨"java/lang/Object", "getClass", "()Ljava/lang/Class;"⟩).before a0 Z = true) (w6 : (Cond.native ⟨"java/lang/Object", "getClass", "()Ljava/lang/Class;"⟩).before a0 Z = true) (eT : T.heap = h) {a : Addr} (E : Exa Z h a C) {mr : Addr} {cc : ClassId} {kc : Class} (m1 : Z.vm.findClass C = some cc) (m2 : Z.vm.classes[cc]? = some kc) (m3 : kc.mirror = some mr)
    {g : JFrame} (hg : g.method = m) (hsize : g.locals.size = c.maxLocals) {rest : List Value} (hs : g.stack = .ref a :: rest) (hd : decode c.code g.pc = .ok (.invokevirtual index, 3)) (hf : 1 ≤ R.frames) {W : Nat} (hW : 2 * g.monitorRoom + (rest.map fun v => v.category).sum ≤ W) (hl : W + (nativeFrameWords "java/lang/Object" "getClass" 1 + 11) ≤ R.locals) :
    ∃ T', Stand p l e R s m args below meth c T' locs cells slots ∧ T'.heap = h ∧ ∀ target, Steps p.tables e below (T'.setTop { g with pc := g.pc + 3, stack := .ref mr :: rest }) target → Steps p.tables e below (T.setTop g) target := by
  obtain ⟨cB, kB, i1, i2, i3⟩ := isOf hZ eT E
  have i1' := i1
  rw [hZ.alike.findClass] at i1'
  cases i1'.symm.trans m1
  obtain ⟨k', q, ek⟩ := hZ.alike.2.2 _ _ m2
  obtain ⟨vm', X', st⟩ := X.getClassOf hx hown (mvT hZ w1) (mvT hZ w2) (nf_top (args := #[]) (mvT hZ w3)) (mvT hZ w4) (mvT hZ w5) (mvT hZ w6) i1 i3 q (by rw [ek]; exact m3) hg hsize hs hd hf (by omega)
  exact ⟨_, X', eT, st⟩
theorem own_and255 (x : Int32) : ¬ x &&& 255 < 0 ∧ ¬ (255 : Int32) < x &&& 255 := by
  have h := c_and x 255 (by decide)
  rw [show (255 : Int32).toInt = 255 from rfl] at h
  simp only [Int32.lt_iff_toInt_lt, show (255 : Int32).toInt = 255 from rfl, show (0 : Int32).toInt = 0 from rfl]
  omega
theorem own_len {t : Term} {cl : Cell} {ty : FieldType} {a : Addr} {n : Int32} {aa : Array Value} (ev : t.eval aa Z none [] Z = some (.ref a)) (A : Arr Z Z.heap a cl ty) (hh : (Term.length t).eval aa Z none [] Z = some (.int n)) : cl.slots.size < 2 ^ 31 ∧ cl.slots.size.toInt32 = n := by
  have q := A.fin (Vm.Alike.refl _)
  by_cases z : cl.slots.size < 2 ^ 31
  · rw [len_f ev q z] at hh
    exact ⟨z, Value.int.inj (Option.some.inj hh)⟩
  · simp [Term.eval, ev, q, z] at hh
end OwnKit
end Jvm.RoadKit

namespace Jvm.Pilot.@@N@@
open Jvm Jvm.ClassFile Sem Op Lib Jvm.Free Jvm.Stand Jvm.LawKit Jvm.RoadKit Bundle Jvm.Pilot.@@N@@.Jvm.D

def own_type (t0 t1 t2 t3 t4 t5 t6 t7 t8 t9 t10 t11 : Addr) (k : Int32) : Value := if k = 0 then .ref t0 else if k = 1 then .ref t1 else if k = 2 then .ref t2 else if k = 3 then .ref t3 else if k = 4 then .ref t4 else if k = 5 then .ref t5 else if k = 6 then .ref t6 else if k = 7 then .ref t7 else if k = 8 then .ref t8 else if k = 9 then .ref t9 else if k = 10 then .ref t10 else if k = 11 then .ref t11 else .null
def own_S (Z : State) (h : Heap) (t0 t1 t2 t3 t4 t5 t6 t7 t8 t9 t10 t11 : Addr) : Prop := Sta Z h "com/example/rungsight/rungsight/types/IntegerType" "SINT" "Lcom/example/rungsight/rungsight/types/IntegerType;" (.ref t0) ∧ Sta Z h "com/example/rungsight/rungsight/types/IntegerType" "INT" "Lcom/example/rungsight/rungsight/types/IntegerType;" (.ref t1) ∧ Sta Z h "com/example/rungsight/rungsight/types/IntegerType" "DINT" "Lcom/example/rungsight/rungsight/types/IntegerType;" (.ref t2) ∧ Sta Z h "com/example/rungsight/rungsight/types/IntegerType" "LINT" "Lcom/example/rungsight/rungsight/types/IntegerType;" (.ref t3) ∧ Sta Z h "com/example/rungsight/rungsight/types/IntegerType" "USINT" "Lcom/example/rungsight/rungsight/types/IntegerType;" (.ref t4) ∧ Sta Z h "com/example/rungsight/rungsight/types/IntegerType" "UINT" "Lcom/example/rungsight/rungsight/types/IntegerType;" (.ref t5) ∧ Sta Z h "com/example/rungsight/rungsight/types/IntegerType" "UDINT" "Lcom/example/rungsight/rungsight/types/IntegerType;" (.ref t6) ∧ Sta Z h "com/example/rungsight/rungsight/types/IntegerType" "ULINT" "Lcom/example/rungsight/rungsight/types/IntegerType;" (.ref t7) ∧ Sta Z h "com/example/rungsight/rungsight/types/IntegerType" "BYTE" "Lcom/example/rungsight/rungsight/types/IntegerType;" (.ref t8) ∧ Sta Z h "com/example/rungsight/rungsight/types/IntegerType" "WORD" "Lcom/example/rungsight/rungsight/types/IntegerType;" (.ref t9) ∧ Sta Z h "com/example/rungsight/rungsight/types/IntegerType" "DWORD" "Lcom/example/rungsight/rungsight/types/IntegerType;" (.ref t10) ∧ Sta Z h "com/example/rungsight/rungsight/types/IntegerType" "LWORD" "Lcom/example/rungsight/rungsight/types/IntegerType;" (.ref t11)
def own_O (Z : State) (h : Heap) (o0 o1 o2 o3 o4 : Addr) : Prop := Sta Z h "com/example/rungsight/rungsight/flow/Variable$Origin" "DECLARED" "Lcom/example/rungsight/rungsight/flow/Variable$Origin;" (.ref o0) ∧ Sta Z h "com/example/rungsight/rungsight/flow/Variable$Origin" "RESULT" "Lcom/example/rungsight/rungsight/flow/Variable$Origin;" (.ref o1) ∧ Sta Z h "com/example/rungsight/rungsight/flow/Variable$Origin" "INSTANCE" "Lcom/example/rungsight/rungsight/flow/Variable$Origin;" (.ref o2) ∧ Sta Z h "com/example/rungsight/rungsight/flow/Variable$Origin" "GLOBAL" "Lcom/example/rungsight/rungsight/flow/Variable$Origin;" (.ref o3) ∧ Sta Z h "com/example/rungsight/rungsight/flow/Variable$Origin" "CURRENT_RESULT" "Lcom/example/rungsight/rungsight/flow/Variable$Origin;" (.ref o4)
def own_N (Z : State) (h : Heap) (t0 t1 t2 t3 t4 t5 t6 t7 t8 t9 t10 t11 : Addr) : Prop := Fld Z h t0 "java/lang/Enum" "ordinal" "I" (.int 0) ∧ Fld Z h t1 "java/lang/Enum" "ordinal" "I" (.int 1) ∧ Fld Z h t2 "java/lang/Enum" "ordinal" "I" (.int 2) ∧ Fld Z h t3 "java/lang/Enum" "ordinal" "I" (.int 3) ∧ Fld Z h t4 "java/lang/Enum" "ordinal" "I" (.int 4) ∧ Fld Z h t5 "java/lang/Enum" "ordinal" "I" (.int 5) ∧ Fld Z h t6 "java/lang/Enum" "ordinal" "I" (.int 6) ∧ Fld Z h t7 "java/lang/Enum" "ordinal" "I" (.int 7) ∧ Fld Z h t8 "java/lang/Enum" "ordinal" "I" (.int 8) ∧ Fld Z h t9 "java/lang/Enum" "ordinal" "I" (.int 9) ∧ Fld Z h t10 "java/lang/Enum" "ordinal" "I" (.int 10) ∧ Fld Z h t11 "java/lang/Enum" "ordinal" "I" (.int 11)
theorem own_S_ext {Z : State} {h h' : Heap} {t0 t1 t2 t3 t4 t5 t6 t7 t8 t9 t10 t11 : Addr} (E : Ext h h') (H : own_S Z h t0 t1 t2 t3 t4 t5 t6 t7 t8 t9 t10 t11) : own_S Z h' t0 t1 t2 t3 t4 t5 t6 t7 t8 t9 t10 t11 := by
  obtain ⟨S0, S1, S2, S3, S4, S5, S6, S7, S8, S9, S10, S11⟩ := H
  exact ⟨S0.ext E, S1.ext E, S2.ext E, S3.ext E, S4.ext E, S5.ext E, S6.ext E, S7.ext E, S8.ext E, S9.ext E, S10.ext E, S11.ext E⟩
theorem own_O_ext {Z : State} {h h' : Heap} {o0 o1 o2 o3 o4 : Addr} (E : Ext h h') (H : own_O Z h o0 o1 o2 o3 o4) : own_O Z h' o0 o1 o2 o3 o4 := by
  obtain ⟨S0, S1, S2, S3, S4⟩ := H
  exact ⟨S0.ext E, S1.ext E, S2.ext E, S3.ext E, S4.ext E⟩
theorem own_type_ref (t0 t1 t2 t3 t4 t5 t6 t7 t8 t9 t10 t11 : Addr) (k : Int32) : (own_type t0 t1 t2 t3 t4 t5 t6 t7 t8 t9 t10 t11 k).isRef = true := by
  unfold own_type
  by_cases q0 : k = 0
  · rw [if_pos q0]; rfl
  rw [if_neg q0]
  by_cases q1 : k = 1
  · rw [if_pos q1]; rfl
  rw [if_neg q1]
  by_cases q2 : k = 2
  · rw [if_pos q2]; rfl
  rw [if_neg q2]
  by_cases q3 : k = 3
  · rw [if_pos q3]; rfl
  rw [if_neg q3]
  by_cases q4 : k = 4
  · rw [if_pos q4]; rfl
  rw [if_neg q4]
  by_cases q5 : k = 5
  · rw [if_pos q5]; rfl
  rw [if_neg q5]
  by_cases q6 : k = 6
  · rw [if_pos q6]; rfl
  rw [if_neg q6]
  by_cases q7 : k = 7
  · rw [if_pos q7]; rfl
  rw [if_neg q7]
  by_cases q8 : k = 8
  · rw [if_pos q8]; rfl
  rw [if_neg q8]
  by_cases q9 : k = 9
  · rw [if_pos q9]; rfl
  rw [if_neg q9]
  by_cases q10 : k = 10
  · rw [if_pos q10]; rfl
  rw [if_neg q10]
  by_cases q11 : k = 11
  · rw [if_pos q11]; rfl
  rw [if_neg q11]
  rfl
theorem own_type_ord {Z : State} {h : Heap} {t0 t1 t2 t3 t4 t5 t6 t7 t8 t9 t10 t11 : Addr} (H : own_N Z h t0 t1 t2 t3 t4 t5 t6 t7 t8 t9 t10 t11) (k : Int32) (k0 : 0 ≤ k.toInt) (k1 : k.toInt < 13) : (own_type t0 t1 t2 t3 t4 t5 t6 t7 t8 t9 t10 t11 k = .null ∧ k = 12) ∨ ∃ r, own_type t0 t1 t2 t3 t4 t5 t6 t7 t8 t9 t10 t11 k = .ref r ∧ Fld Z h r "java/lang/Enum" "ordinal" "I" (.int k) := by
  obtain ⟨F0, F1, F2, F3, F4, F5, F6, F7, F8, F9, F10, F11⟩ := H
  unfold own_type
  by_cases q0 : k = 0
  · rw [if_pos q0]
    exact Or.inr ⟨_, rfl, q0 ▸ F0⟩
  rw [if_neg q0]
  by_cases q1 : k = 1
  · rw [if_pos q1]
    exact Or.inr ⟨_, rfl, q1 ▸ F1⟩
  rw [if_neg q1]
  by_cases q2 : k = 2
  · rw [if_pos q2]
    exact Or.inr ⟨_, rfl, q2 ▸ F2⟩
  rw [if_neg q2]
  by_cases q3 : k = 3
  · rw [if_pos q3]
    exact Or.inr ⟨_, rfl, q3 ▸ F3⟩
  rw [if_neg q3]
  by_cases q4 : k = 4
  · rw [if_pos q4]
    exact Or.inr ⟨_, rfl, q4 ▸ F4⟩
  rw [if_neg q4]
  by_cases q5 : k = 5
  · rw [if_pos q5]
    exact Or.inr ⟨_, rfl, q5 ▸ F5⟩
  rw [if_neg q5]
  by_cases q6 : k = 6
  · rw [if_pos q6]
    exact Or.inr ⟨_, rfl, q6 ▸ F6⟩
  rw [if_neg q6]
  by_cases q7 : k = 7
  · rw [if_pos q7]
    exact Or.inr ⟨_, rfl, q7 ▸ F7⟩
  rw [if_neg q7]
  by_cases q8 : k = 8
  · rw [if_pos q8]
    exact Or.inr ⟨_, rfl, q8 ▸ F8⟩
  rw [if_neg q8]
  by_cases q9 : k = 9
  · rw [if_pos q9]
    exact Or.inr ⟨_, rfl, q9 ▸ F9⟩
  rw [if_neg q9]
  by_cases q10 : k = 10
  · rw [if_pos q10]
    exact Or.inr ⟨_, rfl, q10 ▸ F10⟩
  rw [if_neg q10]
  by_cases q11 : k = 11
  · rw [if_pos q11]
    exact Or.inr ⟨_, rfl, q11 ▸ F11⟩
  rw [if_neg q11]
  have r0 : k.toInt ≠ 0 := fun z => q0 (Int32.toInt_inj.mp z)
  have r1 : k.toInt ≠ 1 := fun z => q1 (Int32.toInt_inj.mp z)
  have r2 : k.toInt ≠ 2 := fun z => q2 (Int32.toInt_inj.mp z)
  have r3 : k.toInt ≠ 3 := fun z => q3 (Int32.toInt_inj.mp z)
  have r4 : k.toInt ≠ 4 := fun z => q4 (Int32.toInt_inj.mp z)
  have r5 : k.toInt ≠ 5 := fun z => q5 (Int32.toInt_inj.mp z)
  have r6 : k.toInt ≠ 6 := fun z => q6 (Int32.toInt_inj.mp z)
  have r7 : k.toInt ≠ 7 := fun z => q7 (Int32.toInt_inj.mp z)
  have r8 : k.toInt ≠ 8 := fun z => q8 (Int32.toInt_inj.mp z)
  have r9 : k.toInt ≠ 9 := fun z => q9 (Int32.toInt_inj.mp z)
  have r10 : k.toInt ≠ 10 := fun z => q10 (Int32.toInt_inj.mp z)
  have r11 : k.toInt ≠ 11 := fun z => q11 (Int32.toInt_inj.mp z)
  exact Or.inl ⟨rfl, Int32.toInt_inj.mp (by show k.toInt = 12; omega)⟩
theorem own_type_inj {Z : State} {h : Heap} {t0 t1 t2 t3 t4 t5 t6 t7 t8 t9 t10 t11 : Addr} (H : own_N Z h t0 t1 t2 t3 t4 t5 t6 t7 t8 t9 t10 t11) (k j : Int32) (k0 : 0 ≤ k.toInt) (k1 : k.toInt < 13) (j0 : 0 ≤ j.toInt) (j1 : j.toInt < 13) : own_type t0 t1 t2 t3 t4 t5 t6 t7 t8 t9 t10 t11 k = own_type t0 t1 t2 t3 t4 t5 t6 t7 t8 t9 t10 t11 j ↔ k = j := by
  refine ⟨fun q => ?_, fun q => by rw [q]⟩
  rcases own_type_ord H k k0 k1 with ⟨a1, a2⟩ | ⟨r, a1, a2⟩ <;> rcases own_type_ord H j j0 j1 with ⟨b1, b2⟩ | ⟨r', b1, b2⟩
  · rw [a2, b2]
  · rw [a1, b1] at q; cases q
  · rw [a1, b1] at q; cases q
  · rw [a1, b1] at q
    by_cases z : k = j
    · exact z
    · exact absurd (Value.ref.inj q) (Fld.ne a2 b2 (fun u => z (Value.int.inj u)))
theorem own_rng (x d : Int32) (hd : 0 < d.toInt) : 0 ≤ ((x &&& (2147483647 : Int32)) % d).toInt ∧ ((x &&& (2147483647 : Int32)) % d).toInt < d.toInt := by
  have h1 := (c_and x 2147483647 (by decide)).1
  have h2 := (c_iremV (x &&& 2147483647) d).1 h1 hd
  exact ⟨h2.1, h2.2.1⟩
def own_V (Z : State) (h : Heap) (a : Addr) (sh rf : Int32) (ty : Value) : Prop := Exa Z h a "com/example/rungsight/rungsight/flow/Variable" ∧ own_K h a ∧ Fld Z h a "com/example/rungsight/rungsight/flow/Variable" "shared" "Z" (.int sh) ∧ Fld Z h a "com/example/rungsight/rungsight/flow/Variable" "reference" "Z" (.int rf) ∧ Fld Z h a "com/example/rungsight/rungsight/flow/Variable" "type" "Lcom/example/rungsight/rungsight/types/IntegerType;" ty
theorem own_V_keep {Z : State} {h h' : Heap} {a : Addr} {sh rf : Int32} {ty : Value} {ws : List Addr} (K : Keep h h' ws) (q : a ∉ ws) (H : own_V Z h a sh rf ty) : own_V Z h' a sh rf ty := ⟨H.1.keep K, own_K_keep K H.2.1, H.2.2.1.keep K q, H.2.2.2.1.keep K q, H.2.2.2.2.keep K q⟩
theorem own_V_ext {Z : State} {h h' : Heap} {a : Addr} {sh rf : Int32} {ty : Value} (E : Ext h h') (H : own_V Z h a sh rf ty) : own_V Z h' a sh rf ty := ⟨H.1.ext E, own_K_ext E H.2.1, H.2.2.1.ext E, H.2.2.2.1.ext E, H.2.2.2.2.ext E⟩
theorem d1_0 : decode method_2_code 0 = .ok (.iload_n 0, 1) := by decide +kernel
theorem d1_1 : decode method_2_code 1 = .ok (.ifCond .ne 7, 3) := by decide +kernel
theorem d1_4 : decode method_2_code 4 = .ok (.getstatic 7, 3) := by decide +kernel
theorem d1_7 : decode method_2_code 7 = .ok (.areturn, 1) := by decide +kernel
theorem d1_8 : decode method_2_code 8 = .ok (.iload_n 0, 1) := by decide +kernel
theorem d1_9 : decode method_2_code 9 = .ok (.iconst 1, 1) := by decide +kernel
theorem d1_10 : decode method_2_code 10 = .ok (.if_icmp .ne 7, 3) := by decide +kernel
theorem d1_13 : decode method_2_code 13 = .ok (.getstatic 13, 3) := by decide +kernel
theorem d1_16 : decode method_2_code 16 = .ok (.areturn, 1) := by decide +kernel
theorem d1_17 : decode method_2_code 17 = .ok (.iload_n 0, 1) := by decide +kernel
theorem d1_18 : decode method_2_code 18 = .ok (.iconst 2, 1) := by decide +kernel
theorem d1_19 : decode method_2_code 19 = .ok (.if_icmp .ne 7, 3) := by decide +kernel
theorem d1_22 : decode method_2_code 22 = .ok (.getstatic 16, 3) := by decide +kernel
theorem d1_25 : decode method_2_code 25 = .ok (.areturn, 1) := by decide +kernel
theorem d1_26 : decode method_2_code 26 = .ok (.iload_n 0, 1) := by decide +kernel
theorem d1_27 : decode method_2_code 27 = .ok (.iconst 3, 1) := by decide +kernel
theorem d1_28 : decode method_2_code 28 = .ok (.if_icmp .ne 7, 3) := by decide +kernel
theorem d1_31 : decode method_2_code 31 = .ok (.getstatic 19, 3) := by decide +kernel
theorem d1_34 : decode method_2_code 34 = .ok (.areturn, 1) := by decide +kernel
theorem d1_35 : decode method_2_code 35 = .ok (.iload_n 0, 1) := by decide +kernel
theorem d1_36 : decode method_2_code 36 = .ok (.iconst 4, 1) := by decide +kernel
theorem d1_37 : decode method_2_code 37 = .ok (.if_icmp .ne 7, 3) := by decide +kernel
theorem d1_40 : decode method_2_code 40 = .ok (.getstatic 22, 3) := by decide +kernel
theorem d1_43 : decode method_2_code 43 = .ok (.areturn, 1) := by decide +kernel
theorem d1_44 : decode method_2_code 44 = .ok (.iload_n 0, 1) := by decide +kernel
theorem d1_45 : decode method_2_code 45 = .ok (.iconst 5, 1) := by decide +kernel
theorem d1_46 : decode method_2_code 46 = .ok (.if_icmp .ne 7, 3) := by decide +kernel
theorem d1_49 : decode method_2_code 49 = .ok (.getstatic 25, 3) := by decide +kernel
theorem d1_52 : decode method_2_code 52 = .ok (.areturn, 1) := by decide +kernel
theorem d1_53 : decode method_2_code 53 = .ok (.iload_n 0, 1) := by decide +kernel
theorem d1_54 : decode method_2_code 54 = .ok (.bipush 6, 2) := by decide +kernel
theorem d1_56 : decode method_2_code 56 = .ok (.if_icmp .ne 7, 3) := by decide +kernel
theorem d1_59 : decode method_2_code 59 = .ok (.getstatic 28, 3) := by decide +kernel
theorem d1_62 : decode method_2_code 62 = .ok (.areturn, 1) := by decide +kernel
theorem d1_63 : decode method_2_code 63 = .ok (.iload_n 0, 1) := by decide +kernel
theorem d1_64 : decode method_2_code 64 = .ok (.bipush 7, 2) := by decide +kernel
theorem d1_66 : decode method_2_code 66 = .ok (.if_icmp .ne 7, 3) := by decide +kernel
theorem d1_69 : decode method_2_code 69 = .ok (.getstatic 31, 3) := by decide +kernel
theorem d1_72 : decode method_2_code 72 = .ok (.areturn, 1) := by decide +kernel
theorem d1_73 : decode method_2_code 73 = .ok (.iload_n 0, 1) := by decide +kernel
theorem d1_74 : decode method_2_code 74 = .ok (.bipush 8, 2) := by decide +kernel
theorem d1_76 : decode method_2_code 76 = .ok (.if_icmp .ne 7, 3) := by decide +kernel
theorem d1_79 : decode method_2_code 79 = .ok (.getstatic 34, 3) := by decide +kernel
theorem d1_82 : decode method_2_code 82 = .ok (.areturn, 1) := by decide +kernel
theorem d1_83 : decode method_2_code 83 = .ok (.iload_n 0, 1) := by decide +kernel
theorem d1_84 : decode method_2_code 84 = .ok (.bipush 9, 2) := by decide +kernel
theorem d1_86 : decode method_2_code 86 = .ok (.if_icmp .ne 7, 3) := by decide +kernel
theorem d1_89 : decode method_2_code 89 = .ok (.getstatic 37, 3) := by decide +kernel
theorem d1_92 : decode method_2_code 92 = .ok (.areturn, 1) := by decide +kernel
theorem d1_93 : decode method_2_code 93 = .ok (.iload_n 0, 1) := by decide +kernel
theorem d1_94 : decode method_2_code 94 = .ok (.bipush 10, 2) := by decide +kernel
theorem d1_96 : decode method_2_code 96 = .ok (.if_icmp .ne 7, 3) := by decide +kernel
theorem d1_99 : decode method_2_code 99 = .ok (.getstatic 40, 3) := by decide +kernel
theorem d1_102 : decode method_2_code 102 = .ok (.areturn, 1) := by decide +kernel
theorem d1_103 : decode method_2_code 103 = .ok (.iload_n 0, 1) := by decide +kernel
theorem d1_104 : decode method_2_code 104 = .ok (.bipush 11, 2) := by decide +kernel
theorem d1_106 : decode method_2_code 106 = .ok (.if_icmp .ne 7, 3) := by decide +kernel
theorem d1_109 : decode method_2_code 109 = .ok (.getstatic 43, 3) := by decide +kernel
theorem d1_112 : decode method_2_code 112 = .ok (.areturn, 1) := by decide +kernel
theorem d1_113 : decode method_2_code 113 = .ok (.aconst_null, 1) := by decide +kernel
theorem d1_114 : decode method_2_code 114 = .ok (.areturn, 1) := by decide +kernel
set_option maxRecDepth 65536 in
set_option maxHeartbeats 40000000 in
theorem own_type_con (l : Launch) (Z : State) (a0 : Array Value) (hw : ∀ d ∈ tables_1, d.before a0 Z = true) (h0 : Heap) (t0 t1 t2 t3 t4 t5 t6 t7 t8 t9 t10 t11 : Addr) (hS : own_S Z h0 t0 t1 t2 t3 t4 t5 t6 t7 t8 t9 t10 t11) (k : Int32) :
    Con [] l Z (⟨"com/example/rungsight/rungsight/flow/VariableMayAliasPinLaw", "type", "(I)Lcom/example/rungsight/rungsight/types/IntegerType;"⟩ : MethodName) method_2_code 1 (Option.some (Jvm.ClassFile.FieldType.object "com/example/rungsight/rungsight/types/IntegerType")) ({ frames := 0, cells := 0, slots := 0, locals := 0 } : Room) #[(.int k)] h0 (fun v h L => v = some (own_type t0 t1 t2 t3 t4 t5 t6 t7 t8 t9 t10 t11 k) ∧ L = [] ∧ h = h0) := by
  refine Con.of (Ls := #[.val (.int k)]) (by first | exact plainFor_of_name (by first | (simp [plainName, overriddenIn]; done) | decide +kernel) | decide +kernel) (fun m => by first | (simp [entryFrame, mkF, argsToLocals, Value.category]; done) | (simp [entryFrame, mkF, argsToLocals, Value.category, maxLocals]; done) | rfl) ?_
  intro p e s m below meth c T0 hx hby hml hown hnm hret hlk hZ e0 X0
  obtain ⟨S0, S1, S2, S3, S4, S5, S6, S7, S8, S9, S10, S11⟩ := hS
  refine Gl.st (U' := (T0.setTop (mkF m 1 #[.val (.int k)] [(.int k)]))) (fun _ zz => XS.iloadN X0.here hx rfl (hb hby d1_0) rfl zz) ?_
  by_cases q0 : k = (0 : Int32)
  · refine Gl.st (U' := (T0.setTop (mkF m 4 #[.val (.int k)] []))) (fun _ zz => XS.ifNo X0.here hx rfl (hb hby d1_1) rfl ((if0 _ _).trans (teq q0).2) zz) ?_
    obtain ⟨Tt1, Xt1, et1, stt1⟩ := getS2 X0 hx hZ hown (host := "") (Or.inl (hw _ (List.mem_of_getElem? (i := 79) rfl))) Via.refl e0 S0 (g := (mkF m 4 #[.val (.int k)] [])) rfl (hb hby d1_4)
    refine Gl.st (U' := (Tt1.setTop (mkF m 7 #[.val (.int k)] [(.ref t0)]))) stt1 ?_
    exact Gl.retA Xt1 hx hret rfl hlk rfl (hb hby d1_7) ⟨by unfold own_type; rw [if_pos q0], rfl, et1⟩ (by decide) (by decide)
  · refine Gl.st (U' := (T0.setTop (mkF m 8 #[.val (.int k)] []))) (fun _ zz => XS.ifYes X0.here hx rfl (pc0 := 1) (pc' := 8) rfl (hb hby d1_1) rfl ((if0 _ _).trans (feq q0).2) (by decide) (by decide) zz) ?_
    refine Gl.st (U' := (T0.setTop (mkF m 9 #[.val (.int k)] [(.int k)]))) (fun _ zz => XS.iloadN X0.here hx rfl (hb hby d1_8) rfl zz) ?_
    refine Gl.st (U' := (T0.setTop (mkF m 10 #[.val (.int k)] [(.int (1 : Int32)), (.int k)]))) (fun _ zz => XS.iconst X0.here hx rfl (hb hby d1_9) zz) ?_
    by_cases q1 : k = (1 : Int32)
    · refine Gl.st (U' := (T0.setTop (mkF m 13 #[.val (.int k)] []))) (fun _ zz => XS.icmpNo X0.here hx rfl (hb hby d1_10) rfl (teq q1).2 zz) ?_
      obtain ⟨Tt2, Xt2, et2, stt2⟩ := getS2 X0 hx hZ hown (host := "") (Or.inl (hw _ (List.mem_of_getElem? (i := 73) rfl))) Via.refl e0 S1 (g := (mkF m 13 #[.val (.int k)] [])) rfl (hb hby d1_13)
      refine Gl.st (U' := (Tt2.setTop (mkF m 16 #[.val (.int k)] [(.ref t1)]))) stt2 ?_
      exact Gl.retA Xt2 hx hret rfl hlk rfl (hb hby d1_16) ⟨by unfold own_type; rw [if_neg q0, if_pos q1], rfl, et2⟩ (by decide) (by decide)
    · refine Gl.st (U' := (T0.setTop (mkF m 17 #[.val (.int k)] []))) (fun _ zz => XS.icmpYes X0.here hx rfl (pc0 := 10) (pc' := 17) rfl (hb hby d1_10) rfl (feq q1).2 (by decide) (by decide) zz) ?_
      refine Gl.st (U' := (T0.setTop (mkF m 18 #[.val (.int k)] [(.int k)]))) (fun _ zz => XS.iloadN X0.here hx rfl (hb hby d1_17) rfl zz) ?_
      refine Gl.st (U' := (T0.setTop (mkF m 19 #[.val (.int k)] [(.int (2 : Int32)), (.int k)]))) (fun _ zz => XS.iconst X0.here hx rfl (hb hby d1_18) zz) ?_
      by_cases q2 : k = (2 : Int32)
      · refine Gl.st (U' := (T0.setTop (mkF m 22 #[.val (.int k)] []))) (fun _ zz => XS.icmpNo X0.here hx rfl (hb hby d1_19) rfl (teq q2).2 zz) ?_
        obtain ⟨Tt3, Xt3, et3, stt3⟩ := getS2 X0 hx hZ hown (host := "") (Or.inl (hw _ (List.mem_of_getElem? (i := 43) rfl))) Via.refl e0 S2 (g := (mkF m 22 #[.val (.int k)] [])) rfl (hb hby d1_22)
        refine Gl.st (U' := (Tt3.setTop (mkF m 25 #[.val (.int k)] [(.ref t2)]))) stt3 ?_
        exact Gl.retA Xt3 hx hret rfl hlk rfl (hb hby d1_25) ⟨by unfold own_type; rw [if_neg q0, if_neg q1, if_pos q2], rfl, et3⟩ (by decide) (by decide)
      · refine Gl.st (U' := (T0.setTop (mkF m 26 #[.val (.int k)] []))) (fun _ zz => XS.icmpYes X0.here hx rfl (pc0 := 19) (pc' := 26) rfl (hb hby d1_19) rfl (feq q2).2 (by decide) (by decide) zz) ?_
        refine Gl.st (U' := (T0.setTop (mkF m 27 #[.val (.int k)] [(.int k)]))) (fun _ zz => XS.iloadN X0.here hx rfl (hb hby d1_26) rfl zz) ?_
        refine Gl.st (U' := (T0.setTop (mkF m 28 #[.val (.int k)] [(.int (3 : Int32)), (.int k)]))) (fun _ zz => XS.iconst X0.here hx rfl (hb hby d1_27) zz) ?_
        by_cases q3 : k = (3 : Int32)
        · refine Gl.st (U' := (T0.setTop (mkF m 31 #[.val (.int k)] []))) (fun _ zz => XS.icmpNo X0.here hx rfl (hb hby d1_28) rfl (teq q3).2 zz) ?_
          obtain ⟨Tt4, Xt4, et4, stt4⟩ := getS2 X0 hx hZ hown (host := "") (Or.inl (hw _ (List.mem_of_getElem? (i := 8) rfl))) Via.refl e0 S3 (g := (mkF m 31 #[.val (.int k)] [])) rfl (hb hby d1_31)
          refine Gl.st (U' := (Tt4.setTop (mkF m 34 #[.val (.int k)] [(.ref t3)]))) stt4 ?_
          exact Gl.retA Xt4 hx hret rfl hlk rfl (hb hby d1_34) ⟨by unfold own_type; rw [if_neg q0, if_neg q1, if_neg q2, if_pos q3], rfl, et4⟩ (by decide) (by decide)
        · refine Gl.st (U' := (T0.setTop (mkF m 35 #[.val (.int k)] []))) (fun _ zz => XS.icmpYes X0.here hx rfl (pc0 := 28) (pc' := 35) rfl (hb hby d1_28) rfl (feq q3).2 (by decide) (by decide) zz) ?_
          refine Gl.st (U' := (T0.setTop (mkF m 36 #[.val (.int k)] [(.int k)]))) (fun _ zz => XS.iloadN X0.here hx rfl (hb hby d1_35) rfl zz) ?_
          refine Gl.st (U' := (T0.setTop (mkF m 37 #[.val (.int k)] [(.int (4 : Int32)), (.int k)]))) (fun _ zz => XS.iconst X0.here hx rfl (hb hby d1_36) zz) ?_
          by_cases q4 : k = (4 : Int32)
          · refine Gl.st (U' := (T0.setTop (mkF m 40 #[.val (.int k)] []))) (fun _ zz => XS.icmpNo X0.here hx rfl (hb hby d1_37) rfl (teq q4).2 zz) ?_
            obtain ⟨Tt5, Xt5, et5, stt5⟩ := getS2 X0 hx hZ hown (host := "") (Or.inl (hw _ (List.mem_of_getElem? (i := 52) rfl))) Via.refl e0 S4 (g := (mkF m 40 #[.val (.int k)] [])) rfl (hb hby d1_40)
            refine Gl.st (U' := (Tt5.setTop (mkF m 43 #[.val (.int k)] [(.ref t4)]))) stt5 ?_
            exact Gl.retA Xt5 hx hret rfl hlk rfl (hb hby d1_43) ⟨by unfold own_type; rw [if_neg q0, if_neg q1, if_neg q2, if_neg q3, if_pos q4], rfl, et5⟩ (by decide) (by decide)
          · refine Gl.st (U' := (T0.setTop (mkF m 44 #[.val (.int k)] []))) (fun _ zz => XS.icmpYes X0.here hx rfl (pc0 := 37) (pc' := 44) rfl (hb hby d1_37) rfl (feq q4).2 (by decide) (by decide) zz) ?_
            refine Gl.st (U' := (T0.setTop (mkF m 45 #[.val (.int k)] [(.int k)]))) (fun _ zz => XS.iloadN X0.here hx rfl (hb hby d1_44) rfl zz) ?_
            refine Gl.st (U' := (T0.setTop (mkF m 46 #[.val (.int k)] [(.int (5 : Int32)), (.int k)]))) (fun _ zz => XS.iconst X0.here hx rfl (hb hby d1_45) zz) ?_
            by_cases q5 : k = (5 : Int32)
            · refine Gl.st (U' := (T0.setTop (mkF m 49 #[.val (.int k)] []))) (fun _ zz => XS.icmpNo X0.here hx rfl (hb hby d1_46) rfl (teq q5).2 zz) ?_
              obtain ⟨Tt6, Xt6, et6, stt6⟩ := getS2 X0 hx hZ hown (host := "") (Or.inl (hw _ (List.mem_of_getElem? (i := 56) rfl))) Via.refl e0 S5 (g := (mkF m 49 #[.val (.int k)] [])) rfl (hb hby d1_49)
              refine Gl.st (U' := (Tt6.setTop (mkF m 52 #[.val (.int k)] [(.ref t5)]))) stt6 ?_
              exact Gl.retA Xt6 hx hret rfl hlk rfl (hb hby d1_52) ⟨by unfold own_type; rw [if_neg q0, if_neg q1, if_neg q2, if_neg q3, if_neg q4, if_pos q5], rfl, et6⟩ (by decide) (by decide)
            · refine Gl.st (U' := (T0.setTop (mkF m 53 #[.val (.int k)] []))) (fun _ zz => XS.icmpYes X0.here hx rfl (pc0 := 46) (pc' := 53) rfl (hb hby d1_46) rfl (feq q5).2 (by decide) (by decide) zz) ?_
              refine Gl.st (U' := (T0.setTop (mkF m 54 #[.val (.int k)] [(.int k)]))) (fun _ zz => XS.iloadN X0.here hx rfl (hb hby d1_53) rfl zz) ?_
              refine Gl.st (U' := (T0.setTop (mkF m 56 #[.val (.int k)] [(.int (6 : Int32)), (.int k)]))) (fun _ zz => XS.bipush X0.here hx rfl (hb hby d1_54) zz) ?_
              by_cases q6 : k = (6 : Int32)
              · refine Gl.st (U' := (T0.setTop (mkF m 59 #[.val (.int k)] []))) (fun _ zz => XS.icmpNo X0.here hx rfl (hb hby d1_56) rfl (teq q6).2 zz) ?_
                obtain ⟨Tt7, Xt7, et7, stt7⟩ := getS2 X0 hx hZ hown (host := "") (Or.inl (hw _ (List.mem_of_getElem? (i := 77) rfl))) Via.refl e0 S6 (g := (mkF m 59 #[.val (.int k)] [])) rfl (hb hby d1_59)
                refine Gl.st (U' := (Tt7.setTop (mkF m 62 #[.val (.int k)] [(.ref t6)]))) stt7 ?_
                exact Gl.retA Xt7 hx hret rfl hlk rfl (hb hby d1_62) ⟨by unfold own_type; rw [if_neg q0, if_neg q1, if_neg q2, if_neg q3, if_neg q4, if_neg q5, if_pos q6], rfl, et7⟩ (by decide) (by decide)
              · refine Gl.st (U' := (T0.setTop (mkF m 63 #[.val (.int k)] []))) (fun _ zz => XS.icmpYes X0.here hx rfl (pc0 := 56) (pc' := 63) rfl (hb hby d1_56) rfl (feq q6).2 (by decide) (by decide) zz) ?_
                refine Gl.st (U' := (T0.setTop (mkF m 64 #[.val (.int k)] [(.int k)]))) (fun _ zz => XS.iloadN X0.here hx rfl (hb hby d1_63) rfl zz) ?_
                refine Gl.st (U' := (T0.setTop (mkF m 66 #[.val (.int k)] [(.int (7 : Int32)), (.int k)]))) (fun _ zz => XS.bipush X0.here hx rfl (hb hby d1_64) zz) ?_
                by_cases q7 : k = (7 : Int32)
                · refine Gl.st (U' := (T0.setTop (mkF m 69 #[.val (.int k)] []))) (fun _ zz => XS.icmpNo X0.here hx rfl (hb hby d1_66) rfl (teq q7).2 zz) ?_
                  obtain ⟨Tt8, Xt8, et8, stt8⟩ := getS2 X0 hx hZ hown (host := "") (Or.inl (hw _ (List.mem_of_getElem? (i := 75) rfl))) Via.refl e0 S7 (g := (mkF m 69 #[.val (.int k)] [])) rfl (hb hby d1_69)
                  refine Gl.st (U' := (Tt8.setTop (mkF m 72 #[.val (.int k)] [(.ref t7)]))) stt8 ?_
                  exact Gl.retA Xt8 hx hret rfl hlk rfl (hb hby d1_72) ⟨by unfold own_type; rw [if_neg q0, if_neg q1, if_neg q2, if_neg q3, if_neg q4, if_neg q5, if_neg q6, if_pos q7], rfl, et8⟩ (by decide) (by decide)
                · refine Gl.st (U' := (T0.setTop (mkF m 73 #[.val (.int k)] []))) (fun _ zz => XS.icmpYes X0.here hx rfl (pc0 := 66) (pc' := 73) rfl (hb hby d1_66) rfl (feq q7).2 (by decide) (by decide) zz) ?_
                  refine Gl.st (U' := (T0.setTop (mkF m 74 #[.val (.int k)] [(.int k)]))) (fun _ zz => XS.iloadN X0.here hx rfl (hb hby d1_73) rfl zz) ?_
                  refine Gl.st (U' := (T0.setTop (mkF m 76 #[.val (.int k)] [(.int (8 : Int32)), (.int k)]))) (fun _ zz => XS.bipush X0.here hx rfl (hb hby d1_74) zz) ?_
                  by_cases q8 : k = (8 : Int32)
                  · refine Gl.st (U' := (T0.setTop (mkF m 79 #[.val (.int k)] []))) (fun _ zz => XS.icmpNo X0.here hx rfl (hb hby d1_76) rfl (teq q8).2 zz) ?_
                    obtain ⟨Tt9, Xt9, et9, stt9⟩ := getS2 X0 hx hZ hown (host := "") (Or.inl (hw _ (List.mem_of_getElem? (i := 81) rfl))) Via.refl e0 S8 (g := (mkF m 79 #[.val (.int k)] [])) rfl (hb hby d1_79)
                    refine Gl.st (U' := (Tt9.setTop (mkF m 82 #[.val (.int k)] [(.ref t8)]))) stt9 ?_
                    exact Gl.retA Xt9 hx hret rfl hlk rfl (hb hby d1_82) ⟨by unfold own_type; rw [if_neg q0, if_neg q1, if_neg q2, if_neg q3, if_neg q4, if_neg q5, if_neg q6, if_neg q7, if_pos q8], rfl, et9⟩ (by decide) (by decide)
                  · refine Gl.st (U' := (T0.setTop (mkF m 83 #[.val (.int k)] []))) (fun _ zz => XS.icmpYes X0.here hx rfl (pc0 := 76) (pc' := 83) rfl (hb hby d1_76) rfl (feq q8).2 (by decide) (by decide) zz) ?_
                    refine Gl.st (U' := (T0.setTop (mkF m 84 #[.val (.int k)] [(.int k)]))) (fun _ zz => XS.iloadN X0.here hx rfl (hb hby d1_83) rfl zz) ?_
                    refine Gl.st (U' := (T0.setTop (mkF m 86 #[.val (.int k)] [(.int (9 : Int32)), (.int k)]))) (fun _ zz => XS.bipush X0.here hx rfl (hb hby d1_84) zz) ?_
                    by_cases q9 : k = (9 : Int32)
                    · refine Gl.st (U' := (T0.setTop (mkF m 89 #[.val (.int k)] []))) (fun _ zz => XS.icmpNo X0.here hx rfl (hb hby d1_86) rfl (teq q9).2 zz) ?_
                      obtain ⟨Tt10, Xt10, et10, stt10⟩ := getS2 X0 hx hZ hown (host := "") (Or.inl (hw _ (List.mem_of_getElem? (i := 60) rfl))) Via.refl e0 S9 (g := (mkF m 89 #[.val (.int k)] [])) rfl (hb hby d1_89)
                      refine Gl.st (U' := (Tt10.setTop (mkF m 92 #[.val (.int k)] [(.ref t9)]))) stt10 ?_
                      exact Gl.retA Xt10 hx hret rfl hlk rfl (hb hby d1_92) ⟨by unfold own_type; rw [if_neg q0, if_neg q1, if_neg q2, if_neg q3, if_neg q4, if_neg q5, if_neg q6, if_neg q7, if_neg q8, if_pos q9], rfl, et10⟩ (by decide) (by decide)
                    · refine Gl.st (U' := (T0.setTop (mkF m 93 #[.val (.int k)] []))) (fun _ zz => XS.icmpYes X0.here hx rfl (pc0 := 86) (pc' := 93) rfl (hb hby d1_86) rfl (feq q9).2 (by decide) (by decide) zz) ?_
                      refine Gl.st (U' := (T0.setTop (mkF m 94 #[.val (.int k)] [(.int k)]))) (fun _ zz => XS.iloadN X0.here hx rfl (hb hby d1_93) rfl zz) ?_
                      refine Gl.st (U' := (T0.setTop (mkF m 96 #[.val (.int k)] [(.int (10 : Int32)), (.int k)]))) (fun _ zz => XS.bipush X0.here hx rfl (hb hby d1_94) zz) ?_
                      by_cases q10 : k = (10 : Int32)
                      · refine Gl.st (U' := (T0.setTop (mkF m 99 #[.val (.int k)] []))) (fun _ zz => XS.icmpNo X0.here hx rfl (hb hby d1_96) rfl (teq q10).2 zz) ?_
                        obtain ⟨Tt11, Xt11, et11, stt11⟩ := getS2 X0 hx hZ hown (host := "") (Or.inl (hw _ (List.mem_of_getElem? (i := 54) rfl))) Via.refl e0 S10 (g := (mkF m 99 #[.val (.int k)] [])) rfl (hb hby d1_99)
                        refine Gl.st (U' := (Tt11.setTop (mkF m 102 #[.val (.int k)] [(.ref t10)]))) stt11 ?_
                        exact Gl.retA Xt11 hx hret rfl hlk rfl (hb hby d1_102) ⟨by unfold own_type; rw [if_neg q0, if_neg q1, if_neg q2, if_neg q3, if_neg q4, if_neg q5, if_neg q6, if_neg q7, if_neg q8, if_neg q9, if_pos q10], rfl, et11⟩ (by decide) (by decide)
                      · refine Gl.st (U' := (T0.setTop (mkF m 103 #[.val (.int k)] []))) (fun _ zz => XS.icmpYes X0.here hx rfl (pc0 := 96) (pc' := 103) rfl (hb hby d1_96) rfl (feq q10).2 (by decide) (by decide) zz) ?_
                        refine Gl.st (U' := (T0.setTop (mkF m 104 #[.val (.int k)] [(.int k)]))) (fun _ zz => XS.iloadN X0.here hx rfl (hb hby d1_103) rfl zz) ?_
                        refine Gl.st (U' := (T0.setTop (mkF m 106 #[.val (.int k)] [(.int (11 : Int32)), (.int k)]))) (fun _ zz => XS.bipush X0.here hx rfl (hb hby d1_104) zz) ?_
                        by_cases q11 : k = (11 : Int32)
                        · refine Gl.st (U' := (T0.setTop (mkF m 109 #[.val (.int k)] []))) (fun _ zz => XS.icmpNo X0.here hx rfl (hb hby d1_106) rfl (teq q11).2 zz) ?_
                          obtain ⟨Tt12, Xt12, et12, stt12⟩ := getS2 X0 hx hZ hown (host := "") (Or.inl (hw _ (List.mem_of_getElem? (i := 83) rfl))) Via.refl e0 S11 (g := (mkF m 109 #[.val (.int k)] [])) rfl (hb hby d1_109)
                          refine Gl.st (U' := (Tt12.setTop (mkF m 112 #[.val (.int k)] [(.ref t11)]))) stt12 ?_
                          exact Gl.retA Xt12 hx hret rfl hlk rfl (hb hby d1_112) ⟨by unfold own_type; rw [if_neg q0, if_neg q1, if_neg q2, if_neg q3, if_neg q4, if_neg q5, if_neg q6, if_neg q7, if_neg q8, if_neg q9, if_neg q10, if_pos q11], rfl, et12⟩ (by decide) (by decide)
                        · refine Gl.st (U' := (T0.setTop (mkF m 113 #[.val (.int k)] []))) (fun _ zz => XS.icmpYes X0.here hx rfl (pc0 := 106) (pc' := 113) rfl (hb hby d1_106) rfl (feq q11).2 (by decide) (by decide) zz) ?_
                          refine Gl.st (U' := (T0.setTop (mkF m 114 #[.val (.int k)] [.null]))) (fun _ zz => XS.aconstNull X0.here hx rfl (hb hby d1_113) zz) ?_
                          exact Gl.retA X0 hx hret rfl hlk rfl (hb hby d1_114) ⟨by unfold own_type; rw [if_neg q0, if_neg q1, if_neg q2, if_neg q3, if_neg q4, if_neg q5, if_neg q6, if_neg q7, if_neg q8, if_neg q9, if_neg q10, if_neg q11], rfl, e0⟩ (by decide) (by decide)
theorem d2_0 : decode method_3_code 0 = .ok (.iload_n 0, 1) := by decide +kernel
theorem d2_1 : decode method_3_code 1 = .ok (.ldc 46, 2) := by decide +kernel
theorem d2_3 : decode method_3_code 3 = .ok (.iand, 1) := by decide +kernel
theorem d2_4 : decode method_3_code 4 = .ok (.iconst 5, 1) := by decide +kernel
theorem d2_5 : decode method_3_code 5 = .ok (.irem, 1) := by decide +kernel
theorem d2_6 : decode method_3_code 6 = .ok (.istore_n 1, 1) := by decide +kernel
theorem d2_7 : decode method_3_code 7 = .ok (.iload_n 1, 1) := by decide +kernel
theorem d2_8 : decode method_3_code 8 = .ok (.ifCond .ne 7, 3) := by decide +kernel
theorem d2_11 : decode method_3_code 11 = .ok (.getstatic 47, 3) := by decide +kernel
theorem d2_14 : decode method_3_code 14 = .ok (.areturn, 1) := by decide +kernel
theorem d2_15 : decode method_3_code 15 = .ok (.iload_n 1, 1) := by decide +kernel
theorem d2_16 : decode method_3_code 16 = .ok (.iconst 1, 1) := by decide +kernel
theorem d2_17 : decode method_3_code 17 = .ok (.if_icmp .ne 7, 3) := by decide +kernel
theorem d2_20 : decode method_3_code 20 = .ok (.getstatic 53, 3) := by decide +kernel
theorem d2_23 : decode method_3_code 23 = .ok (.areturn, 1) := by decide +kernel
theorem d2_24 : decode method_3_code 24 = .ok (.iload_n 1, 1) := by decide +kernel
theorem d2_25 : decode method_3_code 25 = .ok (.iconst 2, 1) := by decide +kernel
theorem d2_26 : decode method_3_code 26 = .ok (.if_icmp .ne 7, 3) := by decide +kernel
theorem d2_29 : decode method_3_code 29 = .ok (.getstatic 56, 3) := by decide +kernel
theorem d2_32 : decode method_3_code 32 = .ok (.areturn, 1) := by decide +kernel
theorem d2_33 : decode method_3_code 33 = .ok (.iload_n 1, 1) := by decide +kernel
theorem d2_34 : decode method_3_code 34 = .ok (.iconst 3, 1) := by decide +kernel
theorem d2_35 : decode method_3_code 35 = .ok (.if_icmp .ne 7, 3) := by decide +kernel
theorem d2_38 : decode method_3_code 38 = .ok (.getstatic 59, 3) := by decide +kernel
theorem d2_41 : decode method_3_code 41 = .ok (.areturn, 1) := by decide +kernel
theorem d2_42 : decode method_3_code 42 = .ok (.getstatic 62, 3) := by decide +kernel
theorem d2_45 : decode method_3_code 45 = .ok (.areturn, 1) := by decide +kernel
set_option maxRecDepth 65536 in
set_option maxHeartbeats 40000000 in
theorem own_orig_con (l : Launch) (Z : State) (a0 : Array Value) (hw : ∀ d ∈ tables_1, d.before a0 Z = true) (h0 : Heap) (o0 o1 o2 o3 o4 : Addr) (hS : own_O Z h0 o0 o1 o2 o3 o4) (k : Int32) :
    Con [] l Z (⟨"com/example/rungsight/rungsight/flow/VariableMayAliasPinLaw", "origin", "(I)Lcom/example/rungsight/rungsight/flow/Variable$Origin;"⟩ : MethodName) method_3_code 2 (Option.some (Jvm.ClassFile.FieldType.object "com/example/rungsight/rungsight/flow/Variable$Origin")) ({ frames := 0, cells := 0, slots := 0, locals := 0 } : Room) #[(.int k)] h0 (fun v h L => ∃ r, v = some (.ref r) ∧ L = [] ∧ h = h0) := by
  refine Con.of (Ls := #[.val (.int k), .unset]) (by first | exact plainFor_of_name (by first | (simp [plainName, overriddenIn]; done) | decide +kernel) | decide +kernel) (fun m => by first | (simp [entryFrame, mkF, argsToLocals, Value.category]; done) | (simp [entryFrame, mkF, argsToLocals, Value.category, maxLocals]; done) | rfl) ?_
  intro p e s m below meth c T0 hx hby hml hown hnm hret hlk hZ e0 X0
  obtain ⟨S0, S1, S2, S3, S4⟩ := hS
  refine Gl.st (U' := (T0.setTop (mkF m 1 #[.val (.int k), .unset] [(.int k)]))) (fun _ zz => XS.iloadN X0.here hx rfl (hb hby d2_0) rfl zz) ?_
  refine Gl.st (U' := (T0.setTop (mkF m 3 #[.val (.int k), .unset] [(.int (2147483647 : Int32)), (.int k)]))) (fun _ zz => Jvm.Stand.ldcI (g := (mkF m 1 #[.val (.int k), .unset] [(.int k)])) X0 hx hown (mvT hZ (hw _ (List.mem_of_getElem? (i := 0) rfl))) rfl (hb hby d2_1) zz) ?_
  refine Gl.st (U' := (T0.setTop (mkF m 4 #[.val (.int k), .unset] [(.int (k &&& (2147483647 : Int32)))]))) (fun _ zz => XS.iand X0.here hx rfl (hb hby d2_3) rfl zz) ?_
  refine Gl.st (U' := (T0.setTop (mkF m 5 #[.val (.int k), .unset] [(.int (5 : Int32)), (.int (k &&& (2147483647 : Int32)))]))) (fun _ zz => XS.iconst X0.here hx rfl (hb hby d2_4) zz) ?_
  refine Gl.st (U' := (T0.setTop (mkF m 6 #[.val (.int k), .unset] [(.int ((k &&& (2147483647 : Int32)) % (5 : Int32)))]))) (fun _ zz => iremM (g := (mkF m 5 #[.val (.int k), .unset] [(.int (5 : Int32)), (.int (k &&& (2147483647 : Int32)))])) X0 hx rfl (hb hby d2_5) rfl (by decide) zz) ?_
  refine Gl.st (U' := (T0.setTop (mkF m 7 #[.val (.int k), .val (.int ((k &&& (2147483647 : Int32)) % (5 : Int32)))] []))) (fun _ zz => XS.istoreN X0.here hx rfl (hb hby d2_6) rfl (l' := #[.val (.int k), .val (.int ((k &&& (2147483647 : Int32)) % (5 : Int32)))]) rfl zz) ?_
  refine Gl.st (U' := (T0.setTop (mkF m 8 #[.val (.int k), .val (.int ((k &&& (2147483647 : Int32)) % (5 : Int32)))] [(.int ((k &&& (2147483647 : Int32)) % (5 : Int32)))]))) (fun _ zz => XS.iloadN X0.here hx rfl (hb hby d2_7) rfl zz) ?_
  generalize ((k &&& (2147483647 : Int32)) % (5 : Int32)) = j
  by_cases q0 : j = (0 : Int32)
  · refine Gl.st (U' := (T0.setTop (mkF m 11 #[.val (.int k), .val (.int j)] []))) (fun _ zz => XS.ifNo X0.here hx rfl (hb hby d2_8) rfl ((if0 _ _).trans (teq q0).2) zz) ?_
    obtain ⟨Tt13, Xt13, et13, stt13⟩ := getS2 X0 hx hZ hown (host := "") (Or.inl (hw _ (List.mem_of_getElem? (i := 45) rfl))) Via.refl e0 S0 (g := (mkF m 11 #[.val (.int k), .val (.int j)] [])) rfl (hb hby d2_11)
    refine Gl.st (U' := (Tt13.setTop (mkF m 14 #[.val (.int k), .val (.int j)] [(.ref o0)]))) stt13 ?_
    exact Gl.retA Xt13 hx hret rfl hlk rfl (hb hby d2_14) ⟨_, rfl, rfl, et13⟩ (by decide) (by decide)
  · refine Gl.st (U' := (T0.setTop (mkF m 15 #[.val (.int k), .val (.int j)] []))) (fun _ zz => XS.ifYes X0.here hx rfl (pc0 := 8) (pc' := 15) rfl (hb hby d2_8) rfl ((if0 _ _).trans (feq q0).2) (by decide) (by decide) zz) ?_
    refine Gl.st (U' := (T0.setTop (mkF m 16 #[.val (.int k), .val (.int j)] [(.int j)]))) (fun _ zz => XS.iloadN X0.here hx rfl (hb hby d2_15) rfl zz) ?_
    refine Gl.st (U' := (T0.setTop (mkF m 17 #[.val (.int k), .val (.int j)] [(.int (1 : Int32)), (.int j)]))) (fun _ zz => XS.iconst X0.here hx rfl (hb hby d2_16) zz) ?_
    by_cases q1 : j = (1 : Int32)
    · refine Gl.st (U' := (T0.setTop (mkF m 20 #[.val (.int k), .val (.int j)] []))) (fun _ zz => XS.icmpNo X0.here hx rfl (hb hby d2_17) rfl (teq q1).2 zz) ?_
      obtain ⟨Tt14, Xt14, et14, stt14⟩ := getS2 X0 hx hZ hown (host := "") (Or.inl (hw _ (List.mem_of_getElem? (i := 14) rfl))) Via.refl e0 S1 (g := (mkF m 20 #[.val (.int k), .val (.int j)] [])) rfl (hb hby d2_20)
      refine Gl.st (U' := (Tt14.setTop (mkF m 23 #[.val (.int k), .val (.int j)] [(.ref o1)]))) stt14 ?_
      exact Gl.retA Xt14 hx hret rfl hlk rfl (hb hby d2_23) ⟨_, rfl, rfl, et14⟩ (by decide) (by decide)
    · refine Gl.st (U' := (T0.setTop (mkF m 24 #[.val (.int k), .val (.int j)] []))) (fun _ zz => XS.icmpYes X0.here hx rfl (pc0 := 17) (pc' := 24) rfl (hb hby d2_17) rfl (feq q1).2 (by decide) (by decide) zz) ?_
      refine Gl.st (U' := (T0.setTop (mkF m 25 #[.val (.int k), .val (.int j)] [(.int j)]))) (fun _ zz => XS.iloadN X0.here hx rfl (hb hby d2_24) rfl zz) ?_
      refine Gl.st (U' := (T0.setTop (mkF m 26 #[.val (.int k), .val (.int j)] [(.int (2 : Int32)), (.int j)]))) (fun _ zz => XS.iconst X0.here hx rfl (hb hby d2_25) zz) ?_
      by_cases q2 : j = (2 : Int32)
      · refine Gl.st (U' := (T0.setTop (mkF m 29 #[.val (.int k), .val (.int j)] []))) (fun _ zz => XS.icmpNo X0.here hx rfl (hb hby d2_26) rfl (teq q2).2 zz) ?_
        obtain ⟨Tt15, Xt15, et15, stt15⟩ := getS2 X0 hx hZ hown (host := "") (Or.inl (hw _ (List.mem_of_getElem? (i := 71) rfl))) Via.refl e0 S2 (g := (mkF m 29 #[.val (.int k), .val (.int j)] [])) rfl (hb hby d2_29)
        refine Gl.st (U' := (Tt15.setTop (mkF m 32 #[.val (.int k), .val (.int j)] [(.ref o2)]))) stt15 ?_
        exact Gl.retA Xt15 hx hret rfl hlk rfl (hb hby d2_32) ⟨_, rfl, rfl, et15⟩ (by decide) (by decide)
      · refine Gl.st (U' := (T0.setTop (mkF m 33 #[.val (.int k), .val (.int j)] []))) (fun _ zz => XS.icmpYes X0.here hx rfl (pc0 := 26) (pc' := 33) rfl (hb hby d2_26) rfl (feq q2).2 (by decide) (by decide) zz) ?_
        refine Gl.st (U' := (T0.setTop (mkF m 34 #[.val (.int k), .val (.int j)] [(.int j)]))) (fun _ zz => XS.iloadN X0.here hx rfl (hb hby d2_33) rfl zz) ?_
        refine Gl.st (U' := (T0.setTop (mkF m 35 #[.val (.int k), .val (.int j)] [(.int (3 : Int32)), (.int j)]))) (fun _ zz => XS.iconst X0.here hx rfl (hb hby d2_34) zz) ?_
        by_cases q3 : j = (3 : Int32)
        · refine Gl.st (U' := (T0.setTop (mkF m 38 #[.val (.int k), .val (.int j)] []))) (fun _ zz => XS.icmpNo X0.here hx rfl (hb hby d2_35) rfl (teq q3).2 zz) ?_
          obtain ⟨Tt16, Xt16, et16, stt16⟩ := getS2 X0 hx hZ hown (host := "") (Or.inl (hw _ (List.mem_of_getElem? (i := 62) rfl))) Via.refl e0 S3 (g := (mkF m 38 #[.val (.int k), .val (.int j)] [])) rfl (hb hby d2_38)
          refine Gl.st (U' := (Tt16.setTop (mkF m 41 #[.val (.int k), .val (.int j)] [(.ref o3)]))) stt16 ?_
          exact Gl.retA Xt16 hx hret rfl hlk rfl (hb hby d2_41) ⟨_, rfl, rfl, et16⟩ (by decide) (by decide)
        · refine Gl.st (U' := (T0.setTop (mkF m 42 #[.val (.int k), .val (.int j)] []))) (fun _ zz => XS.icmpYes X0.here hx rfl (pc0 := 35) (pc' := 42) rfl (hb hby d2_35) rfl (feq q3).2 (by decide) (by decide) zz) ?_
          obtain ⟨Tt17, Xt17, et17, stt17⟩ := getS2 X0 hx hZ hown (host := "") (Or.inl (hw _ (List.mem_of_getElem? (i := 58) rfl))) Via.refl e0 S4 (g := (mkF m 42 #[.val (.int k), .val (.int j)] [])) rfl (hb hby d2_42)
          refine Gl.st (U' := (Tt17.setTop (mkF m 45 #[.val (.int k), .val (.int j)] [(.ref o4)]))) stt17 ?_
          exact Gl.retA Xt17 hx hret rfl hlk rfl (hb hby d2_45) ⟨_, rfl, rfl, et17⟩ (by decide) (by decide)
theorem d3_0 : decode prog_38_method_1_code 0 = .ok (.aload_n 0, 1) := by decide +kernel
theorem d3_1 : decode prog_38_method_1_code 1 = .ok (.invokespecial 1, 3) := by decide +kernel
theorem d3_4 : decode prog_38_method_1_code 4 = .ok (.aload_n 0, 1) := by decide +kernel
theorem d3_5 : decode prog_38_method_1_code 5 = .ok (.aload 10, 2) := by decide +kernel
theorem d3_7 : decode prog_38_method_1_code 7 = .ok (.putfield 7, 3) := by decide +kernel
theorem d3_10 : decode prog_38_method_1_code 10 = .ok (.aload_n 0, 1) := by decide +kernel
theorem d3_11 : decode prog_38_method_1_code 11 = .ok (.aload_n 1, 1) := by decide +kernel
theorem d3_12 : decode prog_38_method_1_code 12 = .ok (.putfield 13, 3) := by decide +kernel
theorem d3_15 : decode prog_38_method_1_code 15 = .ok (.aload_n 0, 1) := by decide +kernel
theorem d3_16 : decode prog_38_method_1_code 16 = .ok (.aload_n 2, 1) := by decide +kernel
theorem d3_17 : decode prog_38_method_1_code 17 = .ok (.putfield 17, 3) := by decide +kernel
theorem d3_20 : decode prog_38_method_1_code 20 = .ok (.aload_n 0, 1) := by decide +kernel
theorem d3_21 : decode prog_38_method_1_code 21 = .ok (.iload_n 3, 1) := by decide +kernel
theorem d3_22 : decode prog_38_method_1_code 22 = .ok (.putfield 21, 3) := by decide +kernel
theorem d3_25 : decode prog_38_method_1_code 25 = .ok (.aload_n 0, 1) := by decide +kernel
theorem d3_26 : decode prog_38_method_1_code 26 = .ok (.aload 4, 2) := by decide +kernel
theorem d3_28 : decode prog_38_method_1_code 28 = .ok (.putfield 25, 3) := by decide +kernel
theorem d3_31 : decode prog_38_method_1_code 31 = .ok (.aload_n 0, 1) := by decide +kernel
theorem d3_32 : decode prog_38_method_1_code 32 = .ok (.iload 5, 2) := by decide +kernel
theorem d3_34 : decode prog_38_method_1_code 34 = .ok (.putfield 29, 3) := by decide +kernel
theorem d3_37 : decode prog_38_method_1_code 37 = .ok (.aload_n 0, 1) := by decide +kernel
theorem d3_38 : decode prog_38_method_1_code 38 = .ok (.iload 6, 2) := by decide +kernel
theorem d3_40 : decode prog_38_method_1_code 40 = .ok (.putfield 33, 3) := by decide +kernel
theorem d3_43 : decode prog_38_method_1_code 43 = .ok (.aload_n 0, 1) := by decide +kernel
theorem d3_44 : decode prog_38_method_1_code 44 = .ok (.iload 7, 2) := by decide +kernel
theorem d3_46 : decode prog_38_method_1_code 46 = .ok (.putfield 36, 3) := by decide +kernel
theorem d3_49 : decode prog_38_method_1_code 49 = .ok (.aload_n 0, 1) := by decide +kernel
theorem d3_50 : decode prog_38_method_1_code 50 = .ok (.iload 8, 2) := by decide +kernel
theorem d3_52 : decode prog_38_method_1_code 52 = .ok (.putfield 39, 3) := by decide +kernel
theorem d3_55 : decode prog_38_method_1_code 55 = .ok (.aload_n 0, 1) := by decide +kernel
theorem d3_56 : decode prog_38_method_1_code 56 = .ok (.iload 9, 2) := by decide +kernel
theorem d3_58 : decode prog_38_method_1_code 58 = .ok (.putfield 42, 3) := by decide +kernel
theorem d3_61 : decode prog_38_method_1_code 61 = .ok (.return_, 1) := by decide +kernel
set_option maxRecDepth 65536 in
set_option maxHeartbeats 40000000 in
theorem own_init_con (l : Launch) (Z : State) (a0 : Array Value) (hw : ∀ d ∈ tables_1, d.before a0 Z = true) (h0 : Heap) (n0 : Nat) (a : Addr) (ga : n0 ≤ a) (E0 : Exa Z h0 a "com/example/rungsight/rungsight/flow/Variable") (K0 : own_K h0 a) (vt : Value) (hvt : vt.isRef = true) (ix : Int32) (oo : Addr) (b1 b2 b3 b4 b5 : Int32) (g1 : b1 = 0 ∨ b1 = 1) (g2 : b2 = 0 ∨ b2 = 1) (g3 : b3 = 0 ∨ b3 = 1) (g4 : b4 = 0 ∨ b4 = 1) (g5 : b5 = 0 ∨ b5 = 1) :
    Con [] l Z site_173 prog_38_method_1_code 11 none ({ frames := 1, cells := 0, slots := 0, locals := 12 } : Room) #[(.ref a), .null, vt, (.int ix), (.ref oo), (.int b1), (.int b2), (.int b3), (.int b4), (.int b5), .null] h0 (fun v h L => v = none ∧ Fr n0 L ∧ Keep h0 h [a] ∧ own_V Z h a b1 b2 vt) := by
  refine Con.of (Ls := #[.val (.ref a), .val .null, .val vt, .val (.int ix), .val (.ref oo), .val (.int b1), .val (.int b2), .val (.int b3), .val (.int b4), .val (.int b5), .val .null]) (by first | exact plainFor_of_name (by first | (simp [plainName, overriddenIn]; done) | decide +kernel) | decide +kernel) (fun m => by rcases ref_cases hvt with rfl | ⟨_, rfl⟩ <;> first | (simp [entryFrame, mkF, argsToLocals, Value.category]; done) | rfl) ?_
  intro p e s m below meth c T0 hx hby hml hown hnm hret hlk hZ e0 X0
  have P0 : Keep h0 h0 [a] := Keep.refl _ _
  have N0 := Fr.nil n0
  refine Gl.st (U' := (T0.setTop (mkF m 1 #[.val (.ref a), .val .null, .val vt, .val (.int ix), .val (.ref oo), .val (.int b1), .val (.int b2), .val (.int b3), .val (.int b4), .val (.int b5), .val .null] [(.ref a)]))) (fun _ zz => XS.aloadN X0.here hx rfl (hb hby d3_0) rfl rfl zz) ?_
  obtain ⟨Tt18, Xt18, et18, stt18⟩ := initO X0 hx hZ hown (hw _ (List.mem_of_getElem? (i := 20) rfl)) (hw _ (List.mem_of_getElem? (i := 21) rfl)) (hw _ (List.mem_of_getElem? (i := 22) rfl)) e0 (g := (mkF m 1 #[.val (.ref a), .val .null, .val vt, .val (.int ix), .val (.ref oo), .val (.int b1), .val (.int b2), .val (.int b3), .val (.int b4), .val (.int b5), .val .null] [(.ref a)])) rfl (by rw [hml]; rfl) rfl (hb hby d3_1) (by decide) (W := 0) (by show 2 * 0 + _ ≤ _; exact Nat.le_of_eq rfl) (by decide)
  refine Gl.st (U' := (Tt18.setTop (mkF m 4 #[.val (.ref a), .val .null, .val vt, .val (.int ix), .val (.ref oo), .val (.int b1), .val (.int b2), .val (.int b3), .val (.int b4), .val (.int b5), .val .null] []))) stt18 ?_
  refine Gl.st (U' := (Tt18.setTop (mkF m 5 #[.val (.ref a), .val .null, .val vt, .val (.int ix), .val (.ref oo), .val (.int b1), .val (.int b2), .val (.int b3), .val (.int b4), .val (.int b5), .val .null] [(.ref a)]))) (fun _ zz => XS.aloadN Xt18.here hx rfl (hb hby d3_4) rfl rfl zz) ?_
  refine Gl.st (U' := (Tt18.setTop (mkF m 7 #[.val (.ref a), .val .null, .val vt, .val (.int ix), .val (.ref oo), .val (.int b1), .val (.int b2), .val (.int b3), .val (.int b4), .val (.int b5), .val .null] [.null, (.ref a)]))) (fun _ zz => XS.aload Xt18.here hx rfl (hb hby d3_5) rfl rfl zz) ?_
  obtain ⟨ot19, Ft19⟩ := fld_laid E0 K0 (hw _ (List.mem_of_getElem? (i := 2) rfl)) (Or.inr (hw _ (List.mem_of_getElem? (i := 24) rfl)))
  obtain ⟨Tt20, ht20, Xt20, et20, Wt20, stt20⟩ := putF Xt18 hx hZ hown (host := "") (Or.inl (hw _ (List.mem_of_getElem? (i := 23) rfl))) Via.refl et18 Ft19 E0 (Or.inr ⟨(hw _ (List.mem_of_getElem? (i := 24) rfl)), rfl, hnm⟩) (hw _ (List.mem_of_getElem? (i := 2) rfl)) (own_ty_eq (by decide +kernel)) own_nn (by decide +kernel) (g := (mkF m 7 #[.val (.ref a), .val .null, .val vt, .val (.int ix), .val (.ref oo), .val (.int b1), .val (.int b2), .val (.int b3), .val (.int b4), .val (.int b5), .val .null] [.null, (.ref a)])) rfl rfl (hb hby d3_7)
  refine Gl.st (U' := (Tt20.setTop (mkF m 10 #[.val (.ref a), .val .null, .val vt, .val (.int ix), .val (.ref oo), .val (.int b1), .val (.int b2), .val (.int b3), .val (.int b4), .val (.int b5), .val .null] []))) stt20 ?_
  have Et21 := Exa.wr Wt20 E0
  have Kt21 := own_K_wr Wt20 K0
  have Pt23 := Keep.wr P0 Wt20 (Or.inl (List.mem_singleton.mpr rfl))
  have Nt24 := Fr.snoc Xt20 N0 ga
  refine Gl.st (U' := (Tt20.setTop (mkF m 11 #[.val (.ref a), .val .null, .val vt, .val (.int ix), .val (.ref oo), .val (.int b1), .val (.int b2), .val (.int b3), .val (.int b4), .val (.int b5), .val .null] [(.ref a)]))) (fun _ zz => XS.aloadN Xt20.here hx rfl (hb hby d3_10) rfl rfl zz) ?_
  refine Gl.st (U' := (Tt20.setTop (mkF m 12 #[.val (.ref a), .val .null, .val vt, .val (.int ix), .val (.ref oo), .val (.int b1), .val (.int b2), .val (.int b3), .val (.int b4), .val (.int b5), .val .null] [.null, (.ref a)]))) (fun _ zz => XS.aloadN Xt20.here hx rfl (hb hby d3_11) rfl rfl zz) ?_
  obtain ⟨ot25, Ft25⟩ := fld_laid Et21 Kt21 (hw _ (List.mem_of_getElem? (i := 2) rfl)) (Or.inr (hw _ (List.mem_of_getElem? (i := 26) rfl)))
  obtain ⟨Tt26, ht26, Xt26, et26, Wt26, stt26⟩ := putF Xt20 hx hZ hown (host := "") (Or.inl (hw _ (List.mem_of_getElem? (i := 25) rfl))) Via.refl et20 Ft25 Et21 (Or.inr ⟨(hw _ (List.mem_of_getElem? (i := 26) rfl)), rfl, hnm⟩) (hw _ (List.mem_of_getElem? (i := 2) rfl)) (ty := (.object "java/lang/String")) (by decide +kernel) rfl rfl (g := (mkF m 12 #[.val (.ref a), .val .null, .val vt, .val (.int ix), .val (.ref oo), .val (.int b1), .val (.int b2), .val (.int b3), .val (.int b4), .val (.int b5), .val .null] [.null, (.ref a)])) rfl rfl (hb hby d3_12)
  refine Gl.st (U' := (Tt26.setTop (mkF m 15 #[.val (.ref a), .val .null, .val vt, .val (.int ix), .val (.ref oo), .val (.int b1), .val (.int b2), .val (.int b3), .val (.int b4), .val (.int b5), .val .null] []))) stt26 ?_
  have Et27 := Exa.wr Wt26 Et21
  have Kt27 := own_K_wr Wt26 Kt21
  have Pt29 := Keep.wr Pt23 Wt26 (Or.inl (List.mem_singleton.mpr rfl))
  have Nt30 := Fr.snoc Xt26 Nt24 ga
  refine Gl.st (U' := (Tt26.setTop (mkF m 16 #[.val (.ref a), .val .null, .val vt, .val (.int ix), .val (.ref oo), .val (.int b1), .val (.int b2), .val (.int b3), .val (.int b4), .val (.int b5), .val .null] [(.ref a)]))) (fun _ zz => XS.aloadN Xt26.here hx rfl (hb hby d3_15) rfl rfl zz) ?_
  refine Gl.st (U' := (Tt26.setTop (mkF m 17 #[.val (.ref a), .val .null, .val vt, .val (.int ix), .val (.ref oo), .val (.int b1), .val (.int b2), .val (.int b3), .val (.int b4), .val (.int b5), .val .null] [vt, (.ref a)]))) (fun _ zz => XS.aloadN Xt26.here hx rfl (hb hby d3_16) rfl hvt zz) ?_
  obtain ⟨ot31, Ft31⟩ := fld_laid Et27 Kt27 (hw _ (List.mem_of_getElem? (i := 2) rfl)) (Or.inr (hw _ (List.mem_of_getElem? (i := 28) rfl)))
  obtain ⟨Tt32, ht32, Xt32, et32, Wt32, stt32⟩ := putF Xt26 hx hZ hown (host := "") (Or.inl (hw _ (List.mem_of_getElem? (i := 27) rfl))) Via.refl et26 Ft31 Et27 (Or.inr ⟨(hw _ (List.mem_of_getElem? (i := 28) rfl)), rfl, hnm⟩) (hw _ (List.mem_of_getElem? (i := 2) rfl)) (ty := (.object "com/example/rungsight/rungsight/types/IntegerType")) (by decide +kernel) own_nr (own_fr hvt) (g := (mkF m 17 #[.val (.ref a), .val .null, .val vt, .val (.int ix), .val (.ref oo), .val (.int b1), .val (.int b2), .val (.int b3), .val (.int b4), .val (.int b5), .val .null] [vt, (.ref a)])) rfl rfl (hb hby d3_17)
  refine Gl.st (U' := (Tt32.setTop (mkF m 20 #[.val (.ref a), .val .null, .val vt, .val (.int ix), .val (.ref oo), .val (.int b1), .val (.int b2), .val (.int b3), .val (.int b4), .val (.int b5), .val .null] []))) stt32 ?_
  have Et33 := Exa.wr Wt32 Et27
  have Kt33 := own_K_wr Wt32 Kt27
  have Ft34 := Fld.same Wt32 Ft31
  have Pt35 := Keep.wr Pt29 Wt32 (Or.inl (List.mem_singleton.mpr rfl))
  have Nt36 := Fr.snoc Xt32 Nt30 ga
  refine Gl.st (U' := (Tt32.setTop (mkF m 21 #[.val (.ref a), .val .null, .val vt, .val (.int ix), .val (.ref oo), .val (.int b1), .val (.int b2), .val (.int b3), .val (.int b4), .val (.int b5), .val .null] [(.ref a)]))) (fun _ zz => XS.aloadN Xt32.here hx rfl (hb hby d3_20) rfl rfl zz) ?_
  refine Gl.st (U' := (Tt32.setTop (mkF m 22 #[.val (.ref a), .val .null, .val vt, .val (.int ix), .val (.ref oo), .val (.int b1), .val (.int b2), .val (.int b3), .val (.int b4), .val (.int b5), .val .null] [(.int ix), (.ref a)]))) (fun _ zz => XS.iloadN Xt32.here hx rfl (hb hby d3_21) rfl zz) ?_
  obtain ⟨ot37, Ft37⟩ := fld_laid Et33 Kt33 (hw _ (List.mem_of_getElem? (i := 2) rfl)) (Or.inr (hw _ (List.mem_of_getElem? (i := 30) rfl)))
  obtain ⟨Tt38, ht38, Xt38, et38, Wt38, stt38⟩ := putF Xt32 hx hZ hown (host := "") (Or.inl (hw _ (List.mem_of_getElem? (i := 29) rfl))) Via.refl et32 Ft37 Et33 (Or.inr ⟨(hw _ (List.mem_of_getElem? (i := 30) rfl)), rfl, hnm⟩) (hw _ (List.mem_of_getElem? (i := 2) rfl)) (ty := .int) (by decide +kernel) rfl rfl (g := (mkF m 22 #[.val (.ref a), .val .null, .val vt, .val (.int ix), .val (.ref oo), .val (.int b1), .val (.int b2), .val (.int b3), .val (.int b4), .val (.int b5), .val .null] [(.int ix), (.ref a)])) rfl rfl (hb hby d3_22)
  refine Gl.st (U' := (Tt38.setTop (mkF m 25 #[.val (.ref a), .val .null, .val vt, .val (.int ix), .val (.ref oo), .val (.int b1), .val (.int b2), .val (.int b3), .val (.int b4), .val (.int b5), .val .null] []))) stt38 ?_
  have Et39 := Exa.wr Wt38 Et33
  have Kt39 := own_K_wr Wt38 Kt33
  have Ft40 := Fld.other Wt38 Ft34 (Or.inr (slot_ne (Or.inr (hw _ (List.mem_of_getElem? (i := 28) rfl))) (Or.inr (hw _ (List.mem_of_getElem? (i := 30) rfl))) (by decide) (own_ty_eq (by decide +kernel)) (own_ty_eq (by decide +kernel))))
  have Pt42 := Keep.wr Pt35 Wt38 (Or.inl (List.mem_singleton.mpr rfl))
  have Nt43 := Fr.snoc Xt38 Nt36 ga
  refine Gl.st (U' := (Tt38.setTop (mkF m 26 #[.val (.ref a), .val .null, .val vt, .val (.int ix), .val (.ref oo), .val (.int b1), .val (.int b2), .val (.int b3), .val (.int b4), .val (.int b5), .val .null] [(.ref a)]))) (fun _ zz => XS.aloadN Xt38.here hx rfl (hb hby d3_25) rfl rfl zz) ?_
  refine Gl.st (U' := (Tt38.setTop (mkF m 28 #[.val (.ref a), .val .null, .val vt, .val (.int ix), .val (.ref oo), .val (.int b1), .val (.int b2), .val (.int b3), .val (.int b4), .val (.int b5), .val .null] [(.ref oo), (.ref a)]))) (fun _ zz => XS.aload Xt38.here hx rfl (hb hby d3_26) rfl rfl zz) ?_
  obtain ⟨ot44, Ft44⟩ := fld_laid Et39 Kt39 (hw _ (List.mem_of_getElem? (i := 2) rfl)) (Or.inr (hw _ (List.mem_of_getElem? (i := 32) rfl)))
  obtain ⟨Tt45, ht45, Xt45, et45, Wt45, stt45⟩ := putF Xt38 hx hZ hown (host := "") (Or.inl (hw _ (List.mem_of_getElem? (i := 31) rfl))) Via.refl et38 Ft44 Et39 (Or.inr ⟨(hw _ (List.mem_of_getElem? (i := 32) rfl)), rfl, hnm⟩) (hw _ (List.mem_of_getElem? (i := 2) rfl)) (ty := (.object "com/example/rungsight/rungsight/flow/Variable$Origin")) (by decide +kernel) rfl rfl (g := (mkF m 28 #[.val (.ref a), .val .null, .val vt, .val (.int ix), .val (.ref oo), .val (.int b1), .val (.int b2), .val (.int b3), .val (.int b4), .val (.int b5), .val .null] [(.ref oo), (.ref a)])) rfl rfl (hb hby d3_28)
  refine Gl.st (U' := (Tt45.setTop (mkF m 31 #[.val (.ref a), .val .null, .val vt, .val (.int ix), .val (.ref oo), .val (.int b1), .val (.int b2), .val (.int b3), .val (.int b4), .val (.int b5), .val .null] []))) stt45 ?_
  have Et46 := Exa.wr Wt45 Et39
  have Kt46 := own_K_wr Wt45 Kt39
  have Ft47 := Fld.other Wt45 Ft40 (Or.inr (slot_ne (Or.inr (hw _ (List.mem_of_getElem? (i := 28) rfl))) (Or.inr (hw _ (List.mem_of_getElem? (i := 32) rfl))) (by decide) (own_ty_eq (by decide +kernel)) (own_ty_eq (by decide +kernel))))
  have Pt49 := Keep.wr Pt42 Wt45 (Or.inl (List.mem_singleton.mpr rfl))
  have Nt50 := Fr.snoc Xt45 Nt43 ga
  refine Gl.st (U' := (Tt45.setTop (mkF m 32 #[.val (.ref a), .val .null, .val vt, .val (.int ix), .val (.ref oo), .val (.int b1), .val (.int b2), .val (.int b3), .val (.int b4), .val (.int b5), .val .null] [(.ref a)]))) (fun _ zz => XS.aloadN Xt45.here hx rfl (hb hby d3_31) rfl rfl zz) ?_
  refine Gl.st (U' := (Tt45.setTop (mkF m 34 #[.val (.ref a), .val .null, .val vt, .val (.int ix), .val (.ref oo), .val (.int b1), .val (.int b2), .val (.int b3), .val (.int b4), .val (.int b5), .val .null] [(.int b1), (.ref a)]))) (fun _ zz => XS.iload Xt45.here hx rfl (hb hby d3_32) rfl zz) ?_
  obtain ⟨ot51, Ft51⟩ := fld_laid Et46 Kt46 (hw _ (List.mem_of_getElem? (i := 2) rfl)) (Or.inl (hw _ (List.mem_of_getElem? (i := 34) rfl)))
  obtain ⟨Tt52, ht52, Xt52, et52, Wt52, stt52⟩ := putF Xt45 hx hZ hown (host := "") (Or.inl (hw _ (List.mem_of_getElem? (i := 33) rfl))) Via.refl et45 Ft51 Et46 (Or.inl (hw _ (List.mem_of_getElem? (i := 34) rfl))) (hw _ (List.mem_of_getElem? (i := 2) rfl)) (ty := .boolean) (by decide +kernel) (own_nz g1) (own_fz g1) (g := (mkF m 34 #[.val (.ref a), .val .null, .val vt, .val (.int ix), .val (.ref oo), .val (.int b1), .val (.int b2), .val (.int b3), .val (.int b4), .val (.int b5), .val .null] [(.int b1), (.ref a)])) rfl rfl (hb hby d3_34)
  refine Gl.st (U' := (Tt52.setTop (mkF m 37 #[.val (.ref a), .val .null, .val vt, .val (.int ix), .val (.ref oo), .val (.int b1), .val (.int b2), .val (.int b3), .val (.int b4), .val (.int b5), .val .null] []))) stt52 ?_
  have Et53 := Exa.wr Wt52 Et46
  have Kt53 := own_K_wr Wt52 Kt46
  have Ft54 := Fld.other Wt52 Ft47 (Or.inr (slot_ne (Or.inr (hw _ (List.mem_of_getElem? (i := 28) rfl))) (Or.inl (hw _ (List.mem_of_getElem? (i := 34) rfl))) (by decide) (own_ty_eq (by decide +kernel)) (own_ty_eq (by decide +kernel))))
  have Ft55 := Fld.same Wt52 Ft51
  have Pt56 := Keep.wr Pt49 Wt52 (Or.inl (List.mem_singleton.mpr rfl))
  have Nt57 := Fr.snoc Xt52 Nt50 ga
  refine Gl.st (U' := (Tt52.setTop (mkF m 38 #[.val (.ref a), .val .null, .val vt, .val (.int ix), .val (.ref oo), .val (.int b1), .val (.int b2), .val (.int b3), .val (.int b4), .val (.int b5), .val .null] [(.ref a)]))) (fun _ zz => XS.aloadN Xt52.here hx rfl (hb hby d3_37) rfl rfl zz) ?_
  refine Gl.st (U' := (Tt52.setTop (mkF m 40 #[.val (.ref a), .val .null, .val vt, .val (.int ix), .val (.ref oo), .val (.int b1), .val (.int b2), .val (.int b3), .val (.int b4), .val (.int b5), .val .null] [(.int b2), (.ref a)]))) (fun _ zz => XS.iload Xt52.here hx rfl (hb hby d3_38) rfl zz) ?_
  obtain ⟨ot58, Ft58⟩ := fld_laid Et53 Kt53 (hw _ (List.mem_of_getElem? (i := 2) rfl)) (Or.inr (hw _ (List.mem_of_getElem? (i := 36) rfl)))
  obtain ⟨Tt59, ht59, Xt59, et59, Wt59, stt59⟩ := putF Xt52 hx hZ hown (host := "") (Or.inl (hw _ (List.mem_of_getElem? (i := 35) rfl))) Via.refl et52 Ft58 Et53 (Or.inr ⟨(hw _ (List.mem_of_getElem? (i := 36) rfl)), rfl, hnm⟩) (hw _ (List.mem_of_getElem? (i := 2) rfl)) (ty := .boolean) (by decide +kernel) (own_nz g2) (own_fz g2) (g := (mkF m 40 #[.val (.ref a), .val .null, .val vt, .val (.int ix), .val (.ref oo), .val (.int b1), .val (.int b2), .val (.int b3), .val (.int b4), .val (.int b5), .val .null] [(.int b2), (.ref a)])) rfl rfl (hb hby d3_40)
  refine Gl.st (U' := (Tt59.setTop (mkF m 43 #[.val (.ref a), .val .null, .val vt, .val (.int ix), .val (.ref oo), .val (.int b1), .val (.int b2), .val (.int b3), .val (.int b4), .val (.int b5), .val .null] []))) stt59 ?_
  have Et60 := Exa.wr Wt59 Et53
  have Kt60 := own_K_wr Wt59 Kt53
  have Ft61 := Fld.other Wt59 Ft54 (Or.inr (slot_ne (Or.inr (hw _ (List.mem_of_getElem? (i := 28) rfl))) (Or.inr (hw _ (List.mem_of_getElem? (i := 36) rfl))) (by decide) (own_ty_eq (by decide +kernel)) (own_ty_eq (by decide +kernel))))
  have Ft62 := Fld.other Wt59 Ft55 (Or.inr (slot_ne (Or.inl (hw _ (List.mem_of_getElem? (i := 34) rfl))) (Or.inr (hw _ (List.mem_of_getElem? (i := 36) rfl))) (by decide) (own_ty_eq (by decide +kernel)) (own_ty_eq (by decide +kernel))))
  have Ft63 := Fld.same Wt59 Ft58
  have Pt64 := Keep.wr Pt56 Wt59 (Or.inl (List.mem_singleton.mpr rfl))
  have Nt65 := Fr.snoc Xt59 Nt57 ga
  refine Gl.st (U' := (Tt59.setTop (mkF m 44 #[.val (.ref a), .val .null, .val vt, .val (.int ix), .val (.ref oo), .val (.int b1), .val (.int b2), .val (.int b3), .val (.int b4), .val (.int b5), .val .null] [(.ref a)]))) (fun _ zz => XS.aloadN Xt59.here hx rfl (hb hby d3_43) rfl rfl zz) ?_
  refine Gl.st (U' := (Tt59.setTop (mkF m 46 #[.val (.ref a), .val .null, .val vt, .val (.int ix), .val (.ref oo), .val (.int b1), .val (.int b2), .val (.int b3), .val (.int b4), .val (.int b5), .val .null] [(.int b3), (.ref a)]))) (fun _ zz => XS.iload Xt59.here hx rfl (hb hby d3_44) rfl zz) ?_
  obtain ⟨ot66, Ft66⟩ := fld_laid Et60 Kt60 (hw _ (List.mem_of_getElem? (i := 2) rfl)) (Or.inr (hw _ (List.mem_of_getElem? (i := 38) rfl)))
  obtain ⟨Tt67, ht67, Xt67, et67, Wt67, stt67⟩ := putF Xt59 hx hZ hown (host := "") (Or.inl (hw _ (List.mem_of_getElem? (i := 37) rfl))) Via.refl et59 Ft66 Et60 (Or.inr ⟨(hw _ (List.mem_of_getElem? (i := 38) rfl)), rfl, hnm⟩) (hw _ (List.mem_of_getElem? (i := 2) rfl)) (ty := .boolean) (by decide +kernel) (own_nz g3) (own_fz g3) (g := (mkF m 46 #[.val (.ref a), .val .null, .val vt, .val (.int ix), .val (.ref oo), .val (.int b1), .val (.int b2), .val (.int b3), .val (.int b4), .val (.int b5), .val .null] [(.int b3), (.ref a)])) rfl rfl (hb hby d3_46)
  refine Gl.st (U' := (Tt67.setTop (mkF m 49 #[.val (.ref a), .val .null, .val vt, .val (.int ix), .val (.ref oo), .val (.int b1), .val (.int b2), .val (.int b3), .val (.int b4), .val (.int b5), .val .null] []))) stt67 ?_
  have Et68 := Exa.wr Wt67 Et60
  have Kt68 := own_K_wr Wt67 Kt60
  have Ft69 := Fld.other Wt67 Ft61 (Or.inr (slot_ne (Or.inr (hw _ (List.mem_of_getElem? (i := 28) rfl))) (Or.inr (hw _ (List.mem_of_getElem? (i := 38) rfl))) (by decide) (own_ty_eq (by decide +kernel)) (own_ty_eq (by decide +kernel))))
  have Ft70 := Fld.other Wt67 Ft62 (Or.inr (slot_ne (Or.inl (hw _ (List.mem_of_getElem? (i := 34) rfl))) (Or.inr (hw _ (List.mem_of_getElem? (i := 38) rfl))) (by decide) (own_ty_eq (by decide +kernel)) (own_ty_eq (by decide +kernel))))
  have Ft71 := Fld.other Wt67 Ft63 (Or.inr (slot_ne (Or.inr (hw _ (List.mem_of_getElem? (i := 36) rfl))) (Or.inr (hw _ (List.mem_of_getElem? (i := 38) rfl))) (by decide) (own_ty_eq (by decide +kernel)) (own_ty_eq (by decide +kernel))))
  have Pt73 := Keep.wr Pt64 Wt67 (Or.inl (List.mem_singleton.mpr rfl))
  have Nt74 := Fr.snoc Xt67 Nt65 ga
  refine Gl.st (U' := (Tt67.setTop (mkF m 50 #[.val (.ref a), .val .null, .val vt, .val (.int ix), .val (.ref oo), .val (.int b1), .val (.int b2), .val (.int b3), .val (.int b4), .val (.int b5), .val .null] [(.ref a)]))) (fun _ zz => XS.aloadN Xt67.here hx rfl (hb hby d3_49) rfl rfl zz) ?_
  refine Gl.st (U' := (Tt67.setTop (mkF m 52 #[.val (.ref a), .val .null, .val vt, .val (.int ix), .val (.ref oo), .val (.int b1), .val (.int b2), .val (.int b3), .val (.int b4), .val (.int b5), .val .null] [(.int b4), (.ref a)]))) (fun _ zz => XS.iload Xt67.here hx rfl (hb hby d3_50) rfl zz) ?_
  obtain ⟨ot75, Ft75⟩ := fld_laid Et68 Kt68 (hw _ (List.mem_of_getElem? (i := 2) rfl)) (Or.inr (hw _ (List.mem_of_getElem? (i := 40) rfl)))
  obtain ⟨Tt76, ht76, Xt76, et76, Wt76, stt76⟩ := putF Xt67 hx hZ hown (host := "") (Or.inl (hw _ (List.mem_of_getElem? (i := 39) rfl))) Via.refl et67 Ft75 Et68 (Or.inr ⟨(hw _ (List.mem_of_getElem? (i := 40) rfl)), rfl, hnm⟩) (hw _ (List.mem_of_getElem? (i := 2) rfl)) (ty := .boolean) (by decide +kernel) (own_nz g4) (own_fz g4) (g := (mkF m 52 #[.val (.ref a), .val .null, .val vt, .val (.int ix), .val (.ref oo), .val (.int b1), .val (.int b2), .val (.int b3), .val (.int b4), .val (.int b5), .val .null] [(.int b4), (.ref a)])) rfl rfl (hb hby d3_52)
  refine Gl.st (U' := (Tt76.setTop (mkF m 55 #[.val (.ref a), .val .null, .val vt, .val (.int ix), .val (.ref oo), .val (.int b1), .val (.int b2), .val (.int b3), .val (.int b4), .val (.int b5), .val .null] []))) stt76 ?_
  have Et77 := Exa.wr Wt76 Et68
  have Kt77 := own_K_wr Wt76 Kt68
  have Ft78 := Fld.other Wt76 Ft69 (Or.inr (slot_ne (Or.inr (hw _ (List.mem_of_getElem? (i := 28) rfl))) (Or.inr (hw _ (List.mem_of_getElem? (i := 40) rfl))) (by decide) (own_ty_eq (by decide +kernel)) (own_ty_eq (by decide +kernel))))
  have Ft79 := Fld.other Wt76 Ft70 (Or.inr (slot_ne (Or.inl (hw _ (List.mem_of_getElem? (i := 34) rfl))) (Or.inr (hw _ (List.mem_of_getElem? (i := 40) rfl))) (by decide) (own_ty_eq (by decide +kernel)) (own_ty_eq (by decide +kernel))))
  have Ft80 := Fld.other Wt76 Ft71 (Or.inr (slot_ne (Or.inr (hw _ (List.mem_of_getElem? (i := 36) rfl))) (Or.inr (hw _ (List.mem_of_getElem? (i := 40) rfl))) (by decide) (own_ty_eq (by decide +kernel)) (own_ty_eq (by decide +kernel))))
  have Pt82 := Keep.wr Pt73 Wt76 (Or.inl (List.mem_singleton.mpr rfl))
  have Nt83 := Fr.snoc Xt76 Nt74 ga
  refine Gl.st (U' := (Tt76.setTop (mkF m 56 #[.val (.ref a), .val .null, .val vt, .val (.int ix), .val (.ref oo), .val (.int b1), .val (.int b2), .val (.int b3), .val (.int b4), .val (.int b5), .val .null] [(.ref a)]))) (fun _ zz => XS.aloadN Xt76.here hx rfl (hb hby d3_55) rfl rfl zz) ?_
  refine Gl.st (U' := (Tt76.setTop (mkF m 58 #[.val (.ref a), .val .null, .val vt, .val (.int ix), .val (.ref oo), .val (.int b1), .val (.int b2), .val (.int b3), .val (.int b4), .val (.int b5), .val .null] [(.int b5), (.ref a)]))) (fun _ zz => XS.iload Xt76.here hx rfl (hb hby d3_56) rfl zz) ?_
  obtain ⟨ot84, Ft84⟩ := fld_laid Et77 Kt77 (hw _ (List.mem_of_getElem? (i := 2) rfl)) (Or.inr (hw _ (List.mem_of_getElem? (i := 42) rfl)))
  obtain ⟨Tt85, ht85, Xt85, et85, Wt85, stt85⟩ := putF Xt76 hx hZ hown (host := "") (Or.inl (hw _ (List.mem_of_getElem? (i := 41) rfl))) Via.refl et76 Ft84 Et77 (Or.inr ⟨(hw _ (List.mem_of_getElem? (i := 42) rfl)), rfl, hnm⟩) (hw _ (List.mem_of_getElem? (i := 2) rfl)) (ty := .boolean) (by decide +kernel) (own_nz g5) (own_fz g5) (g := (mkF m 58 #[.val (.ref a), .val .null, .val vt, .val (.int ix), .val (.ref oo), .val (.int b1), .val (.int b2), .val (.int b3), .val (.int b4), .val (.int b5), .val .null] [(.int b5), (.ref a)])) rfl rfl (hb hby d3_58)
  refine Gl.st (U' := (Tt85.setTop (mkF m 61 #[.val (.ref a), .val .null, .val vt, .val (.int ix), .val (.ref oo), .val (.int b1), .val (.int b2), .val (.int b3), .val (.int b4), .val (.int b5), .val .null] []))) stt85 ?_
  have Et86 := Exa.wr Wt85 Et77
  have Kt86 := own_K_wr Wt85 Kt77
  have Ft87 := Fld.other Wt85 Ft78 (Or.inr (slot_ne (Or.inr (hw _ (List.mem_of_getElem? (i := 28) rfl))) (Or.inr (hw _ (List.mem_of_getElem? (i := 42) rfl))) (by decide) (own_ty_eq (by decide +kernel)) (own_ty_eq (by decide +kernel))))
  have Ft88 := Fld.other Wt85 Ft79 (Or.inr (slot_ne (Or.inl (hw _ (List.mem_of_getElem? (i := 34) rfl))) (Or.inr (hw _ (List.mem_of_getElem? (i := 42) rfl))) (by decide) (own_ty_eq (by decide +kernel)) (own_ty_eq (by decide +kernel))))
  have Ft89 := Fld.other Wt85 Ft80 (Or.inr (slot_ne (Or.inr (hw _ (List.mem_of_getElem? (i := 36) rfl))) (Or.inr (hw _ (List.mem_of_getElem? (i := 42) rfl))) (by decide) (own_ty_eq (by decide +kernel)) (own_ty_eq (by decide +kernel))))
  have Pt91 := Keep.wr Pt82 Wt85 (Or.inl (List.mem_singleton.mpr rfl))
  have Nt92 := Fr.snoc Xt85 Nt83 ga
  exact Gl.retV Xt85 hx hret hlk (hb hby d3_61) (by rw [et85]; exact ⟨rfl, Nt92, Pt91, Et86, Kt86, Ft88, Ft89, Ft87⟩) (by decide) (by decide)
theorem d6_0 : decode prog_38_method_10_code 0 = .ok (.aload_n 0, 1) := by decide +kernel
theorem d6_1 : decode prog_38_method_10_code 1 = .ok (.iconst 1, 1) := by decide +kernel
theorem d6_2 : decode prog_38_method_10_code 2 = .ok (.putfield 29, 3) := by decide +kernel
theorem d6_5 : decode prog_38_method_10_code 5 = .ok (.aload_n 0, 1) := by decide +kernel
theorem d6_6 : decode prog_38_method_10_code 6 = .ok (.iconst 1, 1) := by decide +kernel
theorem d6_7 : decode prog_38_method_10_code 7 = .ok (.putfield 49, 3) := by decide +kernel
theorem d6_10 : decode prog_38_method_10_code 10 = .ok (.return_, 1) := by decide +kernel
set_option maxRecDepth 65536 in
set_option maxHeartbeats 40000000 in
theorem own_take_con (l : Launch) (Z : State) (a0 : Array Value) (hw : ∀ d ∈ tables_1, d.before a0 Z = true) (h0 : Heap) (n0 : Nat) (a : Addr) (ga : n0 ≤ a) (sh rf : Int32) (vt : Value) (H : own_V Z h0 a sh rf vt) :
    Con [] l Z (⟨"com/example/rungsight/rungsight/flow/Variable", "takeAddress", "()V"⟩ : MethodName) prog_38_method_10_code 1 none ({ frames := 0, cells := 0, slots := 0, locals := 0 } : Room) #[(.ref a)] h0 (fun v h L => v = none ∧ Fr n0 L ∧ Keep h0 h [a] ∧ own_V Z h a 1 rf vt) := by
  refine Con.of (Ls := #[.val (.ref a)]) (by first | exact plainFor_of_name (by first | (simp [plainName, overriddenIn]; done) | decide +kernel) | decide +kernel) (fun m => by first | (simp [entryFrame, mkF, argsToLocals, Value.category]; done) | (simp [entryFrame, mkF, argsToLocals, Value.category, maxLocals]; done) | rfl) ?_
  intro p e s m below meth c T0 hx hby hml hown hnm hret hlk hZ e0 X0
  obtain ⟨E0, K0, F1, F2, F3⟩ := H
  have P0 : Keep h0 h0 [a] := Keep.refl _ _
  have N0 := Fr.nil n0
  refine Gl.st (U' := (T0.setTop (mkF m 1 #[.val (.ref a)] [(.ref a)]))) (fun _ zz => XS.aloadN X0.here hx rfl (hb hby d6_0) rfl rfl zz) ?_
  refine Gl.st (U' := (T0.setTop (mkF m 2 #[.val (.ref a)] [(.int (1 : Int32)), (.ref a)]))) (fun _ zz => XS.iconst X0.here hx rfl (hb hby d6_1) zz) ?_
  obtain ⟨Tt93, ht93, Xt93, et93, Wt93, stt93⟩ := putF X0 hx hZ hown (host := "") (Or.inl (hw _ (List.mem_of_getElem? (i := 33) rfl))) Via.refl e0 F1 E0 (Or.inl (hw _ (List.mem_of_getElem? (i := 34) rfl))) (hw _ (List.mem_of_getElem? (i := 2) rfl)) (ty := .boolean) (by decide +kernel) rfl rfl (g := (mkF m 2 #[.val (.ref a)] [(.int (1 : Int32)), (.ref a)])) rfl rfl (hb hby d6_2)
  refine Gl.st (U' := (Tt93.setTop (mkF m 5 #[.val (.ref a)] []))) stt93 ?_
  have Et94 := Exa.wr Wt93 E0
  have Kt94 := own_K_wr Wt93 K0
  have Ft96 := Fld.other Wt93 F2 (Or.inr (slot_ne (Or.inr (hw _ (List.mem_of_getElem? (i := 36) rfl))) (Or.inl (hw _ (List.mem_of_getElem? (i := 34) rfl))) (by decide) (own_ty_eq (by decide +kernel)) (own_ty_eq (by decide +kernel))))
  have Ft97 := Fld.other Wt93 F3 (Or.inr (slot_ne (Or.inr (hw _ (List.mem_of_getElem? (i := 28) rfl))) (Or.inl (hw _ (List.mem_of_getElem? (i := 34) rfl))) (by decide) (own_ty_eq (by decide +kernel)) (own_ty_eq (by decide +kernel))))
  have Ft98 := Fld.same Wt93 F1
  have Pt99 := Keep.wr P0 Wt93 (Or.inl (List.mem_singleton.mpr rfl))
  have Nt100 := Fr.snoc Xt93 N0 ga
  refine Gl.st (U' := (Tt93.setTop (mkF m 6 #[.val (.ref a)] [(.ref a)]))) (fun _ zz => XS.aloadN Xt93.here hx rfl (hb hby d6_5) rfl rfl zz) ?_
  refine Gl.st (U' := (Tt93.setTop (mkF m 7 #[.val (.ref a)] [(.int (1 : Int32)), (.ref a)]))) (fun _ zz => XS.iconst Xt93.here hx rfl (hb hby d6_6) zz) ?_
  obtain ⟨ot101, Ft101⟩ := fld_laid Et94 Kt94 (hw _ (List.mem_of_getElem? (i := 2) rfl)) (Or.inl (hw _ (List.mem_of_getElem? (i := 70) rfl)))
  obtain ⟨Tt102, ht102, Xt102, et102, Wt102, stt102⟩ := putF Xt93 hx hZ hown (host := "") (Or.inl (hw _ (List.mem_of_getElem? (i := 69) rfl))) Via.refl et93 Ft101 Et94 (Or.inl (hw _ (List.mem_of_getElem? (i := 70) rfl))) (hw _ (List.mem_of_getElem? (i := 2) rfl)) (ty := .boolean) (by decide +kernel) rfl rfl (g := (mkF m 7 #[.val (.ref a)] [(.int (1 : Int32)), (.ref a)])) rfl rfl (hb hby d6_7)
  refine Gl.st (U' := (Tt102.setTop (mkF m 10 #[.val (.ref a)] []))) stt102 ?_
  have Et103 := Exa.wr Wt102 Et94
  have Kt103 := own_K_wr Wt102 Kt94
  have Ft104 := Fld.other Wt102 Ft96 (Or.inr (slot_ne (Or.inr (hw _ (List.mem_of_getElem? (i := 36) rfl))) (Or.inl (hw _ (List.mem_of_getElem? (i := 70) rfl))) (by decide) (own_ty_eq (by decide +kernel)) (own_ty_eq (by decide +kernel))))
  have Ft105 := Fld.other Wt102 Ft97 (Or.inr (slot_ne (Or.inr (hw _ (List.mem_of_getElem? (i := 28) rfl))) (Or.inl (hw _ (List.mem_of_getElem? (i := 70) rfl))) (by decide) (own_ty_eq (by decide +kernel)) (own_ty_eq (by decide +kernel))))
  have Ft106 := Fld.other Wt102 Ft98 (Or.inr (slot_ne (Or.inl (hw _ (List.mem_of_getElem? (i := 34) rfl))) (Or.inl (hw _ (List.mem_of_getElem? (i := 70) rfl))) (by decide) (own_ty_eq (by decide +kernel)) (own_ty_eq (by decide +kernel))))
  have Pt108 := Keep.wr Pt99 Wt102 (Or.inl (List.mem_singleton.mpr rfl))
  have Nt109 := Fr.snoc Xt102 Nt100 ga
  exact Gl.retV Xt102 hx hret hlk (hb hby d6_10) (by rw [et102]; exact ⟨rfl, Nt109, Pt108, Et103, Kt103, Ft106, Ft104, Ft105⟩) (by decide) (by decide)
theorem d5_0 : decode prog_38_method_17_code 0 = .ok (.aload_n 1, 1) := by decide +kernel
theorem d5_1 : decode prog_38_method_17_code 1 = .ok (.aload_n 0, 1) := by decide +kernel
theorem d5_2 : decode prog_38_method_17_code 2 = .ok (.if_acmp .eq 46, 3) := by decide +kernel
theorem d5_5 : decode prog_38_method_17_code 5 = .ok (.aload_n 0, 1) := by decide +kernel
theorem d5_6 : decode prog_38_method_17_code 6 = .ok (.getfield 29, 3) := by decide +kernel
theorem d5_9 : decode prog_38_method_17_code 9 = .ok (.ifCond .eq 39, 3) := by decide +kernel
theorem d5_12 : decode prog_38_method_17_code 12 = .ok (.aload_n 1, 1) := by decide +kernel
theorem d5_13 : decode prog_38_method_17_code 13 = .ok (.getfield 29, 3) := by decide +kernel
theorem d5_16 : decode prog_38_method_17_code 16 = .ok (.ifCond .eq 32, 3) := by decide +kernel
theorem d5_19 : decode prog_38_method_17_code 19 = .ok (.aload_n 0, 1) := by decide +kernel
theorem d5_20 : decode prog_38_method_17_code 20 = .ok (.getfield 33, 3) := by decide +kernel
theorem d5_23 : decode prog_38_method_17_code 23 = .ok (.ifCond .ne 10, 3) := by decide +kernel
theorem d5_26 : decode prog_38_method_17_code 26 = .ok (.aload_n 1, 1) := by decide +kernel
theorem d5_27 : decode prog_38_method_17_code 27 = .ok (.getfield 33, 3) := by decide +kernel
theorem d5_30 : decode prog_38_method_17_code 30 = .ok (.ifCond .eq 18, 3) := by decide +kernel
theorem d5_33 : decode prog_38_method_17_code 33 = .ok (.aload_n 0, 1) := by decide +kernel
theorem d5_34 : decode prog_38_method_17_code 34 = .ok (.getfield 17, 3) := by decide +kernel
theorem d5_37 : decode prog_38_method_17_code 37 = .ok (.aload_n 1, 1) := by decide +kernel
theorem d5_38 : decode prog_38_method_17_code 38 = .ok (.getfield 17, 3) := by decide +kernel
theorem d5_41 : decode prog_38_method_17_code 41 = .ok (.if_acmp .ne 7, 3) := by decide +kernel
theorem d5_44 : decode prog_38_method_17_code 44 = .ok (.iconst 1, 1) := by decide +kernel
theorem d5_45 : decode prog_38_method_17_code 45 = .ok (.goto 4, 3) := by decide +kernel
theorem d5_48 : decode prog_38_method_17_code 48 = .ok (.iconst 0, 1) := by decide +kernel
theorem d5_49 : decode prog_38_method_17_code 49 = .ok (.ireturn, 1) := by decide +kernel
set_option maxRecDepth 65536 in
set_option maxHeartbeats 40000000 in
theorem own_al_con (l : Launch) (Z : State) (a0 : Array Value) (hw : ∀ d ∈ tables_1, d.before a0 Z = true) (h0 : Heap) (a b : Addr) (sa sb ra rb : Int32) (va vb : Value) (hva : va.isRef = true) (hvb : vb.isRef = true) (HA : own_V Z h0 a sa ra va) (HB : own_V Z h0 b sb rb vb) :
    Con [] l Z (⟨"com/example/rungsight/rungsight/flow/Variable", "mayAlias", "(Lcom/example/rungsight/rungsight/flow/Variable;)Z"⟩ : MethodName) prog_38_method_17_code 2 (Option.some Jvm.ClassFile.FieldType.boolean) ({ frames := 0, cells := 0, slots := 0, locals := 0 } : Room) #[(.ref a), (.ref b)] h0 (fun v h L => v = some (.int (own_bi (¬ b = a ∧ ¬ sa = 0 ∧ ¬ sb = 0 ∧ (¬ ra = 0 ∨ ¬ rb = 0) ∧ va = vb))) ∧ L = [] ∧ h = h0) := by
  refine Con.of (Ls := #[.val (.ref a), .val (.ref b)]) (by first | exact plainFor_of_name (by first | (simp [plainName, overriddenIn]; done) | decide +kernel) | decide +kernel) (fun m => by first | (simp [entryFrame, mkF, argsToLocals, Value.category]; done) | (simp [entryFrame, mkF, argsToLocals, Value.category, maxLocals]; done) | rfl) ?_
  intro p e s m below meth c T0 hx hby hml hown hnm hret hlk hZ e0 X0
  obtain ⟨-, -, FA1, FA2, FA3⟩ := HA
  obtain ⟨-, -, FB1, FB2, FB3⟩ := HB
  refine Gl.st (U' := (T0.setTop (mkF m 1 #[.val (.ref a), .val (.ref b)] [(.ref b)]))) (fun _ zz => XS.aloadN X0.here hx rfl (hb hby d5_0) rfl rfl zz) ?_
  refine Gl.st (U' := (T0.setTop (mkF m 2 #[.val (.ref a), .val (.ref b)] [(.ref a), (.ref b)]))) (fun _ zz => XS.aloadN X0.here hx rfl (hb hby d5_1) rfl rfl zz) ?_
  by_cases q1 : b = a
  · refine Gl.st (U' := (T0.setTop (mkF m 48 #[.val (.ref a), .val (.ref b)] []))) (fun _ zz => Jvm.RoadKit.acmp (g := (mkF m 2 #[.val (.ref a), .val (.ref b)] [(.ref a), (.ref b)])) X0 hx rfl rfl rfl (pc0 := 2) (pc' := 48) (same := true) rfl (hb hby d5_2) rfl (decide_eq_true (congrArg Value.ref q1)) (by decide) (by decide) zz) ?_
    refine Gl.st (U' := (T0.setTop (mkF m 49 #[.val (.ref a), .val (.ref b)] [(.int (0 : Int32))]))) (fun _ zz => XS.iconst X0.here hx rfl (hb hby d5_48) zz) ?_
    exact Gl.retZ X0 hx hret hlk (hb hby d5_49) (Or.inl rfl) ⟨by rw [own_bi_f (fun q => q.1 q1)], rfl, e0⟩ (by decide) (by decide)
  · refine Gl.st (U' := (T0.setTop (mkF m 5 #[.val (.ref a), .val (.ref b)] []))) (fun _ zz => Jvm.RoadKit.acmp (g := (mkF m 2 #[.val (.ref a), .val (.ref b)] [(.ref a), (.ref b)])) X0 hx rfl rfl rfl (pc0 := 2) (pc' := 5) (same := false) rfl (hb hby d5_2) rfl (decide_eq_false fun q => q1 (Value.ref.inj q)) (by decide) (by decide) zz) ?_
    refine Gl.st (U' := (T0.setTop (mkF m 6 #[.val (.ref a), .val (.ref b)] [(.ref a)]))) (fun _ zz => XS.aloadN X0.here hx rfl (hb hby d5_5) rfl rfl zz) ?_
    obtain ⟨Tt110, Xt110, et110, stt110⟩ := getF X0 hx hZ hown (host := "") (Or.inl (hw _ (List.mem_of_getElem? (i := 33) rfl))) Via.refl e0 FA1 (g := (mkF m 6 #[.val (.ref a), .val (.ref b)] [(.ref a)])) rfl rfl (hb hby d5_6)
    refine Gl.st (U' := (Tt110.setTop (mkF m 9 #[.val (.ref a), .val (.ref b)] [(.int sa)]))) stt110 ?_
    by_cases q2 : sa = (0 : Int32)
    · refine Gl.st (U' := (Tt110.setTop (mkF m 48 #[.val (.ref a), .val (.ref b)] []))) (fun _ zz => XS.ifYes Xt110.here hx rfl (pc0 := 9) (pc' := 48) rfl (hb hby d5_9) rfl ((if0 _ _).trans (teq q2).1) (by decide) (by decide) zz) ?_
      refine Gl.st (U' := (Tt110.setTop (mkF m 49 #[.val (.ref a), .val (.ref b)] [(.int (0 : Int32))]))) (fun _ zz => XS.iconst Xt110.here hx rfl (hb hby d5_48) zz) ?_
      exact Gl.retZ Xt110 hx hret hlk (hb hby d5_49) (Or.inl rfl) ⟨by rw [own_bi_f (fun q => q.2.1 q2)], rfl, et110⟩ (by decide) (by decide)
    · refine Gl.st (U' := (Tt110.setTop (mkF m 12 #[.val (.ref a), .val (.ref b)] []))) (fun _ zz => XS.ifNo Xt110.here hx rfl (hb hby d5_9) rfl ((if0 _ _).trans (feq q2).1) zz) ?_
      refine Gl.st (U' := (Tt110.setTop (mkF m 13 #[.val (.ref a), .val (.ref b)] [(.ref b)]))) (fun _ zz => XS.aloadN Xt110.here hx rfl (hb hby d5_12) rfl rfl zz) ?_
      obtain ⟨Tt111, Xt111, et111, stt111⟩ := getF Xt110 hx hZ hown (host := "") (Or.inl (hw _ (List.mem_of_getElem? (i := 33) rfl))) Via.refl et110 FB1 (g := (mkF m 13 #[.val (.ref a), .val (.ref b)] [(.ref b)])) rfl rfl (hb hby d5_13)
      refine Gl.st (U' := (Tt111.setTop (mkF m 16 #[.val (.ref a), .val (.ref b)] [(.int sb)]))) stt111 ?_
      by_cases q3 : sb = (0 : Int32)
      · refine Gl.st (U' := (Tt111.setTop (mkF m 48 #[.val (.ref a), .val (.ref b)] []))) (fun _ zz => XS.ifYes Xt111.here hx rfl (pc0 := 16) (pc' := 48) rfl (hb hby d5_16) rfl ((if0 _ _).trans (teq q3).1) (by decide) (by decide) zz) ?_
        refine Gl.st (U' := (Tt111.setTop (mkF m 49 #[.val (.ref a), .val (.ref b)] [(.int (0 : Int32))]))) (fun _ zz => XS.iconst Xt111.here hx rfl (hb hby d5_48) zz) ?_
        exact Gl.retZ Xt111 hx hret hlk (hb hby d5_49) (Or.inl rfl) ⟨by rw [own_bi_f (fun q => q.2.2.1 q3)], rfl, et111⟩ (by decide) (by decide)
      · refine Gl.st (U' := (Tt111.setTop (mkF m 19 #[.val (.ref a), .val (.ref b)] []))) (fun _ zz => XS.ifNo Xt111.here hx rfl (hb hby d5_16) rfl ((if0 _ _).trans (feq q3).1) zz) ?_
        refine Gl.st (U' := (Tt111.setTop (mkF m 20 #[.val (.ref a), .val (.ref b)] [(.ref a)]))) (fun _ zz => XS.aloadN Xt111.here hx rfl (hb hby d5_19) rfl rfl zz) ?_
        obtain ⟨Tt112, Xt112, et112, stt112⟩ := getF Xt111 hx hZ hown (host := "") (Or.inl (hw _ (List.mem_of_getElem? (i := 35) rfl))) Via.refl et111 FA2 (g := (mkF m 20 #[.val (.ref a), .val (.ref b)] [(.ref a)])) rfl rfl (hb hby d5_20)
        refine Gl.st (U' := (Tt112.setTop (mkF m 23 #[.val (.ref a), .val (.ref b)] [(.int ra)]))) stt112 ?_
        by_cases q4 : ra = (0 : Int32)
        · refine Gl.st (U' := (Tt112.setTop (mkF m 26 #[.val (.ref a), .val (.ref b)] []))) (fun _ zz => XS.ifNo Xt112.here hx rfl (hb hby d5_23) rfl ((if0 _ _).trans (teq q4).2) zz) ?_
          refine Gl.st (U' := (Tt112.setTop (mkF m 27 #[.val (.ref a), .val (.ref b)] [(.ref b)]))) (fun _ zz => XS.aloadN Xt112.here hx rfl (hb hby d5_26) rfl rfl zz) ?_
          obtain ⟨Tt113, Xt113, et113, stt113⟩ := getF Xt112 hx hZ hown (host := "") (Or.inl (hw _ (List.mem_of_getElem? (i := 35) rfl))) Via.refl et112 FB2 (g := (mkF m 27 #[.val (.ref a), .val (.ref b)] [(.ref b)])) rfl rfl (hb hby d5_27)
          refine Gl.st (U' := (Tt113.setTop (mkF m 30 #[.val (.ref a), .val (.ref b)] [(.int rb)]))) stt113 ?_
          by_cases q5 : rb = (0 : Int32)
          · refine Gl.st (U' := (Tt113.setTop (mkF m 48 #[.val (.ref a), .val (.ref b)] []))) (fun _ zz => XS.ifYes Xt113.here hx rfl (pc0 := 30) (pc' := 48) rfl (hb hby d5_30) rfl ((if0 _ _).trans (teq q5).1) (by decide) (by decide) zz) ?_
            refine Gl.st (U' := (Tt113.setTop (mkF m 49 #[.val (.ref a), .val (.ref b)] [(.int (0 : Int32))]))) (fun _ zz => XS.iconst Xt113.here hx rfl (hb hby d5_48) zz) ?_
            exact Gl.retZ Xt113 hx hret hlk (hb hby d5_49) (Or.inl rfl) ⟨by rw [own_bi_f (fun q => q.2.2.2.1.elim (fun z => z q4) (fun z => z q5))], rfl, et113⟩ (by decide) (by decide)
          · refine Gl.st (U' := (Tt113.setTop (mkF m 33 #[.val (.ref a), .val (.ref b)] []))) (fun _ zz => XS.ifNo Xt113.here hx rfl (hb hby d5_30) rfl ((if0 _ _).trans (feq q5).1) zz) ?_
            refine Gl.st (U' := (Tt113.setTop (mkF m 34 #[.val (.ref a), .val (.ref b)] [(.ref a)]))) (fun _ zz => XS.aloadN Xt113.here hx rfl (hb hby d5_33) rfl rfl zz) ?_
            obtain ⟨Tt114, Xt114, et114, stt114⟩ := getF Xt113 hx hZ hown (host := "") (Or.inl (hw _ (List.mem_of_getElem? (i := 27) rfl))) Via.refl et113 FA3 (g := (mkF m 34 #[.val (.ref a), .val (.ref b)] [(.ref a)])) rfl rfl (hb hby d5_34)
            refine Gl.st (U' := (Tt114.setTop (mkF m 37 #[.val (.ref a), .val (.ref b)] [va]))) stt114 ?_
            refine Gl.st (U' := (Tt114.setTop (mkF m 38 #[.val (.ref a), .val (.ref b)] [(.ref b), va]))) (fun _ zz => XS.aloadN Xt114.here hx rfl (hb hby d5_37) rfl rfl zz) ?_
            obtain ⟨Tt115, Xt115, et115, stt115⟩ := getF Xt114 hx hZ hown (host := "") (Or.inl (hw _ (List.mem_of_getElem? (i := 27) rfl))) Via.refl et114 FB3 (g := (mkF m 38 #[.val (.ref a), .val (.ref b)] [(.ref b), va])) rfl rfl (hb hby d5_38)
            refine Gl.st (U' := (Tt115.setTop (mkF m 41 #[.val (.ref a), .val (.ref b)] [vb, va]))) stt115 ?_
            by_cases q6 : va = vb
            · refine Gl.st (U' := (Tt115.setTop (mkF m 44 #[.val (.ref a), .val (.ref b)] []))) (fun _ zz => Jvm.RoadKit.acmp (g := (mkF m 41 #[.val (.ref a), .val (.ref b)] [vb, va])) Xt115 hx rfl hva hvb (pc0 := 41) (pc' := 44) (same := true) rfl (hb hby d5_41) rfl (decide_eq_true q6) (by decide) (by decide) zz) ?_
              refine Gl.st (U' := (Tt115.setTop (mkF m 45 #[.val (.ref a), .val (.ref b)] [(.int (1 : Int32))]))) (fun _ zz => XS.iconst Xt115.here hx rfl (hb hby d5_44) zz) ?_
              refine Gl.st (U' := (Tt115.setTop (mkF m 49 #[.val (.ref a), .val (.ref b)] [(.int (1 : Int32))]))) (fun _ zz => XS.goto Xt115.here hx rfl (pc0 := 45) (pc' := 49) rfl (hb hby d5_45) (by decide) (by decide) zz) ?_
              exact Gl.retZ Xt115 hx hret hlk (hb hby d5_49) (Or.inr rfl) ⟨by rw [own_bi_t (⟨q1, q2, q3, (Or.inr q5), q6⟩)], rfl, et115⟩ (by decide) (by decide)
            · refine Gl.st (U' := (Tt115.setTop (mkF m 48 #[.val (.ref a), .val (.ref b)] []))) (fun _ zz => Jvm.RoadKit.acmp (g := (mkF m 41 #[.val (.ref a), .val (.ref b)] [vb, va])) Xt115 hx rfl hva hvb (pc0 := 41) (pc' := 48) (same := false) rfl (hb hby d5_41) rfl (decide_eq_false q6) (by decide) (by decide) zz) ?_
              refine Gl.st (U' := (Tt115.setTop (mkF m 49 #[.val (.ref a), .val (.ref b)] [(.int (0 : Int32))]))) (fun _ zz => XS.iconst Xt115.here hx rfl (hb hby d5_48) zz) ?_
              exact Gl.retZ Xt115 hx hret hlk (hb hby d5_49) (Or.inl rfl) ⟨by rw [own_bi_f (fun q => q6 q.2.2.2.2)], rfl, et115⟩ (by decide) (by decide)
        · refine Gl.st (U' := (Tt112.setTop (mkF m 33 #[.val (.ref a), .val (.ref b)] []))) (fun _ zz => XS.ifYes Xt112.here hx rfl (pc0 := 23) (pc' := 33) rfl (hb hby d5_23) rfl ((if0 _ _).trans (feq q4).2) (by decide) (by decide) zz) ?_
          refine Gl.st (U' := (Tt112.setTop (mkF m 34 #[.val (.ref a), .val (.ref b)] [(.ref a)]))) (fun _ zz => XS.aloadN Xt112.here hx rfl (hb hby d5_33) rfl rfl zz) ?_
          obtain ⟨Tt116, Xt116, et116, stt116⟩ := getF Xt112 hx hZ hown (host := "") (Or.inl (hw _ (List.mem_of_getElem? (i := 27) rfl))) Via.refl et112 FA3 (g := (mkF m 34 #[.val (.ref a), .val (.ref b)] [(.ref a)])) rfl rfl (hb hby d5_34)
          refine Gl.st (U' := (Tt116.setTop (mkF m 37 #[.val (.ref a), .val (.ref b)] [va]))) stt116 ?_
          refine Gl.st (U' := (Tt116.setTop (mkF m 38 #[.val (.ref a), .val (.ref b)] [(.ref b), va]))) (fun _ zz => XS.aloadN Xt116.here hx rfl (hb hby d5_37) rfl rfl zz) ?_
          obtain ⟨Tt117, Xt117, et117, stt117⟩ := getF Xt116 hx hZ hown (host := "") (Or.inl (hw _ (List.mem_of_getElem? (i := 27) rfl))) Via.refl et116 FB3 (g := (mkF m 38 #[.val (.ref a), .val (.ref b)] [(.ref b), va])) rfl rfl (hb hby d5_38)
          refine Gl.st (U' := (Tt117.setTop (mkF m 41 #[.val (.ref a), .val (.ref b)] [vb, va]))) stt117 ?_
          by_cases q6 : va = vb
          · refine Gl.st (U' := (Tt117.setTop (mkF m 44 #[.val (.ref a), .val (.ref b)] []))) (fun _ zz => Jvm.RoadKit.acmp (g := (mkF m 41 #[.val (.ref a), .val (.ref b)] [vb, va])) Xt117 hx rfl hva hvb (pc0 := 41) (pc' := 44) (same := true) rfl (hb hby d5_41) rfl (decide_eq_true q6) (by decide) (by decide) zz) ?_
            refine Gl.st (U' := (Tt117.setTop (mkF m 45 #[.val (.ref a), .val (.ref b)] [(.int (1 : Int32))]))) (fun _ zz => XS.iconst Xt117.here hx rfl (hb hby d5_44) zz) ?_
            refine Gl.st (U' := (Tt117.setTop (mkF m 49 #[.val (.ref a), .val (.ref b)] [(.int (1 : Int32))]))) (fun _ zz => XS.goto Xt117.here hx rfl (pc0 := 45) (pc' := 49) rfl (hb hby d5_45) (by decide) (by decide) zz) ?_
            exact Gl.retZ Xt117 hx hret hlk (hb hby d5_49) (Or.inr rfl) ⟨by rw [own_bi_t (⟨q1, q2, q3, (Or.inl q4), q6⟩)], rfl, et117⟩ (by decide) (by decide)
          · refine Gl.st (U' := (Tt117.setTop (mkF m 48 #[.val (.ref a), .val (.ref b)] []))) (fun _ zz => Jvm.RoadKit.acmp (g := (mkF m 41 #[.val (.ref a), .val (.ref b)] [vb, va])) Xt117 hx rfl hva hvb (pc0 := 41) (pc' := 48) (same := false) rfl (hb hby d5_41) rfl (decide_eq_false q6) (by decide) (by decide) zz) ?_
            refine Gl.st (U' := (Tt117.setTop (mkF m 49 #[.val (.ref a), .val (.ref b)] [(.int (0 : Int32))]))) (fun _ zz => XS.iconst Xt117.here hx rfl (hb hby d5_48) zz) ?_
            exact Gl.retZ Xt117 hx hret hlk (hb hby d5_49) (Or.inl rfl) ⟨by rw [own_bi_f (fun q => q6 q.2.2.2.2)], rfl, et117⟩ (by decide) (by decide)
theorem own_pd1 : parseMethodDescriptor "(I)Lcom/example/rungsight/rungsight/types/IntegerType;" = some ⟨[.int], some (.object "com/example/rungsight/rungsight/types/IntegerType")⟩ := by decide +kernel
theorem own_pd2 : parseMethodDescriptor "(I)Lcom/example/rungsight/rungsight/flow/Variable$Origin;" = some ⟨[.int], some (.object "com/example/rungsight/rungsight/flow/Variable$Origin")⟩ := by decide +kernel
theorem own_pd3 : (parseMethodDescriptor site_173.desc).map (fun s => s.parameters.length) = some 10 := by decide +kernel
theorem own_pd4 : parseMethodDescriptor "()V" = some ⟨[], none⟩ := by decide +kernel
theorem own_pd5 : parseMethodDescriptor "(Lcom/example/rungsight/rungsight/flow/Variable;)Z" = some ⟨[.object "com/example/rungsight/rungsight/flow/Variable"], some .boolean⟩ := by decide +kernel
set_option maxRecDepth 65536 in
set_option maxHeartbeats 40000000 in
theorem own_law (l : Launch) (Z : State) (a0 : Array Value) (hw : ∀ d ∈ tables_1, d.before a0 Z = true) (h0 : Heap) (n0 : Nat) (O0 : Old Z n0 h0) (t0 t1 t2 t3 t4 t5 t6 t7 t8 t9 t10 t11 o0 o1 o2 o3 o4 : Addr) (hS : own_S Z Z.heap t0 t1 t2 t3 t4 t5 t6 t7 t8 t9 t10 t11) (hO : own_O Z Z.heap o0 o1 o2 o3 o4) (hN : own_N Z Z.heap t0 t1 t2 t3 t4 t5 t6 t7 t8 t9 t10 t11) (p0 p1 p2 p3 p4 : Int32) :
    Con tables_1 l Z x code maxLocals ret room_1 #[(.int p0), (.int p1), (.int p2), (.int p3), (.int p4)] h0 (fun v h L => v = some (.int 1) ∧ Fr n0 L) := by
  refine Con.of (Ls := #[.val (.int p0), .val (.int p1), .val (.int p2), .val (.int p3), .val (.int p4), .unset, .unset, .unset, .unset, .unset, .unset, .unset, .unset, .unset, .unset, .unset, .unset, .unset, .unset, .unset, .unset]) (by first | exact plainFor_of_name (by first | (simp [plainName, overriddenIn]; done) | decide +kernel) | decide +kernel) (fun m => by first | (simp [entryFrame, mkF, argsToLocals, Value.category]; done) | (simp [entryFrame, mkF, argsToLocals, Value.category, maxLocals]; done) | rfl) ?_
  intro p e s m below meth c T0 hx hby hml hown hnm hret hlk hZ e0 X0
  have hml : c.maxLocals = 21 := hml
  have N0 := Fr.nil n0
  refine Gl.st (U' := (T0.setTop (mkF m 1 #[.val (.int p0), .val (.int p1), .val (.int p2), .val (.int p3), .val (.int p4), .unset, .unset, .unset, .unset, .unset, .unset, .unset, .unset, .unset, .unset, .unset, .unset, .unset, .unset, .unset, .unset] [(.int p0)]))) (fun _ zz => XS.iloadN X0.here hx rfl (hb hby at_0) rfl zz) ?_
  refine Gl.st (U' := (T0.setTop (mkF m 2 #[.val (.int p0), .val (.int p1), .val (.int p2), .val (.int p3), .val (.int p4), .unset, .unset, .unset, .unset, .unset, .unset, .unset, .unset, .unset, .unset, .unset, .unset, .unset, .unset, .unset, .unset] [(.int (1 : Int32)), (.int p0)]))) (fun _ zz => XS.iconst X0.here hx rfl (hb hby at_1) zz) ?_
  refine Gl.st (U' := (T0.setTop (mkF m 3 #[.val (.int p0), .val (.int p1), .val (.int p2), .val (.int p3), .val (.int p4), .unset, .unset, .unset, .unset, .unset, .unset, .unset, .unset, .unset, .unset, .unset, .unset, .unset, .unset, .unset, .unset] [(.int (p0 &&& (1 : Int32)))]))) (fun _ zz => XS.iand X0.here hx rfl (hb hby at_2) rfl zz) ?_
  refine Gl.join (α := Int32) (P := fun b5 => b5 = 0 ∨ b5 = 1) (f := fun b5 => (T0.setTop (mkF m 11 #[.val (.int p0), .val (.int p1), .val (.int p2), .val (.int p3), .val (.int p4), .unset, .unset, .unset, .unset, .unset, .unset, .unset, .unset, .unset, .unset, .unset, .unset, .unset, .unset, .unset, .unset] [(.int b5)]))) ?_ ?_
  · intro Jb5
    by_cases q : (p0 &&& (1 : Int32)) = (0 : Int32)
    · refine Gl.st (U' := (T0.setTop (mkF m 10 #[.val (.int p0), .val (.int p1), .val (.int p2), .val (.int p3), .val (.int p4), .unset, .unset, .unset, .unset, .unset, .unset, .unset, .unset, .unset, .unset, .unset, .unset, .unset, .unset, .unset, .unset] []))) (fun _ zz => XS.ifYes X0.here hx rfl (pc0 := 3) (pc' := 10) rfl (hb hby at_3) rfl ((if0 _ _).trans (teq q).1) (by decide) (by decide) zz) ?_
      refine Gl.st (U' := (T0.setTop (mkF m 11 #[.val (.int p0), .val (.int p1), .val (.int p2), .val (.int p3), .val (.int p4), .unset, .unset, .unset, .unset, .unset, .unset, .unset, .unset, .unset, .unset, .unset, .unset, .unset, .unset, .unset, .unset] [(.int (0 : Int32))]))) (fun _ zz => XS.iconst X0.here hx rfl (hb hby at_10) zz) ?_
      exact Jb5 0 (Or.inl rfl)
    · refine Gl.st (U' := (T0.setTop (mkF m 6 #[.val (.int p0), .val (.int p1), .val (.int p2), .val (.int p3), .val (.int p4), .unset, .unset, .unset, .unset, .unset, .unset, .unset, .unset, .unset, .unset, .unset, .unset, .unset, .unset, .unset, .unset] []))) (fun _ zz => XS.ifNo X0.here hx rfl (hb hby at_3) rfl ((if0 _ _).trans (feq q).1) zz) ?_
      refine Gl.st (U' := (T0.setTop (mkF m 7 #[.val (.int p0), .val (.int p1), .val (.int p2), .val (.int p3), .val (.int p4), .unset, .unset, .unset, .unset, .unset, .unset, .unset, .unset, .unset, .unset, .unset, .unset, .unset, .unset, .unset, .unset] [(.int (1 : Int32))]))) (fun _ zz => XS.iconst X0.here hx rfl (hb hby at_6) zz) ?_
      refine Gl.st (U' := (T0.setTop (mkF m 11 #[.val (.int p0), .val (.int p1), .val (.int p2), .val (.int p3), .val (.int p4), .unset, .unset, .unset, .unset, .unset, .unset, .unset, .unset, .unset, .unset, .unset, .unset, .unset, .unset, .unset, .unset] [(.int (1 : Int32))]))) (fun _ zz => XS.goto X0.here hx rfl (pc0 := 7) (pc' := 11) rfl (hb hby at_7) (by decide) (by decide) zz) ?_
      exact Jb5 1 (Or.inr rfl)
  intro b5 hb5
  show Gl p e below _ (T0.setTop (mkF m 11 #[.val (.int p0), .val (.int p1), .val (.int p2), .val (.int p3), .val (.int p4), .unset, .unset, .unset, .unset, .unset, .unset, .unset, .unset, .unset, .unset, .unset, .unset, .unset, .unset, .unset, .unset] [(.int b5)]))
  refine Gl.st (U' := (T0.setTop (mkF m 13 #[.val (.int p0), .val (.int p1), .val (.int p2), .val (.int p3), .val (.int p4), .val (.int b5), .unset, .unset, .unset, .unset, .unset, .unset, .unset, .unset, .unset, .unset, .unset, .unset, .unset, .unset, .unset] []))) (fun _ zz => XS.istore X0.here hx rfl (hb hby at_11) rfl (l' := #[.val (.int p0), .val (.int p1), .val (.int p2), .val (.int p3), .val (.int p4), .val (.int b5), .unset, .unset, .unset, .unset, .unset, .unset, .unset, .unset, .unset, .unset, .unset, .unset, .unset, .unset, .unset]) rfl zz) ?_
  refine Gl.st (U' := (T0.setTop (mkF m 14 #[.val (.int p0), .val (.int p1), .val (.int p2), .val (.int p3), .val (.int p4), .val (.int b5), .unset, .unset, .unset, .unset, .unset, .unset, .unset, .unset, .unset, .unset, .unset, .unset, .unset, .unset, .unset] [(.int p0)]))) (fun _ zz => XS.iloadN X0.here hx rfl (hb hby at_13) rfl zz) ?_
  refine Gl.st (U' := (T0.setTop (mkF m 15 #[.val (.int p0), .val (.int p1), .val (.int p2), .val (.int p3), .val (.int p4), .val (.int b5), .unset, .unset, .unset, .unset, .unset, .unset, .unset, .unset, .unset, .unset, .unset, .unset, .unset, .unset, .unset] [(.int (2 : Int32)), (.int p0)]))) (fun _ zz => XS.iconst X0.here hx rfl (hb hby at_14) zz) ?_
  refine Gl.st (U' := (T0.setTop (mkF m 16 #[.val (.int p0), .val (.int p1), .val (.int p2), .val (.int p3), .val (.int p4), .val (.int b5), .unset, .unset, .unset, .unset, .unset, .unset, .unset, .unset, .unset, .unset, .unset, .unset, .unset, .unset, .unset] [(.int (p0 &&& (2 : Int32)))]))) (fun _ zz => XS.iand X0.here hx rfl (hb hby at_15) rfl zz) ?_
  refine Gl.join (α := Int32) (P := fun b6 => b6 = 0 ∨ b6 = 1) (f := fun b6 => (T0.setTop (mkF m 24 #[.val (.int p0), .val (.int p1), .val (.int p2), .val (.int p3), .val (.int p4), .val (.int b5), .unset, .unset, .unset, .unset, .unset, .unset, .unset, .unset, .unset, .unset, .unset, .unset, .unset, .unset, .unset] [(.int b6)]))) ?_ ?_
  · intro Jb6
    by_cases q : (p0 &&& (2 : Int32)) = (0 : Int32)
    · refine Gl.st (U' := (T0.setTop (mkF m 23 #[.val (.int p0), .val (.int p1), .val (.int p2), .val (.int p3), .val (.int p4), .val (.int b5), .unset, .unset, .unset, .unset, .unset, .unset, .unset, .unset, .unset, .unset, .unset, .unset, .unset, .unset, .unset] []))) (fun _ zz => XS.ifYes X0.here hx rfl (pc0 := 16) (pc' := 23) rfl (hb hby at_16) rfl ((if0 _ _).trans (teq q).1) (by decide) (by decide) zz) ?_
      refine Gl.st (U' := (T0.setTop (mkF m 24 #[.val (.int p0), .val (.int p1), .val (.int p2), .val (.int p3), .val (.int p4), .val (.int b5), .unset, .unset, .unset, .unset, .unset, .unset, .unset, .unset, .unset, .unset, .unset, .unset, .unset, .unset, .unset] [(.int (0 : Int32))]))) (fun _ zz => XS.iconst X0.here hx rfl (hb hby at_23) zz) ?_
      exact Jb6 0 (Or.inl rfl)
    · refine Gl.st (U' := (T0.setTop (mkF m 19 #[.val (.int p0), .val (.int p1), .val (.int p2), .val (.int p3), .val (.int p4), .val (.int b5), .unset, .unset, .unset, .unset, .unset, .unset, .unset, .unset, .unset, .unset, .unset, .unset, .unset, .unset, .unset] []))) (fun _ zz => XS.ifNo X0.here hx rfl (hb hby at_16) rfl ((if0 _ _).trans (feq q).1) zz) ?_
      refine Gl.st (U' := (T0.setTop (mkF m 20 #[.val (.int p0), .val (.int p1), .val (.int p2), .val (.int p3), .val (.int p4), .val (.int b5), .unset, .unset, .unset, .unset, .unset, .unset, .unset, .unset, .unset, .unset, .unset, .unset, .unset, .unset, .unset] [(.int (1 : Int32))]))) (fun _ zz => XS.iconst X0.here hx rfl (hb hby at_19) zz) ?_
      refine Gl.st (U' := (T0.setTop (mkF m 24 #[.val (.int p0), .val (.int p1), .val (.int p2), .val (.int p3), .val (.int p4), .val (.int b5), .unset, .unset, .unset, .unset, .unset, .unset, .unset, .unset, .unset, .unset, .unset, .unset, .unset, .unset, .unset] [(.int (1 : Int32))]))) (fun _ zz => XS.goto X0.here hx rfl (pc0 := 20) (pc' := 24) rfl (hb hby at_20) (by decide) (by decide) zz) ?_
      exact Jb6 1 (Or.inr rfl)
  intro b6 hb6
  show Gl p e below _ (T0.setTop (mkF m 24 #[.val (.int p0), .val (.int p1), .val (.int p2), .val (.int p3), .val (.int p4), .val (.int b5), .unset, .unset, .unset, .unset, .unset, .unset, .unset, .unset, .unset, .unset, .unset, .unset, .unset, .unset, .unset] [(.int b6)]))
  refine Gl.st (U' := (T0.setTop (mkF m 26 #[.val (.int p0), .val (.int p1), .val (.int p2), .val (.int p3), .val (.int p4), .val (.int b5), .val (.int b6), .unset, .unset, .unset, .unset, .unset, .unset, .unset, .unset, .unset, .unset, .unset, .unset, .unset, .unset] []))) (fun _ zz => XS.istore X0.here hx rfl (hb hby at_24) rfl (l' := #[.val (.int p0), .val (.int p1), .val (.int p2), .val (.int p3), .val (.int p4), .val (.int b5), .val (.int b6), .unset, .unset, .unset, .unset, .unset, .unset, .unset, .unset, .unset, .unset, .unset, .unset, .unset, .unset]) rfl zz) ?_
  refine Gl.st (U' := (T0.setTop (mkF m 27 #[.val (.int p0), .val (.int p1), .val (.int p2), .val (.int p3), .val (.int p4), .val (.int b5), .val (.int b6), .unset, .unset, .unset, .unset, .unset, .unset, .unset, .unset, .unset, .unset, .unset, .unset, .unset, .unset] [(.int p0)]))) (fun _ zz => XS.iloadN X0.here hx rfl (hb hby at_26) rfl zz) ?_
  refine Gl.st (U' := (T0.setTop (mkF m 28 #[.val (.int p0), .val (.int p1), .val (.int p2), .val (.int p3), .val (.int p4), .val (.int b5), .val (.int b6), .unset, .unset, .unset, .unset, .unset, .unset, .unset, .unset, .unset, .unset, .unset, .unset, .unset, .unset] [(.int (4 : Int32)), (.int p0)]))) (fun _ zz => XS.iconst X0.here hx rfl (hb hby at_27) zz) ?_
  refine Gl.st (U' := (T0.setTop (mkF m 29 #[.val (.int p0), .val (.int p1), .val (.int p2), .val (.int p3), .val (.int p4), .val (.int b5), .val (.int b6), .unset, .unset, .unset, .unset, .unset, .unset, .unset, .unset, .unset, .unset, .unset, .unset, .unset, .unset] [(.int (p0 &&& (4 : Int32)))]))) (fun _ zz => XS.iand X0.here hx rfl (hb hby at_28) rfl zz) ?_
  refine Gl.join (α := Int32) (P := fun b7 => b7 = 0 ∨ b7 = 1) (f := fun b7 => (T0.setTop (mkF m 37 #[.val (.int p0), .val (.int p1), .val (.int p2), .val (.int p3), .val (.int p4), .val (.int b5), .val (.int b6), .unset, .unset, .unset, .unset, .unset, .unset, .unset, .unset, .unset, .unset, .unset, .unset, .unset, .unset] [(.int b7)]))) ?_ ?_
  · intro Jb7
    by_cases q : (p0 &&& (4 : Int32)) = (0 : Int32)
    · refine Gl.st (U' := (T0.setTop (mkF m 36 #[.val (.int p0), .val (.int p1), .val (.int p2), .val (.int p3), .val (.int p4), .val (.int b5), .val (.int b6), .unset, .unset, .unset, .unset, .unset, .unset, .unset, .unset, .unset, .unset, .unset, .unset, .unset, .unset] []))) (fun _ zz => XS.ifYes X0.here hx rfl (pc0 := 29) (pc' := 36) rfl (hb hby at_29) rfl ((if0 _ _).trans (teq q).1) (by decide) (by decide) zz) ?_
      refine Gl.st (U' := (T0.setTop (mkF m 37 #[.val (.int p0), .val (.int p1), .val (.int p2), .val (.int p3), .val (.int p4), .val (.int b5), .val (.int b6), .unset, .unset, .unset, .unset, .unset, .unset, .unset, .unset, .unset, .unset, .unset, .unset, .unset, .unset] [(.int (0 : Int32))]))) (fun _ zz => XS.iconst X0.here hx rfl (hb hby at_36) zz) ?_
      exact Jb7 0 (Or.inl rfl)
    · refine Gl.st (U' := (T0.setTop (mkF m 32 #[.val (.int p0), .val (.int p1), .val (.int p2), .val (.int p3), .val (.int p4), .val (.int b5), .val (.int b6), .unset, .unset, .unset, .unset, .unset, .unset, .unset, .unset, .unset, .unset, .unset, .unset, .unset, .unset] []))) (fun _ zz => XS.ifNo X0.here hx rfl (hb hby at_29) rfl ((if0 _ _).trans (feq q).1) zz) ?_
      refine Gl.st (U' := (T0.setTop (mkF m 33 #[.val (.int p0), .val (.int p1), .val (.int p2), .val (.int p3), .val (.int p4), .val (.int b5), .val (.int b6), .unset, .unset, .unset, .unset, .unset, .unset, .unset, .unset, .unset, .unset, .unset, .unset, .unset, .unset] [(.int (1 : Int32))]))) (fun _ zz => XS.iconst X0.here hx rfl (hb hby at_32) zz) ?_
      refine Gl.st (U' := (T0.setTop (mkF m 37 #[.val (.int p0), .val (.int p1), .val (.int p2), .val (.int p3), .val (.int p4), .val (.int b5), .val (.int b6), .unset, .unset, .unset, .unset, .unset, .unset, .unset, .unset, .unset, .unset, .unset, .unset, .unset, .unset] [(.int (1 : Int32))]))) (fun _ zz => XS.goto X0.here hx rfl (pc0 := 33) (pc' := 37) rfl (hb hby at_33) (by decide) (by decide) zz) ?_
      exact Jb7 1 (Or.inr rfl)
  intro b7 hb7
  show Gl p e below _ (T0.setTop (mkF m 37 #[.val (.int p0), .val (.int p1), .val (.int p2), .val (.int p3), .val (.int p4), .val (.int b5), .val (.int b6), .unset, .unset, .unset, .unset, .unset, .unset, .unset, .unset, .unset, .unset, .unset, .unset, .unset, .unset] [(.int b7)]))
  refine Gl.st (U' := (T0.setTop (mkF m 39 #[.val (.int p0), .val (.int p1), .val (.int p2), .val (.int p3), .val (.int p4), .val (.int b5), .val (.int b6), .val (.int b7), .unset, .unset, .unset, .unset, .unset, .unset, .unset, .unset, .unset, .unset, .unset, .unset, .unset] []))) (fun _ zz => XS.istore X0.here hx rfl (hb hby at_37) rfl (l' := #[.val (.int p0), .val (.int p1), .val (.int p2), .val (.int p3), .val (.int p4), .val (.int b5), .val (.int b6), .val (.int b7), .unset, .unset, .unset, .unset, .unset, .unset, .unset, .unset, .unset, .unset, .unset, .unset, .unset]) rfl zz) ?_
  refine Gl.st (U' := (T0.setTop (mkF m 40 #[.val (.int p0), .val (.int p1), .val (.int p2), .val (.int p3), .val (.int p4), .val (.int b5), .val (.int b6), .val (.int b7), .unset, .unset, .unset, .unset, .unset, .unset, .unset, .unset, .unset, .unset, .unset, .unset, .unset] [(.int p0)]))) (fun _ zz => XS.iloadN X0.here hx rfl (hb hby at_39) rfl zz) ?_
  refine Gl.st (U' := (T0.setTop (mkF m 42 #[.val (.int p0), .val (.int p1), .val (.int p2), .val (.int p3), .val (.int p4), .val (.int b5), .val (.int b6), .val (.int b7), .unset, .unset, .unset, .unset, .unset, .unset, .unset, .unset, .unset, .unset, .unset, .unset, .unset] [(.int (8 : Int32)), (.int p0)]))) (fun _ zz => XS.bipush X0.here hx rfl (hb hby at_40) zz) ?_
  refine Gl.st (U' := (T0.setTop (mkF m 43 #[.val (.int p0), .val (.int p1), .val (.int p2), .val (.int p3), .val (.int p4), .val (.int b5), .val (.int b6), .val (.int b7), .unset, .unset, .unset, .unset, .unset, .unset, .unset, .unset, .unset, .unset, .unset, .unset, .unset] [(.int (p0 &&& (8 : Int32)))]))) (fun _ zz => XS.iand X0.here hx rfl (hb hby at_42) rfl zz) ?_
  refine Gl.join (α := Int32) (P := fun b8 => b8 = 0 ∨ b8 = 1) (f := fun b8 => (T0.setTop (mkF m 51 #[.val (.int p0), .val (.int p1), .val (.int p2), .val (.int p3), .val (.int p4), .val (.int b5), .val (.int b6), .val (.int b7), .unset, .unset, .unset, .unset, .unset, .unset, .unset, .unset, .unset, .unset, .unset, .unset, .unset] [(.int b8)]))) ?_ ?_
  · intro Jb8
    by_cases q : (p0 &&& (8 : Int32)) = (0 : Int32)
    · refine Gl.st (U' := (T0.setTop (mkF m 50 #[.val (.int p0), .val (.int p1), .val (.int p2), .val (.int p3), .val (.int p4), .val (.int b5), .val (.int b6), .val (.int b7), .unset, .unset, .unset, .unset, .unset, .unset, .unset, .unset, .unset, .unset, .unset, .unset, .unset] []))) (fun _ zz => XS.ifYes X0.here hx rfl (pc0 := 43) (pc' := 50) rfl (hb hby at_43) rfl ((if0 _ _).trans (teq q).1) (by decide) (by decide) zz) ?_
      refine Gl.st (U' := (T0.setTop (mkF m 51 #[.val (.int p0), .val (.int p1), .val (.int p2), .val (.int p3), .val (.int p4), .val (.int b5), .val (.int b6), .val (.int b7), .unset, .unset, .unset, .unset, .unset, .unset, .unset, .unset, .unset, .unset, .unset, .unset, .unset] [(.int (0 : Int32))]))) (fun _ zz => XS.iconst X0.here hx rfl (hb hby at_50) zz) ?_
      exact Jb8 0 (Or.inl rfl)
    · refine Gl.st (U' := (T0.setTop (mkF m 46 #[.val (.int p0), .val (.int p1), .val (.int p2), .val (.int p3), .val (.int p4), .val (.int b5), .val (.int b6), .val (.int b7), .unset, .unset, .unset, .unset, .unset, .unset, .unset, .unset, .unset, .unset, .unset, .unset, .unset] []))) (fun _ zz => XS.ifNo X0.here hx rfl (hb hby at_43) rfl ((if0 _ _).trans (feq q).1) zz) ?_
      refine Gl.st (U' := (T0.setTop (mkF m 47 #[.val (.int p0), .val (.int p1), .val (.int p2), .val (.int p3), .val (.int p4), .val (.int b5), .val (.int b6), .val (.int b7), .unset, .unset, .unset, .unset, .unset, .unset, .unset, .unset, .unset, .unset, .unset, .unset, .unset] [(.int (1 : Int32))]))) (fun _ zz => XS.iconst X0.here hx rfl (hb hby at_46) zz) ?_
      refine Gl.st (U' := (T0.setTop (mkF m 51 #[.val (.int p0), .val (.int p1), .val (.int p2), .val (.int p3), .val (.int p4), .val (.int b5), .val (.int b6), .val (.int b7), .unset, .unset, .unset, .unset, .unset, .unset, .unset, .unset, .unset, .unset, .unset, .unset, .unset] [(.int (1 : Int32))]))) (fun _ zz => XS.goto X0.here hx rfl (pc0 := 47) (pc' := 51) rfl (hb hby at_47) (by decide) (by decide) zz) ?_
      exact Jb8 1 (Or.inr rfl)
  intro b8 hb8
  show Gl p e below _ (T0.setTop (mkF m 51 #[.val (.int p0), .val (.int p1), .val (.int p2), .val (.int p3), .val (.int p4), .val (.int b5), .val (.int b6), .val (.int b7), .unset, .unset, .unset, .unset, .unset, .unset, .unset, .unset, .unset, .unset, .unset, .unset, .unset] [(.int b8)]))
  refine Gl.st (U' := (T0.setTop (mkF m 53 #[.val (.int p0), .val (.int p1), .val (.int p2), .val (.int p3), .val (.int p4), .val (.int b5), .val (.int b6), .val (.int b7), .val (.int b8), .unset, .unset, .unset, .unset, .unset, .unset, .unset, .unset, .unset, .unset, .unset, .unset] []))) (fun _ zz => XS.istore X0.here hx rfl (hb hby at_51) rfl (l' := #[.val (.int p0), .val (.int p1), .val (.int p2), .val (.int p3), .val (.int p4), .val (.int b5), .val (.int b6), .val (.int b7), .val (.int b8), .unset, .unset, .unset, .unset, .unset, .unset, .unset, .unset, .unset, .unset, .unset, .unset]) rfl zz) ?_
  refine Gl.st (U' := (T0.setTop (mkF m 54 #[.val (.int p0), .val (.int p1), .val (.int p2), .val (.int p3), .val (.int p4), .val (.int b5), .val (.int b6), .val (.int b7), .val (.int b8), .unset, .unset, .unset, .unset, .unset, .unset, .unset, .unset, .unset, .unset, .unset, .unset] [(.int p0)]))) (fun _ zz => XS.iloadN X0.here hx rfl (hb hby at_53) rfl zz) ?_
  refine Gl.st (U' := (T0.setTop (mkF m 56 #[.val (.int p0), .val (.int p1), .val (.int p2), .val (.int p3), .val (.int p4), .val (.int b5), .val (.int b6), .val (.int b7), .val (.int b8), .unset, .unset, .unset, .unset, .unset, .unset, .unset, .unset, .unset, .unset, .unset, .unset] [(.int (16 : Int32)), (.int p0)]))) (fun _ zz => XS.bipush X0.here hx rfl (hb hby at_54) zz) ?_
  refine Gl.st (U' := (T0.setTop (mkF m 57 #[.val (.int p0), .val (.int p1), .val (.int p2), .val (.int p3), .val (.int p4), .val (.int b5), .val (.int b6), .val (.int b7), .val (.int b8), .unset, .unset, .unset, .unset, .unset, .unset, .unset, .unset, .unset, .unset, .unset, .unset] [(.int (p0 &&& (16 : Int32)))]))) (fun _ zz => XS.iand X0.here hx rfl (hb hby at_56) rfl zz) ?_
  refine Gl.join (α := Int32) (P := fun b9 => b9 = 0 ∨ b9 = 1) (f := fun b9 => (T0.setTop (mkF m 65 #[.val (.int p0), .val (.int p1), .val (.int p2), .val (.int p3), .val (.int p4), .val (.int b5), .val (.int b6), .val (.int b7), .val (.int b8), .unset, .unset, .unset, .unset, .unset, .unset, .unset, .unset, .unset, .unset, .unset, .unset] [(.int b9)]))) ?_ ?_
  · intro Jb9
    by_cases q : (p0 &&& (16 : Int32)) = (0 : Int32)
    · refine Gl.st (U' := (T0.setTop (mkF m 64 #[.val (.int p0), .val (.int p1), .val (.int p2), .val (.int p3), .val (.int p4), .val (.int b5), .val (.int b6), .val (.int b7), .val (.int b8), .unset, .unset, .unset, .unset, .unset, .unset, .unset, .unset, .unset, .unset, .unset, .unset] []))) (fun _ zz => XS.ifYes X0.here hx rfl (pc0 := 57) (pc' := 64) rfl (hb hby at_57) rfl ((if0 _ _).trans (teq q).1) (by decide) (by decide) zz) ?_
      refine Gl.st (U' := (T0.setTop (mkF m 65 #[.val (.int p0), .val (.int p1), .val (.int p2), .val (.int p3), .val (.int p4), .val (.int b5), .val (.int b6), .val (.int b7), .val (.int b8), .unset, .unset, .unset, .unset, .unset, .unset, .unset, .unset, .unset, .unset, .unset, .unset] [(.int (0 : Int32))]))) (fun _ zz => XS.iconst X0.here hx rfl (hb hby at_64) zz) ?_
      exact Jb9 0 (Or.inl rfl)
    · refine Gl.st (U' := (T0.setTop (mkF m 60 #[.val (.int p0), .val (.int p1), .val (.int p2), .val (.int p3), .val (.int p4), .val (.int b5), .val (.int b6), .val (.int b7), .val (.int b8), .unset, .unset, .unset, .unset, .unset, .unset, .unset, .unset, .unset, .unset, .unset, .unset] []))) (fun _ zz => XS.ifNo X0.here hx rfl (hb hby at_57) rfl ((if0 _ _).trans (feq q).1) zz) ?_
      refine Gl.st (U' := (T0.setTop (mkF m 61 #[.val (.int p0), .val (.int p1), .val (.int p2), .val (.int p3), .val (.int p4), .val (.int b5), .val (.int b6), .val (.int b7), .val (.int b8), .unset, .unset, .unset, .unset, .unset, .unset, .unset, .unset, .unset, .unset, .unset, .unset] [(.int (1 : Int32))]))) (fun _ zz => XS.iconst X0.here hx rfl (hb hby at_60) zz) ?_
      refine Gl.st (U' := (T0.setTop (mkF m 65 #[.val (.int p0), .val (.int p1), .val (.int p2), .val (.int p3), .val (.int p4), .val (.int b5), .val (.int b6), .val (.int b7), .val (.int b8), .unset, .unset, .unset, .unset, .unset, .unset, .unset, .unset, .unset, .unset, .unset, .unset] [(.int (1 : Int32))]))) (fun _ zz => XS.goto X0.here hx rfl (pc0 := 61) (pc' := 65) rfl (hb hby at_61) (by decide) (by decide) zz) ?_
      exact Jb9 1 (Or.inr rfl)
  intro b9 hb9
  show Gl p e below _ (T0.setTop (mkF m 65 #[.val (.int p0), .val (.int p1), .val (.int p2), .val (.int p3), .val (.int p4), .val (.int b5), .val (.int b6), .val (.int b7), .val (.int b8), .unset, .unset, .unset, .unset, .unset, .unset, .unset, .unset, .unset, .unset, .unset, .unset] [(.int b9)]))
  refine Gl.st (U' := (T0.setTop (mkF m 67 #[.val (.int p0), .val (.int p1), .val (.int p2), .val (.int p3), .val (.int p4), .val (.int b5), .val (.int b6), .val (.int b7), .val (.int b8), .val (.int b9), .unset, .unset, .unset, .unset, .unset, .unset, .unset, .unset, .unset, .unset, .unset] []))) (fun _ zz => XS.istore X0.here hx rfl (hb hby at_65) rfl (l' := #[.val (.int p0), .val (.int p1), .val (.int p2), .val (.int p3), .val (.int p4), .val (.int b5), .val (.int b6), .val (.int b7), .val (.int b8), .val (.int b9), .unset, .unset, .unset, .unset, .unset, .unset, .unset, .unset, .unset, .unset, .unset]) rfl zz) ?_
  refine Gl.st (U' := (T0.setTop (mkF m 68 #[.val (.int p0), .val (.int p1), .val (.int p2), .val (.int p3), .val (.int p4), .val (.int b5), .val (.int b6), .val (.int b7), .val (.int b8), .val (.int b9), .unset, .unset, .unset, .unset, .unset, .unset, .unset, .unset, .unset, .unset, .unset] [(.int p0)]))) (fun _ zz => XS.iloadN X0.here hx rfl (hb hby at_67) rfl zz) ?_
  refine Gl.st (U' := (T0.setTop (mkF m 70 #[.val (.int p0), .val (.int p1), .val (.int p2), .val (.int p3), .val (.int p4), .val (.int b5), .val (.int b6), .val (.int b7), .val (.int b8), .val (.int b9), .unset, .unset, .unset, .unset, .unset, .unset, .unset, .unset, .unset, .unset, .unset] [(.int (32 : Int32)), (.int p0)]))) (fun _ zz => XS.bipush X0.here hx rfl (hb hby at_68) zz) ?_
  refine Gl.st (U' := (T0.setTop (mkF m 71 #[.val (.int p0), .val (.int p1), .val (.int p2), .val (.int p3), .val (.int p4), .val (.int b5), .val (.int b6), .val (.int b7), .val (.int b8), .val (.int b9), .unset, .unset, .unset, .unset, .unset, .unset, .unset, .unset, .unset, .unset, .unset] [(.int (p0 &&& (32 : Int32)))]))) (fun _ zz => XS.iand X0.here hx rfl (hb hby at_70) rfl zz) ?_
  refine Gl.join (α := Int32) (P := fun b10 => b10 = 0 ∨ b10 = 1) (f := fun b10 => (T0.setTop (mkF m 79 #[.val (.int p0), .val (.int p1), .val (.int p2), .val (.int p3), .val (.int p4), .val (.int b5), .val (.int b6), .val (.int b7), .val (.int b8), .val (.int b9), .unset, .unset, .unset, .unset, .unset, .unset, .unset, .unset, .unset, .unset, .unset] [(.int b10)]))) ?_ ?_
  · intro Jb10
    by_cases q : (p0 &&& (32 : Int32)) = (0 : Int32)
    · refine Gl.st (U' := (T0.setTop (mkF m 78 #[.val (.int p0), .val (.int p1), .val (.int p2), .val (.int p3), .val (.int p4), .val (.int b5), .val (.int b6), .val (.int b7), .val (.int b8), .val (.int b9), .unset, .unset, .unset, .unset, .unset, .unset, .unset, .unset, .unset, .unset, .unset] []))) (fun _ zz => XS.ifYes X0.here hx rfl (pc0 := 71) (pc' := 78) rfl (hb hby at_71) rfl ((if0 _ _).trans (teq q).1) (by decide) (by decide) zz) ?_
      refine Gl.st (U' := (T0.setTop (mkF m 79 #[.val (.int p0), .val (.int p1), .val (.int p2), .val (.int p3), .val (.int p4), .val (.int b5), .val (.int b6), .val (.int b7), .val (.int b8), .val (.int b9), .unset, .unset, .unset, .unset, .unset, .unset, .unset, .unset, .unset, .unset, .unset] [(.int (0 : Int32))]))) (fun _ zz => XS.iconst X0.here hx rfl (hb hby at_78) zz) ?_
      exact Jb10 0 (Or.inl rfl)
    · refine Gl.st (U' := (T0.setTop (mkF m 74 #[.val (.int p0), .val (.int p1), .val (.int p2), .val (.int p3), .val (.int p4), .val (.int b5), .val (.int b6), .val (.int b7), .val (.int b8), .val (.int b9), .unset, .unset, .unset, .unset, .unset, .unset, .unset, .unset, .unset, .unset, .unset] []))) (fun _ zz => XS.ifNo X0.here hx rfl (hb hby at_71) rfl ((if0 _ _).trans (feq q).1) zz) ?_
      refine Gl.st (U' := (T0.setTop (mkF m 75 #[.val (.int p0), .val (.int p1), .val (.int p2), .val (.int p3), .val (.int p4), .val (.int b5), .val (.int b6), .val (.int b7), .val (.int b8), .val (.int b9), .unset, .unset, .unset, .unset, .unset, .unset, .unset, .unset, .unset, .unset, .unset] [(.int (1 : Int32))]))) (fun _ zz => XS.iconst X0.here hx rfl (hb hby at_74) zz) ?_
      refine Gl.st (U' := (T0.setTop (mkF m 79 #[.val (.int p0), .val (.int p1), .val (.int p2), .val (.int p3), .val (.int p4), .val (.int b5), .val (.int b6), .val (.int b7), .val (.int b8), .val (.int b9), .unset, .unset, .unset, .unset, .unset, .unset, .unset, .unset, .unset, .unset, .unset] [(.int (1 : Int32))]))) (fun _ zz => XS.goto X0.here hx rfl (pc0 := 75) (pc' := 79) rfl (hb hby at_75) (by decide) (by decide) zz) ?_
      exact Jb10 1 (Or.inr rfl)
  intro b10 hb10
  show Gl p e below _ (T0.setTop (mkF m 79 #[.val (.int p0), .val (.int p1), .val (.int p2), .val (.int p3), .val (.int p4), .val (.int b5), .val (.int b6), .val (.int b7), .val (.int b8), .val (.int b9), .unset, .unset, .unset, .unset, .unset, .unset, .unset, .unset, .unset, .unset, .unset] [(.int b10)]))
  refine Gl.st (U' := (T0.setTop (mkF m 81 #[.val (.int p0), .val (.int p1), .val (.int p2), .val (.int p3), .val (.int p4), .val (.int b5), .val (.int b6), .val (.int b7), .val (.int b8), .val (.int b9), .val (.int b10), .unset, .unset, .unset, .unset, .unset, .unset, .unset, .unset, .unset, .unset] []))) (fun _ zz => XS.istore X0.here hx rfl (hb hby at_79) rfl (l' := #[.val (.int p0), .val (.int p1), .val (.int p2), .val (.int p3), .val (.int p4), .val (.int b5), .val (.int b6), .val (.int b7), .val (.int b8), .val (.int b9), .val (.int b10), .unset, .unset, .unset, .unset, .unset, .unset, .unset, .unset, .unset, .unset]) rfl zz) ?_
  refine Gl.st (U' := (T0.setTop (mkF m 82 #[.val (.int p0), .val (.int p1), .val (.int p2), .val (.int p3), .val (.int p4), .val (.int b5), .val (.int b6), .val (.int b7), .val (.int b8), .val (.int b9), .val (.int b10), .unset, .unset, .unset, .unset, .unset, .unset, .unset, .unset, .unset, .unset] [(.int p0)]))) (fun _ zz => XS.iloadN X0.here hx rfl (hb hby at_81) rfl zz) ?_
  refine Gl.st (U' := (T0.setTop (mkF m 84 #[.val (.int p0), .val (.int p1), .val (.int p2), .val (.int p3), .val (.int p4), .val (.int b5), .val (.int b6), .val (.int b7), .val (.int b8), .val (.int b9), .val (.int b10), .unset, .unset, .unset, .unset, .unset, .unset, .unset, .unset, .unset, .unset] [(.int (64 : Int32)), (.int p0)]))) (fun _ zz => XS.bipush X0.here hx rfl (hb hby at_82) zz) ?_
  refine Gl.st (U' := (T0.setTop (mkF m 85 #[.val (.int p0), .val (.int p1), .val (.int p2), .val (.int p3), .val (.int p4), .val (.int b5), .val (.int b6), .val (.int b7), .val (.int b8), .val (.int b9), .val (.int b10), .unset, .unset, .unset, .unset, .unset, .unset, .unset, .unset, .unset, .unset] [(.int (p0 &&& (64 : Int32)))]))) (fun _ zz => XS.iand X0.here hx rfl (hb hby at_84) rfl zz) ?_
  refine Gl.join (α := Int32) (P := fun b11 => b11 = 0 ∨ b11 = 1) (f := fun b11 => (T0.setTop (mkF m 93 #[.val (.int p0), .val (.int p1), .val (.int p2), .val (.int p3), .val (.int p4), .val (.int b5), .val (.int b6), .val (.int b7), .val (.int b8), .val (.int b9), .val (.int b10), .unset, .unset, .unset, .unset, .unset, .unset, .unset, .unset, .unset, .unset] [(.int b11)]))) ?_ ?_
  · intro Jb11
    by_cases q : (p0 &&& (64 : Int32)) = (0 : Int32)
    · refine Gl.st (U' := (T0.setTop (mkF m 92 #[.val (.int p0), .val (.int p1), .val (.int p2), .val (.int p3), .val (.int p4), .val (.int b5), .val (.int b6), .val (.int b7), .val (.int b8), .val (.int b9), .val (.int b10), .unset, .unset, .unset, .unset, .unset, .unset, .unset, .unset, .unset, .unset] []))) (fun _ zz => XS.ifYes X0.here hx rfl (pc0 := 85) (pc' := 92) rfl (hb hby at_85) rfl ((if0 _ _).trans (teq q).1) (by decide) (by decide) zz) ?_
      refine Gl.st (U' := (T0.setTop (mkF m 93 #[.val (.int p0), .val (.int p1), .val (.int p2), .val (.int p3), .val (.int p4), .val (.int b5), .val (.int b6), .val (.int b7), .val (.int b8), .val (.int b9), .val (.int b10), .unset, .unset, .unset, .unset, .unset, .unset, .unset, .unset, .unset, .unset] [(.int (0 : Int32))]))) (fun _ zz => XS.iconst X0.here hx rfl (hb hby at_92) zz) ?_
      exact Jb11 0 (Or.inl rfl)
    · refine Gl.st (U' := (T0.setTop (mkF m 88 #[.val (.int p0), .val (.int p1), .val (.int p2), .val (.int p3), .val (.int p4), .val (.int b5), .val (.int b6), .val (.int b7), .val (.int b8), .val (.int b9), .val (.int b10), .unset, .unset, .unset, .unset, .unset, .unset, .unset, .unset, .unset, .unset] []))) (fun _ zz => XS.ifNo X0.here hx rfl (hb hby at_85) rfl ((if0 _ _).trans (feq q).1) zz) ?_
      refine Gl.st (U' := (T0.setTop (mkF m 89 #[.val (.int p0), .val (.int p1), .val (.int p2), .val (.int p3), .val (.int p4), .val (.int b5), .val (.int b6), .val (.int b7), .val (.int b8), .val (.int b9), .val (.int b10), .unset, .unset, .unset, .unset, .unset, .unset, .unset, .unset, .unset, .unset] [(.int (1 : Int32))]))) (fun _ zz => XS.iconst X0.here hx rfl (hb hby at_88) zz) ?_
      refine Gl.st (U' := (T0.setTop (mkF m 93 #[.val (.int p0), .val (.int p1), .val (.int p2), .val (.int p3), .val (.int p4), .val (.int b5), .val (.int b6), .val (.int b7), .val (.int b8), .val (.int b9), .val (.int b10), .unset, .unset, .unset, .unset, .unset, .unset, .unset, .unset, .unset, .unset] [(.int (1 : Int32))]))) (fun _ zz => XS.goto X0.here hx rfl (pc0 := 89) (pc' := 93) rfl (hb hby at_89) (by decide) (by decide) zz) ?_
      exact Jb11 1 (Or.inr rfl)
  intro b11 hb11
  show Gl p e below _ (T0.setTop (mkF m 93 #[.val (.int p0), .val (.int p1), .val (.int p2), .val (.int p3), .val (.int p4), .val (.int b5), .val (.int b6), .val (.int b7), .val (.int b8), .val (.int b9), .val (.int b10), .unset, .unset, .unset, .unset, .unset, .unset, .unset, .unset, .unset, .unset] [(.int b11)]))
  refine Gl.st (U' := (T0.setTop (mkF m 95 #[.val (.int p0), .val (.int p1), .val (.int p2), .val (.int p3), .val (.int p4), .val (.int b5), .val (.int b6), .val (.int b7), .val (.int b8), .val (.int b9), .val (.int b10), .val (.int b11), .unset, .unset, .unset, .unset, .unset, .unset, .unset, .unset, .unset] []))) (fun _ zz => XS.istore X0.here hx rfl (hb hby at_93) rfl (l' := #[.val (.int p0), .val (.int p1), .val (.int p2), .val (.int p3), .val (.int p4), .val (.int b5), .val (.int b6), .val (.int b7), .val (.int b8), .val (.int b9), .val (.int b10), .val (.int b11), .unset, .unset, .unset, .unset, .unset, .unset, .unset, .unset, .unset]) rfl zz) ?_
  refine Gl.st (U' := (T0.setTop (mkF m 96 #[.val (.int p0), .val (.int p1), .val (.int p2), .val (.int p3), .val (.int p4), .val (.int b5), .val (.int b6), .val (.int b7), .val (.int b8), .val (.int b9), .val (.int b10), .val (.int b11), .unset, .unset, .unset, .unset, .unset, .unset, .unset, .unset, .unset] [(.int p1)]))) (fun _ zz => XS.iloadN X0.here hx rfl (hb hby at_95) rfl zz) ?_
  refine Gl.st (U' := (T0.setTop (mkF m 98 #[.val (.int p0), .val (.int p1), .val (.int p2), .val (.int p3), .val (.int p4), .val (.int b5), .val (.int b6), .val (.int b7), .val (.int b8), .val (.int b9), .val (.int b10), .val (.int b11), .unset, .unset, .unset, .unset, .unset, .unset, .unset, .unset, .unset] [(.int (2147483647 : Int32)), (.int p1)]))) (fun _ zz => Jvm.Stand.ldcI (g := (mkF m 96 #[.val (.int p0), .val (.int p1), .val (.int p2), .val (.int p3), .val (.int p4), .val (.int b5), .val (.int b6), .val (.int b7), .val (.int b8), .val (.int b9), .val (.int b10), .val (.int b11), .unset, .unset, .unset, .unset, .unset, .unset, .unset, .unset, .unset] [(.int p1)])) X0 hx hown (mvT hZ (hw _ (List.mem_of_getElem? (i := 0) rfl))) rfl (hb hby at_96) zz) ?_
  refine Gl.st (U' := (T0.setTop (mkF m 99 #[.val (.int p0), .val (.int p1), .val (.int p2), .val (.int p3), .val (.int p4), .val (.int b5), .val (.int b6), .val (.int b7), .val (.int b8), .val (.int b9), .val (.int b10), .val (.int b11), .unset, .unset, .unset, .unset, .unset, .unset, .unset, .unset, .unset] [(.int (p1 &&& (2147483647 : Int32)))]))) (fun _ zz => XS.iand X0.here hx rfl (hb hby at_98) rfl zz) ?_
  refine Gl.st (U' := (T0.setTop (mkF m 101 #[.val (.int p0), .val (.int p1), .val (.int p2), .val (.int p3), .val (.int p4), .val (.int b5), .val (.int b6), .val (.int b7), .val (.int b8), .val (.int b9), .val (.int b10), .val (.int b11), .unset, .unset, .unset, .unset, .unset, .unset, .unset, .unset, .unset] [(.int (13 : Int32)), (.int (p1 &&& (2147483647 : Int32)))]))) (fun _ zz => XS.bipush X0.here hx rfl (hb hby at_99) zz) ?_
  refine Gl.st (U' := (T0.setTop (mkF m 102 #[.val (.int p0), .val (.int p1), .val (.int p2), .val (.int p3), .val (.int p4), .val (.int b5), .val (.int b6), .val (.int b7), .val (.int b8), .val (.int b9), .val (.int b10), .val (.int b11), .unset, .unset, .unset, .unset, .unset, .unset, .unset, .unset, .unset] [(.int ((p1 &&& (2147483647 : Int32)) % (13 : Int32)))]))) (fun _ zz => iremM (g := (mkF m 101 #[.val (.int p0), .val (.int p1), .val (.int p2), .val (.int p3), .val (.int p4), .val (.int b5), .val (.int b6), .val (.int b7), .val (.int b8), .val (.int b9), .val (.int b10), .val (.int b11), .unset, .unset, .unset, .unset, .unset, .unset, .unset, .unset, .unset] [(.int (13 : Int32)), (.int (p1 &&& (2147483647 : Int32)))])) X0 hx rfl (hb hby at_101) rfl (by decide) zz) ?_
  have r1 := own_rng p1 13 (by decide)
  generalize ((p1 &&& (2147483647 : Int32)) % (13 : Int32)) = ta at r1 ⊢
  refine Gl.st (U' := (T0.setTop (mkF m 104 #[.val (.int p0), .val (.int p1), .val (.int p2), .val (.int p3), .val (.int p4), .val (.int b5), .val (.int b6), .val (.int b7), .val (.int b8), .val (.int b9), .val (.int b10), .val (.int b11), .val (.int ta), .unset, .unset, .unset, .unset, .unset, .unset, .unset, .unset] []))) (fun _ zz => XS.istore X0.here hx rfl (hb hby at_102) rfl (l' := #[.val (.int p0), .val (.int p1), .val (.int p2), .val (.int p3), .val (.int p4), .val (.int b5), .val (.int b6), .val (.int b7), .val (.int b8), .val (.int b9), .val (.int b10), .val (.int b11), .val (.int ta), .unset, .unset, .unset, .unset, .unset, .unset, .unset, .unset]) rfl zz) ?_
  refine Gl.st (U' := (T0.setTop (mkF m 105 #[.val (.int p0), .val (.int p1), .val (.int p2), .val (.int p3), .val (.int p4), .val (.int b5), .val (.int b6), .val (.int b7), .val (.int b8), .val (.int b9), .val (.int b10), .val (.int b11), .val (.int ta), .unset, .unset, .unset, .unset, .unset, .unset, .unset, .unset] [(.int p2)]))) (fun _ zz => XS.iloadN X0.here hx rfl (hb hby at_104) rfl zz) ?_
  refine Gl.st (U' := (T0.setTop (mkF m 107 #[.val (.int p0), .val (.int p1), .val (.int p2), .val (.int p3), .val (.int p4), .val (.int b5), .val (.int b6), .val (.int b7), .val (.int b8), .val (.int b9), .val (.int b10), .val (.int b11), .val (.int ta), .unset, .unset, .unset, .unset, .unset, .unset, .unset, .unset] [(.int (2147483647 : Int32)), (.int p2)]))) (fun _ zz => Jvm.Stand.ldcI (g := (mkF m 105 #[.val (.int p0), .val (.int p1), .val (.int p2), .val (.int p3), .val (.int p4), .val (.int b5), .val (.int b6), .val (.int b7), .val (.int b8), .val (.int b9), .val (.int b10), .val (.int b11), .val (.int ta), .unset, .unset, .unset, .unset, .unset, .unset, .unset, .unset] [(.int p2)])) X0 hx hown (mvT hZ (hw _ (List.mem_of_getElem? (i := 0) rfl))) rfl (hb hby at_105) zz) ?_
  refine Gl.st (U' := (T0.setTop (mkF m 108 #[.val (.int p0), .val (.int p1), .val (.int p2), .val (.int p3), .val (.int p4), .val (.int b5), .val (.int b6), .val (.int b7), .val (.int b8), .val (.int b9), .val (.int b10), .val (.int b11), .val (.int ta), .unset, .unset, .unset, .unset, .unset, .unset, .unset, .unset] [(.int (p2 &&& (2147483647 : Int32)))]))) (fun _ zz => XS.iand X0.here hx rfl (hb hby at_107) rfl zz) ?_
  refine Gl.st (U' := (T0.setTop (mkF m 110 #[.val (.int p0), .val (.int p1), .val (.int p2), .val (.int p3), .val (.int p4), .val (.int b5), .val (.int b6), .val (.int b7), .val (.int b8), .val (.int b9), .val (.int b10), .val (.int b11), .val (.int ta), .unset, .unset, .unset, .unset, .unset, .unset, .unset, .unset] [(.int (13 : Int32)), (.int (p2 &&& (2147483647 : Int32)))]))) (fun _ zz => XS.bipush X0.here hx rfl (hb hby at_108) zz) ?_
  refine Gl.st (U' := (T0.setTop (mkF m 111 #[.val (.int p0), .val (.int p1), .val (.int p2), .val (.int p3), .val (.int p4), .val (.int b5), .val (.int b6), .val (.int b7), .val (.int b8), .val (.int b9), .val (.int b10), .val (.int b11), .val (.int ta), .unset, .unset, .unset, .unset, .unset, .unset, .unset, .unset] [(.int ((p2 &&& (2147483647 : Int32)) % (13 : Int32)))]))) (fun _ zz => iremM (g := (mkF m 110 #[.val (.int p0), .val (.int p1), .val (.int p2), .val (.int p3), .val (.int p4), .val (.int b5), .val (.int b6), .val (.int b7), .val (.int b8), .val (.int b9), .val (.int b10), .val (.int b11), .val (.int ta), .unset, .unset, .unset, .unset, .unset, .unset, .unset, .unset] [(.int (13 : Int32)), (.int (p2 &&& (2147483647 : Int32)))])) X0 hx rfl (hb hby at_110) rfl (by decide) zz) ?_
  have r2 := own_rng p2 13 (by decide)
  generalize ((p2 &&& (2147483647 : Int32)) % (13 : Int32)) = tb at r2 ⊢
  refine Gl.st (U' := (T0.setTop (mkF m 113 #[.val (.int p0), .val (.int p1), .val (.int p2), .val (.int p3), .val (.int p4), .val (.int b5), .val (.int b6), .val (.int b7), .val (.int b8), .val (.int b9), .val (.int b10), .val (.int b11), .val (.int ta), .val (.int tb), .unset, .unset, .unset, .unset, .unset, .unset, .unset] []))) (fun _ zz => XS.istore X0.here hx rfl (hb hby at_111) rfl (l' := #[.val (.int p0), .val (.int p1), .val (.int p2), .val (.int p3), .val (.int p4), .val (.int b5), .val (.int b6), .val (.int b7), .val (.int b8), .val (.int b9), .val (.int b10), .val (.int b11), .val (.int ta), .val (.int tb), .unset, .unset, .unset, .unset, .unset, .unset, .unset]) rfl zz) ?_
  obtain ⟨Tt118, ht118, Xt118, et118, Et118, At118, Dt118, Mt118, stt118⟩ := newO X0 hx hZ hown (hw _ (List.mem_of_getElem? (i := 1) rfl)) (hw _ (List.mem_of_getElem? (i := 2) rfl)) (hw _ (List.mem_of_getElem? (i := 3) rfl)) e0 (g := (mkF m 113 #[.val (.int p0), .val (.int p1), .val (.int p2), .val (.int p3), .val (.int p4), .val (.int b5), .val (.int b6), .val (.int b7), .val (.int b8), .val (.int b9), .val (.int b10), .val (.int b11), .val (.int ta), .val (.int tb), .unset, .unset, .unset, .unset, .unset, .unset, .unset] [])) rfl (hb hby at_113) (by decide) (by decide)
  obtain ⟨at118, gt118⟩ : ∃ z, z = h0.size := ⟨_, rfl⟩
  rw [← gt118] at At118 Dt118 Mt118 stt118
  refine Gl.st (U' := (Tt118.setTop (mkF m 116 #[.val (.int p0), .val (.int p1), .val (.int p2), .val (.int p3), .val (.int p4), .val (.int b5), .val (.int b6), .val (.int b7), .val (.int b8), .val (.int b9), .val (.int b10), .val (.int b11), .val (.int ta), .val (.int tb), .unset, .unset, .unset, .unset, .unset, .unset, .unset] [(.ref at118)]))) stt118 ?_
  have OA := Old.ext O0 Et118
  have gaA : n0 ≤ at118 := by rw [gt118]; exact Nat.le_trans (Nat.le_of_eq O0.1.symm) O0.2.1
  refine Gl.st (U' := (Tt118.setTop (mkF m 117 #[.val (.int p0), .val (.int p1), .val (.int p2), .val (.int p3), .val (.int p4), .val (.int b5), .val (.int b6), .val (.int b7), .val (.int b8), .val (.int b9), .val (.int b10), .val (.int b11), .val (.int ta), .val (.int tb), .unset, .unset, .unset, .unset, .unset, .unset, .unset] [(.ref at118), (.ref at118)]))) (fun _ zz => XS.dup Xt118.here hx rfl (hb hby at_116) rfl rfl zz) ?_
  refine Gl.st (U' := (Tt118.setTop (mkF m 118 #[.val (.int p0), .val (.int p1), .val (.int p2), .val (.int p3), .val (.int p4), .val (.int b5), .val (.int b6), .val (.int b7), .val (.int b8), .val (.int b9), .val (.int b10), .val (.int b11), .val (.int ta), .val (.int tb), .unset, .unset, .unset, .unset, .unset, .unset, .unset] [.null, (.ref at118), (.ref at118)]))) (fun _ zz => XS.aconstNull Xt118.here hx rfl (hb hby at_117) zz) ?_
  refine Gl.st (U' := (Tt118.setTop (mkF m 120 #[.val (.int p0), .val (.int p1), .val (.int p2), .val (.int p3), .val (.int p4), .val (.int b5), .val (.int b6), .val (.int b7), .val (.int b8), .val (.int b9), .val (.int b10), .val (.int b11), .val (.int ta), .val (.int tb), .unset, .unset, .unset, .unset, .unset, .unset, .unset] [(.int ta), .null, (.ref at118), (.ref at118)]))) (fun _ zz => XS.iload Xt118.here hx rfl (hb hby at_118) rfl zz) ?_
  refine gCallS Xt118 hx hZ (y := (⟨"com/example/rungsight/rungsight/flow/VariableMayAliasPinLaw", "type", "(I)Lcom/example/rungsight/rungsight/types/IntegerType;"⟩ : MethodName)) hown (hw _ (List.mem_of_getElem? (i := 4) rfl)) (hw _ (List.mem_of_getElem? (i := 5) rfl)) (hw _ (List.mem_of_getElem? (i := 6) rfl)) (hw _ (List.mem_of_getElem? (i := 7) rfl)) (by decide) (own_type_con l Z a0 hw ht118 t0 t1 t2 t3 t4 t5 t6 t7 t8 t9 t10 t11 (own_S_ext OA.2 hS) ta) et118 (by decide) (W := 3) (by decide) (by decide) (by decide) (g := (mkF m 120 #[.val (.int p0), .val (.int p1), .val (.int p2), .val (.int p3), .val (.int p4), .val (.int b5), .val (.int b6), .val (.int b7), .val (.int b8), .val (.int b9), .val (.int b10), .val (.int b11), .val (.int ta), .val (.int tb), .unset, .unset, .unset, .unset, .unset, .unset, .unset] [(.int ta), .null, (.ref at118), (.ref at118)])) rfl (by rw [hml]; rfl) (argsL := [(.int ta)]) (rest := [.null, (.ref at118), (.ref at118)]) (lenOf own_pd1 rfl) rfl rfl (by show 2 * 0 + _ ≤ _; exact Nat.le_of_eq rfl) (hb hby at_120) ?_
  rintro _ Tt119 Lt119 Xt119 ⟨rfl, rfl, et119⟩
  show Gl p e below _ (Tt119.setTop (mkF m 123 #[.val (.int p0), .val (.int p1), .val (.int p2), .val (.int p3), .val (.int p4), .val (.int b5), .val (.int b6), .val (.int b7), .val (.int b8), .val (.int b9), .val (.int b10), .val (.int b11), .val (.int ta), .val (.int tb), .unset, .unset, .unset, .unset, .unset, .unset, .unset] [(own_type t0 t1 t2 t3 t4 t5 t6 t7 t8 t9 t10 t11 ta), .null, (.ref at118), (.ref at118)]))
  obtain ⟨vA, hvA⟩ : ∃ z, z = own_type t0 t1 t2 t3 t4 t5 t6 t7 t8 t9 t10 t11 ta := ⟨_, rfl⟩
  rw [← hvA]
  have hrA : vA.isRef = true := hvA ▸ own_type_ref t0 t1 t2 t3 t4 t5 t6 t7 t8 t9 t10 t11 ta
  refine Gl.st (U' := (Tt119.setTop (mkF m 125 #[.val (.int p0), .val (.int p1), .val (.int p2), .val (.int p3), .val (.int p4), .val (.int b5), .val (.int b6), .val (.int b7), .val (.int b8), .val (.int b9), .val (.int b10), .val (.int b11), .val (.int ta), .val (.int tb), .unset, .unset, .unset, .unset, .unset, .unset, .unset] [(.int p4), vA, .null, (.ref at118), (.ref at118)]))) (fun _ zz => XS.iload Xt119.here hx rfl (hb hby at_123) rfl zz) ?_
  refine Gl.st (U' := (Tt119.setTop (mkF m 126 #[.val (.int p0), .val (.int p1), .val (.int p2), .val (.int p3), .val (.int p4), .val (.int b5), .val (.int b6), .val (.int b7), .val (.int b8), .val (.int b9), .val (.int b10), .val (.int b11), .val (.int ta), .val (.int tb), .unset, .unset, .unset, .unset, .unset, .unset, .unset] [(.int p3), (.int p4), vA, .null, (.ref at118), (.ref at118)]))) (fun _ zz => XS.iloadN Xt119.here hx rfl (hb hby at_125) rfl zz) ?_
  refine gCallS Xt119 hx hZ (y := (⟨"com/example/rungsight/rungsight/flow/VariableMayAliasPinLaw", "origin", "(I)Lcom/example/rungsight/rungsight/flow/Variable$Origin;"⟩ : MethodName)) hown (hw _ (List.mem_of_getElem? (i := 11) rfl)) (hw _ (List.mem_of_getElem? (i := 12) rfl)) (hw _ (List.mem_of_getElem? (i := 6) rfl)) (hw _ (List.mem_of_getElem? (i := 13) rfl)) (by decide) (own_orig_con l Z a0 hw ht118 o0 o1 o2 o3 o4 (own_O_ext OA.2 hO) p3) et119 (by decide) (W := 5) (by decide) (by decide) (by decide) (g := (mkF m 126 #[.val (.int p0), .val (.int p1), .val (.int p2), .val (.int p3), .val (.int p4), .val (.int b5), .val (.int b6), .val (.int b7), .val (.int b8), .val (.int b9), .val (.int b10), .val (.int b11), .val (.int ta), .val (.int tb), .unset, .unset, .unset, .unset, .unset, .unset, .unset] [(.int p3), (.int p4), vA, .null, (.ref at118), (.ref at118)])) rfl (by rw [hml]; rfl) (argsL := [(.int p3)]) (rest := [(.int p4), vA, .null, (.ref at118), (.ref at118)]) (lenOf own_pd2 rfl) rfl rfl (by rcases ref_cases hrA with z | ⟨_, z⟩ <;> rw [z] <;> exact Nat.le_of_eq rfl) (hb hby at_126) ?_
  rintro _ Tt120 Lt120 Xt120 ⟨rA, rfl, rfl, et120⟩
  show Gl p e below _ (Tt120.setTop (mkF m 129 #[.val (.int p0), .val (.int p1), .val (.int p2), .val (.int p3), .val (.int p4), .val (.int b5), .val (.int b6), .val (.int b7), .val (.int b8), .val (.int b9), .val (.int b10), .val (.int b11), .val (.int ta), .val (.int tb), .unset, .unset, .unset, .unset, .unset, .unset, .unset] [(.ref rA), (.int p4), vA, .null, (.ref at118), (.ref at118)]))
  refine Gl.st (U' := (Tt120.setTop (mkF m 131 #[.val (.int p0), .val (.int p1), .val (.int p2), .val (.int p3), .val (.int p4), .val (.int b5), .val (.int b6), .val (.int b7), .val (.int b8), .val (.int b9), .val (.int b10), .val (.int b11), .val (.int ta), .val (.int tb), .unset, .unset, .unset, .unset, .unset, .unset, .unset] [(.int b5), (.ref rA), (.int p4), vA, .null, (.ref at118), (.ref at118)]))) (fun _ zz => XS.iload Xt120.here hx rfl (hb hby at_129) rfl zz) ?_
  refine Gl.st (U' := (Tt120.setTop (mkF m 133 #[.val (.int p0), .val (.int p1), .val (.int p2), .val (.int p3), .val (.int p4), .val (.int b5), .val (.int b6), .val (.int b7), .val (.int b8), .val (.int b9), .val (.int b10), .val (.int b11), .val (.int ta), .val (.int tb), .unset, .unset, .unset, .unset, .unset, .unset, .unset] [(.int b7), (.int b5), (.ref rA), (.int p4), vA, .null, (.ref at118), (.ref at118)]))) (fun _ zz => XS.iload Xt120.here hx rfl (hb hby at_131) rfl zz) ?_
  refine Gl.st (U' := (Tt120.setTop (mkF m 134 #[.val (.int p0), .val (.int p1), .val (.int p2), .val (.int p3), .val (.int p4), .val (.int b5), .val (.int b6), .val (.int b7), .val (.int b8), .val (.int b9), .val (.int b10), .val (.int b11), .val (.int ta), .val (.int tb), .unset, .unset, .unset, .unset, .unset, .unset, .unset] [(.int p0), (.int b7), (.int b5), (.ref rA), (.int p4), vA, .null, (.ref at118), (.ref at118)]))) (fun _ zz => XS.iloadN Xt120.here hx rfl (hb hby at_133) rfl zz) ?_
  refine Gl.st (U' := (Tt120.setTop (mkF m 137 #[.val (.int p0), .val (.int p1), .val (.int p2), .val (.int p3), .val (.int p4), .val (.int b5), .val (.int b6), .val (.int b7), .val (.int b8), .val (.int b9), .val (.int b10), .val (.int b11), .val (.int ta), .val (.int tb), .unset, .unset, .unset, .unset, .unset, .unset, .unset] [(.int (128 : Int32)), (.int p0), (.int b7), (.int b5), (.ref rA), (.int p4), vA, .null, (.ref at118), (.ref at118)]))) (fun _ zz => XS.sipush Xt120.here hx rfl (hb hby at_134) zz) ?_
  refine Gl.st (U' := (Tt120.setTop (mkF m 138 #[.val (.int p0), .val (.int p1), .val (.int p2), .val (.int p3), .val (.int p4), .val (.int b5), .val (.int b6), .val (.int b7), .val (.int b8), .val (.int b9), .val (.int b10), .val (.int b11), .val (.int ta), .val (.int tb), .unset, .unset, .unset, .unset, .unset, .unset, .unset] [(.int (p0 &&& (128 : Int32))), (.int b7), (.int b5), (.ref rA), (.int p4), vA, .null, (.ref at118), (.ref at118)]))) (fun _ zz => XS.iand Xt120.here hx rfl (hb hby at_137) rfl zz) ?_
  refine Gl.join (α := Int32) (P := fun c1 => c1 = 0 ∨ c1 = 1) (f := fun c1 => (Tt120.setTop (mkF m 146 #[.val (.int p0), .val (.int p1), .val (.int p2), .val (.int p3), .val (.int p4), .val (.int b5), .val (.int b6), .val (.int b7), .val (.int b8), .val (.int b9), .val (.int b10), .val (.int b11), .val (.int ta), .val (.int tb), .unset, .unset, .unset, .unset, .unset, .unset, .unset] [(.int c1), (.int b7), (.int b5), (.ref rA), (.int p4), vA, .null, (.ref at118), (.ref at118)]))) ?_ ?_
  · intro Jc1
    by_cases q : (p0 &&& (128 : Int32)) = (0 : Int32)
    · refine Gl.st (U' := (Tt120.setTop (mkF m 145 #[.val (.int p0), .val (.int p1), .val (.int p2), .val (.int p3), .val (.int p4), .val (.int b5), .val (.int b6), .val (.int b7), .val (.int b8), .val (.int b9), .val (.int b10), .val (.int b11), .val (.int ta), .val (.int tb), .unset, .unset, .unset, .unset, .unset, .unset, .unset] [(.int b7), (.int b5), (.ref rA), (.int p4), vA, .null, (.ref at118), (.ref at118)]))) (fun _ zz => XS.ifYes Xt120.here hx rfl (pc0 := 138) (pc' := 145) rfl (hb hby at_138) rfl ((if0 _ _).trans (teq q).1) (by decide) (by decide) zz) ?_
      refine Gl.st (U' := (Tt120.setTop (mkF m 146 #[.val (.int p0), .val (.int p1), .val (.int p2), .val (.int p3), .val (.int p4), .val (.int b5), .val (.int b6), .val (.int b7), .val (.int b8), .val (.int b9), .val (.int b10), .val (.int b11), .val (.int ta), .val (.int tb), .unset, .unset, .unset, .unset, .unset, .unset, .unset] [(.int (0 : Int32)), (.int b7), (.int b5), (.ref rA), (.int p4), vA, .null, (.ref at118), (.ref at118)]))) (fun _ zz => XS.iconst Xt120.here hx rfl (hb hby at_145) zz) ?_
      exact Jc1 0 (Or.inl rfl)
    · refine Gl.st (U' := (Tt120.setTop (mkF m 141 #[.val (.int p0), .val (.int p1), .val (.int p2), .val (.int p3), .val (.int p4), .val (.int b5), .val (.int b6), .val (.int b7), .val (.int b8), .val (.int b9), .val (.int b10), .val (.int b11), .val (.int ta), .val (.int tb), .unset, .unset, .unset, .unset, .unset, .unset, .unset] [(.int b7), (.int b5), (.ref rA), (.int p4), vA, .null, (.ref at118), (.ref at118)]))) (fun _ zz => XS.ifNo Xt120.here hx rfl (hb hby at_138) rfl ((if0 _ _).trans (feq q).1) zz) ?_
      refine Gl.st (U' := (Tt120.setTop (mkF m 142 #[.val (.int p0), .val (.int p1), .val (.int p2), .val (.int p3), .val (.int p4), .val (.int b5), .val (.int b6), .val (.int b7), .val (.int b8), .val (.int b9), .val (.int b10), .val (.int b11), .val (.int ta), .val (.int tb), .unset, .unset, .unset, .unset, .unset, .unset, .unset] [(.int (1 : Int32)), (.int b7), (.int b5), (.ref rA), (.int p4), vA, .null, (.ref at118), (.ref at118)]))) (fun _ zz => XS.iconst Xt120.here hx rfl (hb hby at_141) zz) ?_
      refine Gl.st (U' := (Tt120.setTop (mkF m 146 #[.val (.int p0), .val (.int p1), .val (.int p2), .val (.int p3), .val (.int p4), .val (.int b5), .val (.int b6), .val (.int b7), .val (.int b8), .val (.int b9), .val (.int b10), .val (.int b11), .val (.int ta), .val (.int tb), .unset, .unset, .unset, .unset, .unset, .unset, .unset] [(.int (1 : Int32)), (.int b7), (.int b5), (.ref rA), (.int p4), vA, .null, (.ref at118), (.ref at118)]))) (fun _ zz => XS.goto Xt120.here hx rfl (pc0 := 142) (pc' := 146) rfl (hb hby at_142) (by decide) (by decide) zz) ?_
      exact Jc1 1 (Or.inr rfl)
  intro c1 hc1
  show Gl p e below _ (Tt120.setTop (mkF m 146 #[.val (.int p0), .val (.int p1), .val (.int p2), .val (.int p3), .val (.int p4), .val (.int b5), .val (.int b6), .val (.int b7), .val (.int b8), .val (.int b9), .val (.int b10), .val (.int b11), .val (.int ta), .val (.int tb), .unset, .unset, .unset, .unset, .unset, .unset, .unset] [(.int c1), (.int b7), (.int b5), (.ref rA), (.int p4), vA, .null, (.ref at118), (.ref at118)]))
  refine Gl.st (U' := (Tt120.setTop (mkF m 147 #[.val (.int p0), .val (.int p1), .val (.int p2), .val (.int p3), .val (.int p4), .val (.int b5), .val (.int b6), .val (.int b7), .val (.int b8), .val (.int b9), .val (.int b10), .val (.int b11), .val (.int ta), .val (.int tb), .unset, .unset, .unset, .unset, .unset, .unset, .unset] [(.int p0), (.int c1), (.int b7), (.int b5), (.ref rA), (.int p4), vA, .null, (.ref at118), (.ref at118)]))) (fun _ zz => XS.iloadN Xt120.here hx rfl (hb hby at_146) rfl zz) ?_
  refine Gl.st (U' := (Tt120.setTop (mkF m 150 #[.val (.int p0), .val (.int p1), .val (.int p2), .val (.int p3), .val (.int p4), .val (.int b5), .val (.int b6), .val (.int b7), .val (.int b8), .val (.int b9), .val (.int b10), .val (.int b11), .val (.int ta), .val (.int tb), .unset, .unset, .unset, .unset, .unset, .unset, .unset] [(.int (256 : Int32)), (.int p0), (.int c1), (.int b7), (.int b5), (.ref rA), (.int p4), vA, .null, (.ref at118), (.ref at118)]))) (fun _ zz => XS.sipush Xt120.here hx rfl (hb hby at_147) zz) ?_
  refine Gl.st (U' := (Tt120.setTop (mkF m 151 #[.val (.int p0), .val (.int p1), .val (.int p2), .val (.int p3), .val (.int p4), .val (.int b5), .val (.int b6), .val (.int b7), .val (.int b8), .val (.int b9), .val (.int b10), .val (.int b11), .val (.int ta), .val (.int tb), .unset, .unset, .unset, .unset, .unset, .unset, .unset] [(.int (p0 &&& (256 : Int32))), (.int c1), (.int b7), (.int b5), (.ref rA), (.int p4), vA, .null, (.ref at118), (.ref at118)]))) (fun _ zz => XS.iand Xt120.here hx rfl (hb hby at_150) rfl zz) ?_
  refine Gl.join (α := Int32) (P := fun c2 => c2 = 0 ∨ c2 = 1) (f := fun c2 => (Tt120.setTop (mkF m 159 #[.val (.int p0), .val (.int p1), .val (.int p2), .val (.int p3), .val (.int p4), .val (.int b5), .val (.int b6), .val (.int b7), .val (.int b8), .val (.int b9), .val (.int b10), .val (.int b11), .val (.int ta), .val (.int tb), .unset, .unset, .unset, .unset, .unset, .unset, .unset] [(.int c2), (.int c1), (.int b7), (.int b5), (.ref rA), (.int p4), vA, .null, (.ref at118), (.ref at118)]))) ?_ ?_
  · intro Jc2
    by_cases q : (p0 &&& (256 : Int32)) = (0 : Int32)
    · refine Gl.st (U' := (Tt120.setTop (mkF m 158 #[.val (.int p0), .val (.int p1), .val (.int p2), .val (.int p3), .val (.int p4), .val (.int b5), .val (.int b6), .val (.int b7), .val (.int b8), .val (.int b9), .val (.int b10), .val (.int b11), .val (.int ta), .val (.int tb), .unset, .unset, .unset, .unset, .unset, .unset, .unset] [(.int c1), (.int b7), (.int b5), (.ref rA), (.int p4), vA, .null, (.ref at118), (.ref at118)]))) (fun _ zz => XS.ifYes Xt120.here hx rfl (pc0 := 151) (pc' := 158) rfl (hb hby at_151) rfl ((if0 _ _).trans (teq q).1) (by decide) (by decide) zz) ?_
      refine Gl.st (U' := (Tt120.setTop (mkF m 159 #[.val (.int p0), .val (.int p1), .val (.int p2), .val (.int p3), .val (.int p4), .val (.int b5), .val (.int b6), .val (.int b7), .val (.int b8), .val (.int b9), .val (.int b10), .val (.int b11), .val (.int ta), .val (.int tb), .unset, .unset, .unset, .unset, .unset, .unset, .unset] [(.int (0 : Int32)), (.int c1), (.int b7), (.int b5), (.ref rA), (.int p4), vA, .null, (.ref at118), (.ref at118)]))) (fun _ zz => XS.iconst Xt120.here hx rfl (hb hby at_158) zz) ?_
      exact Jc2 0 (Or.inl rfl)
    · refine Gl.st (U' := (Tt120.setTop (mkF m 154 #[.val (.int p0), .val (.int p1), .val (.int p2), .val (.int p3), .val (.int p4), .val (.int b5), .val (.int b6), .val (.int b7), .val (.int b8), .val (.int b9), .val (.int b10), .val (.int b11), .val (.int ta), .val (.int tb), .unset, .unset, .unset, .unset, .unset, .unset, .unset] [(.int c1), (.int b7), (.int b5), (.ref rA), (.int p4), vA, .null, (.ref at118), (.ref at118)]))) (fun _ zz => XS.ifNo Xt120.here hx rfl (hb hby at_151) rfl ((if0 _ _).trans (feq q).1) zz) ?_
      refine Gl.st (U' := (Tt120.setTop (mkF m 155 #[.val (.int p0), .val (.int p1), .val (.int p2), .val (.int p3), .val (.int p4), .val (.int b5), .val (.int b6), .val (.int b7), .val (.int b8), .val (.int b9), .val (.int b10), .val (.int b11), .val (.int ta), .val (.int tb), .unset, .unset, .unset, .unset, .unset, .unset, .unset] [(.int (1 : Int32)), (.int c1), (.int b7), (.int b5), (.ref rA), (.int p4), vA, .null, (.ref at118), (.ref at118)]))) (fun _ zz => XS.iconst Xt120.here hx rfl (hb hby at_154) zz) ?_
      refine Gl.st (U' := (Tt120.setTop (mkF m 159 #[.val (.int p0), .val (.int p1), .val (.int p2), .val (.int p3), .val (.int p4), .val (.int b5), .val (.int b6), .val (.int b7), .val (.int b8), .val (.int b9), .val (.int b10), .val (.int b11), .val (.int ta), .val (.int tb), .unset, .unset, .unset, .unset, .unset, .unset, .unset] [(.int (1 : Int32)), (.int c1), (.int b7), (.int b5), (.ref rA), (.int p4), vA, .null, (.ref at118), (.ref at118)]))) (fun _ zz => XS.goto Xt120.here hx rfl (pc0 := 155) (pc' := 159) rfl (hb hby at_155) (by decide) (by decide) zz) ?_
      exact Jc2 1 (Or.inr rfl)
  intro c2 hc2
  show Gl p e below _ (Tt120.setTop (mkF m 159 #[.val (.int p0), .val (.int p1), .val (.int p2), .val (.int p3), .val (.int p4), .val (.int b5), .val (.int b6), .val (.int b7), .val (.int b8), .val (.int b9), .val (.int b10), .val (.int b11), .val (.int ta), .val (.int tb), .unset, .unset, .unset, .unset, .unset, .unset, .unset] [(.int c2), (.int c1), (.int b7), (.int b5), (.ref rA), (.int p4), vA, .null, (.ref at118), (.ref at118)]))
  refine Gl.st (U' := (Tt120.setTop (mkF m 160 #[.val (.int p0), .val (.int p1), .val (.int p2), .val (.int p3), .val (.int p4), .val (.int b5), .val (.int b6), .val (.int b7), .val (.int b8), .val (.int b9), .val (.int b10), .val (.int b11), .val (.int ta), .val (.int tb), .unset, .unset, .unset, .unset, .unset, .unset, .unset] [(.int p0), (.int c2), (.int c1), (.int b7), (.int b5), (.ref rA), (.int p4), vA, .null, (.ref at118), (.ref at118)]))) (fun _ zz => XS.iloadN Xt120.here hx rfl (hb hby at_159) rfl zz) ?_
  refine Gl.st (U' := (Tt120.setTop (mkF m 163 #[.val (.int p0), .val (.int p1), .val (.int p2), .val (.int p3), .val (.int p4), .val (.int b5), .val (.int b6), .val (.int b7), .val (.int b8), .val (.int b9), .val (.int b10), .val (.int b11), .val (.int ta), .val (.int tb), .unset, .unset, .unset, .unset, .unset, .unset, .unset] [(.int (512 : Int32)), (.int p0), (.int c2), (.int c1), (.int b7), (.int b5), (.ref rA), (.int p4), vA, .null, (.ref at118), (.ref at118)]))) (fun _ zz => XS.sipush Xt120.here hx rfl (hb hby at_160) zz) ?_
  refine Gl.st (U' := (Tt120.setTop (mkF m 164 #[.val (.int p0), .val (.int p1), .val (.int p2), .val (.int p3), .val (.int p4), .val (.int b5), .val (.int b6), .val (.int b7), .val (.int b8), .val (.int b9), .val (.int b10), .val (.int b11), .val (.int ta), .val (.int tb), .unset, .unset, .unset, .unset, .unset, .unset, .unset] [(.int (p0 &&& (512 : Int32))), (.int c2), (.int c1), (.int b7), (.int b5), (.ref rA), (.int p4), vA, .null, (.ref at118), (.ref at118)]))) (fun _ zz => XS.iand Xt120.here hx rfl (hb hby at_163) rfl zz) ?_
  refine Gl.join (α := Int32) (P := fun c3 => c3 = 0 ∨ c3 = 1) (f := fun c3 => (Tt120.setTop (mkF m 172 #[.val (.int p0), .val (.int p1), .val (.int p2), .val (.int p3), .val (.int p4), .val (.int b5), .val (.int b6), .val (.int b7), .val (.int b8), .val (.int b9), .val (.int b10), .val (.int b11), .val (.int ta), .val (.int tb), .unset, .unset, .unset, .unset, .unset, .unset, .unset] [(.int c3), (.int c2), (.int c1), (.int b7), (.int b5), (.ref rA), (.int p4), vA, .null, (.ref at118), (.ref at118)]))) ?_ ?_
  · intro Jc3
    by_cases q : (p0 &&& (512 : Int32)) = (0 : Int32)
    · refine Gl.st (U' := (Tt120.setTop (mkF m 171 #[.val (.int p0), .val (.int p1), .val (.int p2), .val (.int p3), .val (.int p4), .val (.int b5), .val (.int b6), .val (.int b7), .val (.int b8), .val (.int b9), .val (.int b10), .val (.int b11), .val (.int ta), .val (.int tb), .unset, .unset, .unset, .unset, .unset, .unset, .unset] [(.int c2), (.int c1), (.int b7), (.int b5), (.ref rA), (.int p4), vA, .null, (.ref at118), (.ref at118)]))) (fun _ zz => XS.ifYes Xt120.here hx rfl (pc0 := 164) (pc' := 171) rfl (hb hby at_164) rfl ((if0 _ _).trans (teq q).1) (by decide) (by decide) zz) ?_
      refine Gl.st (U' := (Tt120.setTop (mkF m 172 #[.val (.int p0), .val (.int p1), .val (.int p2), .val (.int p3), .val (.int p4), .val (.int b5), .val (.int b6), .val (.int b7), .val (.int b8), .val (.int b9), .val (.int b10), .val (.int b11), .val (.int ta), .val (.int tb), .unset, .unset, .unset, .unset, .unset, .unset, .unset] [(.int (0 : Int32)), (.int c2), (.int c1), (.int b7), (.int b5), (.ref rA), (.int p4), vA, .null, (.ref at118), (.ref at118)]))) (fun _ zz => XS.iconst Xt120.here hx rfl (hb hby at_171) zz) ?_
      exact Jc3 0 (Or.inl rfl)
    · refine Gl.st (U' := (Tt120.setTop (mkF m 167 #[.val (.int p0), .val (.int p1), .val (.int p2), .val (.int p3), .val (.int p4), .val (.int b5), .val (.int b6), .val (.int b7), .val (.int b8), .val (.int b9), .val (.int b10), .val (.int b11), .val (.int ta), .val (.int tb), .unset, .unset, .unset, .unset, .unset, .unset, .unset] [(.int c2), (.int c1), (.int b7), (.int b5), (.ref rA), (.int p4), vA, .null, (.ref at118), (.ref at118)]))) (fun _ zz => XS.ifNo Xt120.here hx rfl (hb hby at_164) rfl ((if0 _ _).trans (feq q).1) zz) ?_
      refine Gl.st (U' := (Tt120.setTop (mkF m 168 #[.val (.int p0), .val (.int p1), .val (.int p2), .val (.int p3), .val (.int p4), .val (.int b5), .val (.int b6), .val (.int b7), .val (.int b8), .val (.int b9), .val (.int b10), .val (.int b11), .val (.int ta), .val (.int tb), .unset, .unset, .unset, .unset, .unset, .unset, .unset] [(.int (1 : Int32)), (.int c2), (.int c1), (.int b7), (.int b5), (.ref rA), (.int p4), vA, .null, (.ref at118), (.ref at118)]))) (fun _ zz => XS.iconst Xt120.here hx rfl (hb hby at_167) zz) ?_
      refine Gl.st (U' := (Tt120.setTop (mkF m 172 #[.val (.int p0), .val (.int p1), .val (.int p2), .val (.int p3), .val (.int p4), .val (.int b5), .val (.int b6), .val (.int b7), .val (.int b8), .val (.int b9), .val (.int b10), .val (.int b11), .val (.int ta), .val (.int tb), .unset, .unset, .unset, .unset, .unset, .unset, .unset] [(.int (1 : Int32)), (.int c2), (.int c1), (.int b7), (.int b5), (.ref rA), (.int p4), vA, .null, (.ref at118), (.ref at118)]))) (fun _ zz => XS.goto Xt120.here hx rfl (pc0 := 168) (pc' := 172) rfl (hb hby at_168) (by decide) (by decide) zz) ?_
      exact Jc3 1 (Or.inr rfl)
  intro c3 hc3
  show Gl p e below _ (Tt120.setTop (mkF m 172 #[.val (.int p0), .val (.int p1), .val (.int p2), .val (.int p3), .val (.int p4), .val (.int b5), .val (.int b6), .val (.int b7), .val (.int b8), .val (.int b9), .val (.int b10), .val (.int b11), .val (.int ta), .val (.int tb), .unset, .unset, .unset, .unset, .unset, .unset, .unset] [(.int c3), (.int c2), (.int c1), (.int b7), (.int b5), (.ref rA), (.int p4), vA, .null, (.ref at118), (.ref at118)]))
  refine Gl.st (U' := (Tt120.setTop (mkF m 173 #[.val (.int p0), .val (.int p1), .val (.int p2), .val (.int p3), .val (.int p4), .val (.int b5), .val (.int b6), .val (.int b7), .val (.int b8), .val (.int b9), .val (.int b10), .val (.int b11), .val (.int ta), .val (.int tb), .unset, .unset, .unset, .unset, .unset, .unset, .unset] [.null, (.int c3), (.int c2), (.int c1), (.int b7), (.int b5), (.ref rA), (.int p4), vA, .null, (.ref at118), (.ref at118)]))) (fun _ zz => XS.aconstNull Xt120.here hx rfl (hb hby at_172) zz) ?_
  refine gCallI Xt120 hx hZ (y := site_173) rfl hown (hw _ (List.mem_of_getElem? (i := 17) rfl)) (hw _ (List.mem_of_getElem? (i := 18) rfl)) (hw _ (List.mem_of_getElem? (i := 3) rfl)) (hw _ (List.mem_of_getElem? (i := 19) rfl)) (by decide) (own_init_con l Z a0 hw ht118 n0 at118 gaA At118 (own_K_new Mt118) vA hrA p4 rA b5 b7 c1 c2 c3 hb5 hb7 hc1 hc2 hc3) et120 (by decide) (W := 1) (by decide) (by decide) (by decide) (g := (mkF m 173 #[.val (.int p0), .val (.int p1), .val (.int p2), .val (.int p3), .val (.int p4), .val (.int b5), .val (.int b6), .val (.int b7), .val (.int b8), .val (.int b9), .val (.int b10), .val (.int b11), .val (.int ta), .val (.int tb), .unset, .unset, .unset, .unset, .unset, .unset, .unset] [.null, (.int c3), (.int c2), (.int c1), (.int b7), (.int b5), (.ref rA), (.int p4), vA, .null, (.ref at118), (.ref at118)])) rfl (by rw [hml]; rfl) (argsL := [.null, vA, (.int p4), (.ref rA), (.int b5), (.int b7), (.int c1), (.int c2), (.int c3), .null]) (rest := [(.ref at118)]) (own_lenOf own_pd3 rfl) rfl rfl (by show 2 * 0 + _ ≤ _; exact Nat.le_of_eq rfl) (hb hby at_173) ?_
  rintro _ Tt121 Lt121 Xt121 ⟨rfl, Nt121, Pt121, Vt121⟩
  show Gl p e below _ (Tt121.setTop (mkF m 176 #[.val (.int p0), .val (.int p1), .val (.int p2), .val (.int p3), .val (.int p4), .val (.int b5), .val (.int b6), .val (.int b7), .val (.int b8), .val (.int b9), .val (.int b10), .val (.int b11), .val (.int ta), .val (.int tb), .unset, .unset, .unset, .unset, .unset, .unset, .unset] [(.ref at118)]))
  have NA := Fr.app N0 Nt121
  have OAx := Old.keep OA Pt121 (fun x hx => by rw [List.mem_singleton.mp hx]; exact gaA)
  refine Gl.st (U' := (Tt121.setTop (mkF m 178 #[.val (.int p0), .val (.int p1), .val (.int p2), .val (.int p3), .val (.int p4), .val (.int b5), .val (.int b6), .val (.int b7), .val (.int b8), .val (.int b9), .val (.int b10), .val (.int b11), .val (.int ta), .val (.int tb), .val (.ref at118), .unset, .unset, .unset, .unset, .unset, .unset] []))) (fun _ zz => XS.astore Xt121.here hx rfl (hb hby at_176) rfl rfl (l' := #[.val (.int p0), .val (.int p1), .val (.int p2), .val (.int p3), .val (.int p4), .val (.int b5), .val (.int b6), .val (.int b7), .val (.int b8), .val (.int b9), .val (.int b10), .val (.int b11), .val (.int ta), .val (.int tb), .val (.ref at118), .unset, .unset, .unset, .unset, .unset, .unset]) rfl zz) ?_
  refine Gl.st (U' := (Tt121.setTop (mkF m 180 #[.val (.int p0), .val (.int p1), .val (.int p2), .val (.int p3), .val (.int p4), .val (.int b5), .val (.int b6), .val (.int b7), .val (.int b8), .val (.int b9), .val (.int b10), .val (.int b11), .val (.int ta), .val (.int tb), .val (.ref at118), .unset, .unset, .unset, .unset, .unset, .unset] [(.ref at118)]))) (fun _ zz => XS.aload Xt121.here hx rfl (hb hby at_178) rfl rfl zz) ?_
  refine Gl.st (U' := (Tt121.setTop (mkF m 182 #[.val (.int p0), .val (.int p1), .val (.int p2), .val (.int p3), .val (.int p4), .val (.int b5), .val (.int b6), .val (.int b7), .val (.int b8), .val (.int b9), .val (.int b10), .val (.int b11), .val (.int ta), .val (.int tb), .val (.ref at118), .val (.ref at118), .unset, .unset, .unset, .unset, .unset] []))) (fun _ zz => XS.astore Xt121.here hx rfl (hb hby at_180) rfl rfl (l' := #[.val (.int p0), .val (.int p1), .val (.int p2), .val (.int p3), .val (.int p4), .val (.int b5), .val (.int b6), .val (.int b7), .val (.int b8), .val (.int b9), .val (.int b10), .val (.int b11), .val (.int ta), .val (.int tb), .val (.ref at118), .val (.ref at118), .unset, .unset, .unset, .unset, .unset]) rfl zz) ?_
  refine Gl.st (U' := (Tt121.setTop (mkF m 184 #[.val (.int p0), .val (.int p1), .val (.int p2), .val (.int p3), .val (.int p4), .val (.int b5), .val (.int b6), .val (.int b7), .val (.int b8), .val (.int b9), .val (.int b10), .val (.int b11), .val (.int ta), .val (.int tb), .val (.ref at118), .val (.ref at118), .unset, .unset, .unset, .unset, .unset] [(.int b9)]))) (fun _ zz => XS.iload Xt121.here hx rfl (hb hby at_182) rfl zz) ?_
  by_cases qself : b9 = (0 : Int32)
  · refine Gl.st (U' := (Tt121.setTop (mkF m 187 #[.val (.int p0), .val (.int p1), .val (.int p2), .val (.int p3), .val (.int p4), .val (.int b5), .val (.int b6), .val (.int b7), .val (.int b8), .val (.int b9), .val (.int b10), .val (.int b11), .val (.int ta), .val (.int tb), .val (.ref at118), .val (.ref at118), .unset, .unset, .unset, .unset, .unset] []))) (fun _ zz => XS.ifNo Xt121.here hx rfl (hb hby at_184) rfl ((if0 _ _).trans (teq qself).2) zz) ?_
    obtain ⟨Tt122, ht122, Xt122, et122, Et122, At122, Dt122, Mt122, stt122⟩ := newO Xt121 hx hZ hown (hw _ (List.mem_of_getElem? (i := 1) rfl)) (hw _ (List.mem_of_getElem? (i := 2) rfl)) (hw _ (List.mem_of_getElem? (i := 3) rfl)) (rfl : Tt121.heap = Tt121.heap) (g := (mkF m 187 #[.val (.int p0), .val (.int p1), .val (.int p2), .val (.int p3), .val (.int p4), .val (.int b5), .val (.int b6), .val (.int b7), .val (.int b8), .val (.int b9), .val (.int b10), .val (.int b11), .val (.int ta), .val (.int tb), .val (.ref at118), .val (.ref at118), .unset, .unset, .unset, .unset, .unset] [])) rfl (hb hby at_187) (by decide) (by decide)
    obtain ⟨at122, gt122⟩ : ∃ z, z = Tt121.heap.size := ⟨_, rfl⟩
    rw [← gt122] at At122 Dt122 Mt122 stt122
    refine Gl.st (U' := (Tt122.setTop (mkF m 190 #[.val (.int p0), .val (.int p1), .val (.int p2), .val (.int p3), .val (.int p4), .val (.int b5), .val (.int b6), .val (.int b7), .val (.int b8), .val (.int b9), .val (.int b10), .val (.int b11), .val (.int ta), .val (.int tb), .val (.ref at118), .val (.ref at118), .unset, .unset, .unset, .unset, .unset] [(.ref at122)]))) stt122 ?_
    have OB := Old.ext OAx Et122
    have gaB : n0 ≤ at122 := by rw [gt122]; exact Nat.le_trans (Nat.le_of_eq OAx.1.symm) OAx.2.1
    refine Gl.st (U' := (Tt122.setTop (mkF m 191 #[.val (.int p0), .val (.int p1), .val (.int p2), .val (.int p3), .val (.int p4), .val (.int b5), .val (.int b6), .val (.int b7), .val (.int b8), .val (.int b9), .val (.int b10), .val (.int b11), .val (.int ta), .val (.int tb), .val (.ref at118), .val (.ref at118), .unset, .unset, .unset, .unset, .unset] [(.ref at122), (.ref at122)]))) (fun _ zz => XS.dup Xt122.here hx rfl (hb hby at_190) rfl rfl zz) ?_
    refine Gl.st (U' := (Tt122.setTop (mkF m 192 #[.val (.int p0), .val (.int p1), .val (.int p2), .val (.int p3), .val (.int p4), .val (.int b5), .val (.int b6), .val (.int b7), .val (.int b8), .val (.int b9), .val (.int b10), .val (.int b11), .val (.int ta), .val (.int tb), .val (.ref at118), .val (.ref at118), .unset, .unset, .unset, .unset, .unset] [.null, (.ref at122), (.ref at122)]))) (fun _ zz => XS.aconstNull Xt122.here hx rfl (hb hby at_191) zz) ?_
    refine Gl.st (U' := (Tt122.setTop (mkF m 194 #[.val (.int p0), .val (.int p1), .val (.int p2), .val (.int p3), .val (.int p4), .val (.int b5), .val (.int b6), .val (.int b7), .val (.int b8), .val (.int b9), .val (.int b10), .val (.int b11), .val (.int ta), .val (.int tb), .val (.ref at118), .val (.ref at118), .unset, .unset, .unset, .unset, .unset] [(.int tb), .null, (.ref at122), (.ref at122)]))) (fun _ zz => XS.iload Xt122.here hx rfl (hb hby at_192) rfl zz) ?_
    refine gCallS Xt122 hx hZ (y := (⟨"com/example/rungsight/rungsight/flow/VariableMayAliasPinLaw", "type", "(I)Lcom/example/rungsight/rungsight/types/IntegerType;"⟩ : MethodName)) hown (hw _ (List.mem_of_getElem? (i := 4) rfl)) (hw _ (List.mem_of_getElem? (i := 5) rfl)) (hw _ (List.mem_of_getElem? (i := 6) rfl)) (hw _ (List.mem_of_getElem? (i := 7) rfl)) (by decide) (own_type_con l Z a0 hw ht122 t0 t1 t2 t3 t4 t5 t6 t7 t8 t9 t10 t11 (own_S_ext OB.2 hS) tb) et122 (by decide) (W := 3) (by decide) (by decide) (by decide) (g := (mkF m 194 #[.val (.int p0), .val (.int p1), .val (.int p2), .val (.int p3), .val (.int p4), .val (.int b5), .val (.int b6), .val (.int b7), .val (.int b8), .val (.int b9), .val (.int b10), .val (.int b11), .val (.int ta), .val (.int tb), .val (.ref at118), .val (.ref at118), .unset, .unset, .unset, .unset, .unset] [(.int tb), .null, (.ref at122), (.ref at122)])) rfl (by rw [hml]; rfl) (argsL := [(.int tb)]) (rest := [.null, (.ref at122), (.ref at122)]) (lenOf own_pd1 rfl) rfl rfl (by show 2 * 0 + _ ≤ _; exact Nat.le_of_eq rfl) (hb hby at_194) ?_
    rintro _ Tt123 Lt123 Xt123 ⟨rfl, rfl, et123⟩
    show Gl p e below _ (Tt123.setTop (mkF m 197 #[.val (.int p0), .val (.int p1), .val (.int p2), .val (.int p3), .val (.int p4), .val (.int b5), .val (.int b6), .val (.int b7), .val (.int b8), .val (.int b9), .val (.int b10), .val (.int b11), .val (.int ta), .val (.int tb), .val (.ref at118), .val (.ref at118), .unset, .unset, .unset, .unset, .unset] [(own_type t0 t1 t2 t3 t4 t5 t6 t7 t8 t9 t10 t11 tb), .null, (.ref at122), (.ref at122)]))
    obtain ⟨vB, hvB⟩ : ∃ z, z = own_type t0 t1 t2 t3 t4 t5 t6 t7 t8 t9 t10 t11 tb := ⟨_, rfl⟩
    rw [← hvB]
    have hrB : vB.isRef = true := hvB ▸ own_type_ref t0 t1 t2 t3 t4 t5 t6 t7 t8 t9 t10 t11 tb
    refine Gl.st (U' := (Tt123.setTop (mkF m 199 #[.val (.int p0), .val (.int p1), .val (.int p2), .val (.int p3), .val (.int p4), .val (.int b5), .val (.int b6), .val (.int b7), .val (.int b8), .val (.int b9), .val (.int b10), .val (.int b11), .val (.int ta), .val (.int tb), .val (.ref at118), .val (.ref at118), .unset, .unset, .unset, .unset, .unset] [(.int p4), vB, .null, (.ref at122), (.ref at122)]))) (fun _ zz => XS.iload Xt123.here hx rfl (hb hby at_197) rfl zz) ?_
    refine Gl.st (U' := (Tt123.setTop (mkF m 200 #[.val (.int p0), .val (.int p1), .val (.int p2), .val (.int p3), .val (.int p4), .val (.int b5), .val (.int b6), .val (.int b7), .val (.int b8), .val (.int b9), .val (.int b10), .val (.int b11), .val (.int ta), .val (.int tb), .val (.ref at118), .val (.ref at118), .unset, .unset, .unset, .unset, .unset] [(.int p3), (.int p4), vB, .null, (.ref at122), (.ref at122)]))) (fun _ zz => XS.iloadN Xt123.here hx rfl (hb hby at_199) rfl zz) ?_
    refine Gl.st (U' := (Tt123.setTop (mkF m 201 #[.val (.int p0), .val (.int p1), .val (.int p2), .val (.int p3), .val (.int p4), .val (.int b5), .val (.int b6), .val (.int b7), .val (.int b8), .val (.int b9), .val (.int b10), .val (.int b11), .val (.int ta), .val (.int tb), .val (.ref at118), .val (.ref at118), .unset, .unset, .unset, .unset, .unset] [(.int (3 : Int32)), (.int p3), (.int p4), vB, .null, (.ref at122), (.ref at122)]))) (fun _ zz => XS.iconst Xt123.here hx rfl (hb hby at_200) zz) ?_
    refine Gl.st (U' := (Tt123.setTop (mkF m 202 #[.val (.int p0), .val (.int p1), .val (.int p2), .val (.int p3), .val (.int p4), .val (.int b5), .val (.int b6), .val (.int b7), .val (.int b8), .val (.int b9), .val (.int b10), .val (.int b11), .val (.int ta), .val (.int tb), .val (.ref at118), .val (.ref at118), .unset, .unset, .unset, .unset, .unset] [(.int (XT.ushr p3 (3 : Int32))), (.int p4), vB, .null, (.ref at122), (.ref at122)]))) (fun _ zz => XT.iushr Xt123.here hx rfl (hb hby at_201) rfl zz) ?_
    refine gCallS Xt123 hx hZ (y := (⟨"com/example/rungsight/rungsight/flow/VariableMayAliasPinLaw", "origin", "(I)Lcom/example/rungsight/rungsight/flow/Variable$Origin;"⟩ : MethodName)) hown (hw _ (List.mem_of_getElem? (i := 11) rfl)) (hw _ (List.mem_of_getElem? (i := 12) rfl)) (hw _ (List.mem_of_getElem? (i := 6) rfl)) (hw _ (List.mem_of_getElem? (i := 13) rfl)) (by decide) (own_orig_con l Z a0 hw ht122 o0 o1 o2 o3 o4 (own_O_ext OB.2 hO) (XT.ushr p3 (3 : Int32))) et123 (by decide) (W := 5) (by decide) (by decide) (by decide) (g := (mkF m 202 #[.val (.int p0), .val (.int p1), .val (.int p2), .val (.int p3), .val (.int p4), .val (.int b5), .val (.int b6), .val (.int b7), .val (.int b8), .val (.int b9), .val (.int b10), .val (.int b11), .val (.int ta), .val (.int tb), .val (.ref at118), .val (.ref at118), .unset, .unset, .unset, .unset, .unset] [(.int (XT.ushr p3 (3 : Int32))), (.int p4), vB, .null, (.ref at122), (.ref at122)])) rfl (by rw [hml]; rfl) (argsL := [(.int (XT.ushr p3 (3 : Int32)))]) (rest := [(.int p4), vB, .null, (.ref at122), (.ref at122)]) (lenOf own_pd2 rfl) rfl rfl (by rcases ref_cases hrB with z | ⟨_, z⟩ <;> rw [z] <;> exact Nat.le_of_eq rfl) (hb hby at_202) ?_
    rintro _ Tt124 Lt124 Xt124 ⟨rB, rfl, rfl, et124⟩
    show Gl p e below _ (Tt124.setTop (mkF m 205 #[.val (.int p0), .val (.int p1), .val (.int p2), .val (.int p3), .val (.int p4), .val (.int b5), .val (.int b6), .val (.int b7), .val (.int b8), .val (.int b9), .val (.int b10), .val (.int b11), .val (.int ta), .val (.int tb), .val (.ref at118), .val (.ref at118), .unset, .unset, .unset, .unset, .unset] [(.ref rB), (.int p4), vB, .null, (.ref at122), (.ref at122)]))
    refine Gl.st (U' := (Tt124.setTop (mkF m 207 #[.val (.int p0), .val (.int p1), .val (.int p2), .val (.int p3), .val (.int p4), .val (.int b5), .val (.int b6), .val (.int b7), .val (.int b8), .val (.int b9), .val (.int b10), .val (.int b11), .val (.int ta), .val (.int tb), .val (.ref at118), .val (.ref at118), .unset, .unset, .unset, .unset, .unset] [(.int b6), (.ref rB), (.int p4), vB, .null, (.ref at122), (.ref at122)]))) (fun _ zz => XS.iload Xt124.here hx rfl (hb hby at_205) rfl zz) ?_
    refine Gl.st (U' := (Tt124.setTop (mkF m 209 #[.val (.int p0), .val (.int p1), .val (.int p2), .val (.int p3), .val (.int p4), .val (.int b5), .val (.int b6), .val (.int b7), .val (.int b8), .val (.int b9), .val (.int b10), .val (.int b11), .val (.int ta), .val (.int tb), .val (.ref at118), .val (.ref at118), .unset, .unset, .unset, .unset, .unset] [(.int b8), (.int b6), (.ref rB), (.int p4), vB, .null, (.ref at122), (.ref at122)]))) (fun _ zz => XS.iload Xt124.here hx rfl (hb hby at_207) rfl zz) ?_
    refine Gl.st (U' := (Tt124.setTop (mkF m 210 #[.val (.int p0), .val (.int p1), .val (.int p2), .val (.int p3), .val (.int p4), .val (.int b5), .val (.int b6), .val (.int b7), .val (.int b8), .val (.int b9), .val (.int b10), .val (.int b11), .val (.int ta), .val (.int tb), .val (.ref at118), .val (.ref at118), .unset, .unset, .unset, .unset, .unset] [(.int p0), (.int b8), (.int b6), (.ref rB), (.int p4), vB, .null, (.ref at122), (.ref at122)]))) (fun _ zz => XS.iloadN Xt124.here hx rfl (hb hby at_209) rfl zz) ?_
    refine Gl.st (U' := (Tt124.setTop (mkF m 213 #[.val (.int p0), .val (.int p1), .val (.int p2), .val (.int p3), .val (.int p4), .val (.int b5), .val (.int b6), .val (.int b7), .val (.int b8), .val (.int b9), .val (.int b10), .val (.int b11), .val (.int ta), .val (.int tb), .val (.ref at118), .val (.ref at118), .unset, .unset, .unset, .unset, .unset] [(.int (1024 : Int32)), (.int p0), (.int b8), (.int b6), (.ref rB), (.int p4), vB, .null, (.ref at122), (.ref at122)]))) (fun _ zz => XS.sipush Xt124.here hx rfl (hb hby at_210) zz) ?_
    refine Gl.st (U' := (Tt124.setTop (mkF m 214 #[.val (.int p0), .val (.int p1), .val (.int p2), .val (.int p3), .val (.int p4), .val (.int b5), .val (.int b6), .val (.int b7), .val (.int b8), .val (.int b9), .val (.int b10), .val (.int b11), .val (.int ta), .val (.int tb), .val (.ref at118), .val (.ref at118), .unset, .unset, .unset, .unset, .unset] [(.int (p0 &&& (1024 : Int32))), (.int b8), (.int b6), (.ref rB), (.int p4), vB, .null, (.ref at122), (.ref at122)]))) (fun _ zz => XS.iand Xt124.here hx rfl (hb hby at_213) rfl zz) ?_
    refine Gl.join (α := Int32) (P := fun d1 => d1 = 0 ∨ d1 = 1) (f := fun d1 => (Tt124.setTop (mkF m 222 #[.val (.int p0), .val (.int p1), .val (.int p2), .val (.int p3), .val (.int p4), .val (.int b5), .val (.int b6), .val (.int b7), .val (.int b8), .val (.int b9), .val (.int b10), .val (.int b11), .val (.int ta), .val (.int tb), .val (.ref at118), .val (.ref at118), .unset, .unset, .unset, .unset, .unset] [(.int d1), (.int b8), (.int b6), (.ref rB), (.int p4), vB, .null, (.ref at122), (.ref at122)]))) ?_ ?_
    · intro Jd1
      by_cases q : (p0 &&& (1024 : Int32)) = (0 : Int32)
      · refine Gl.st (U' := (Tt124.setTop (mkF m 221 #[.val (.int p0), .val (.int p1), .val (.int p2), .val (.int p3), .val (.int p4), .val (.int b5), .val (.int b6), .val (.int b7), .val (.int b8), .val (.int b9), .val (.int b10), .val (.int b11), .val (.int ta), .val (.int tb), .val (.ref at118), .val (.ref at118), .unset, .unset, .unset, .unset, .unset] [(.int b8), (.int b6), (.ref rB), (.int p4), vB, .null, (.ref at122), (.ref at122)]))) (fun _ zz => XS.ifYes Xt124.here hx rfl (pc0 := 214) (pc' := 221) rfl (hb hby at_214) rfl ((if0 _ _).trans (teq q).1) (by decide) (by decide) zz) ?_
        refine Gl.st (U' := (Tt124.setTop (mkF m 222 #[.val (.int p0), .val (.int p1), .val (.int p2), .val (.int p3), .val (.int p4), .val (.int b5), .val (.int b6), .val (.int b7), .val (.int b8), .val (.int b9), .val (.int b10), .val (.int b11), .val (.int ta), .val (.int tb), .val (.ref at118), .val (.ref at118), .unset, .unset, .unset, .unset, .unset] [(.int (0 : Int32)), (.int b8), (.int b6), (.ref rB), (.int p4), vB, .null, (.ref at122), (.ref at122)]))) (fun _ zz => XS.iconst Xt124.here hx rfl (hb hby at_221) zz) ?_
        exact Jd1 0 (Or.inl rfl)
      · refine Gl.st (U' := (Tt124.setTop (mkF m 217 #[.val (.int p0), .val (.int p1), .val (.int p2), .val (.int p3), .val (.int p4), .val (.int b5), .val (.int b6), .val (.int b7), .val (.int b8), .val (.int b9), .val (.int b10), .val (.int b11), .val (.int ta), .val (.int tb), .val (.ref at118), .val (.ref at118), .unset, .unset, .unset, .unset, .unset] [(.int b8), (.int b6), (.ref rB), (.int p4), vB, .null, (.ref at122), (.ref at122)]))) (fun _ zz => XS.ifNo Xt124.here hx rfl (hb hby at_214) rfl ((if0 _ _).trans (feq q).1) zz) ?_
        refine Gl.st (U' := (Tt124.setTop (mkF m 218 #[.val (.int p0), .val (.int p1), .val (.int p2), .val (.int p3), .val (.int p4), .val (.int b5), .val (.int b6), .val (.int b7), .val (.int b8), .val (.int b9), .val (.int b10), .val (.int b11), .val (.int ta), .val (.int tb), .val (.ref at118), .val (.ref at118), .unset, .unset, .unset, .unset, .unset] [(.int (1 : Int32)), (.int b8), (.int b6), (.ref rB), (.int p4), vB, .null, (.ref at122), (.ref at122)]))) (fun _ zz => XS.iconst Xt124.here hx rfl (hb hby at_217) zz) ?_
        refine Gl.st (U' := (Tt124.setTop (mkF m 222 #[.val (.int p0), .val (.int p1), .val (.int p2), .val (.int p3), .val (.int p4), .val (.int b5), .val (.int b6), .val (.int b7), .val (.int b8), .val (.int b9), .val (.int b10), .val (.int b11), .val (.int ta), .val (.int tb), .val (.ref at118), .val (.ref at118), .unset, .unset, .unset, .unset, .unset] [(.int (1 : Int32)), (.int b8), (.int b6), (.ref rB), (.int p4), vB, .null, (.ref at122), (.ref at122)]))) (fun _ zz => XS.goto Xt124.here hx rfl (pc0 := 218) (pc' := 222) rfl (hb hby at_218) (by decide) (by decide) zz) ?_
        exact Jd1 1 (Or.inr rfl)
    intro d1 hd1
    show Gl p e below _ (Tt124.setTop (mkF m 222 #[.val (.int p0), .val (.int p1), .val (.int p2), .val (.int p3), .val (.int p4), .val (.int b5), .val (.int b6), .val (.int b7), .val (.int b8), .val (.int b9), .val (.int b10), .val (.int b11), .val (.int ta), .val (.int tb), .val (.ref at118), .val (.ref at118), .unset, .unset, .unset, .unset, .unset] [(.int d1), (.int b8), (.int b6), (.ref rB), (.int p4), vB, .null, (.ref at122), (.ref at122)]))
    refine Gl.st (U' := (Tt124.setTop (mkF m 223 #[.val (.int p0), .val (.int p1), .val (.int p2), .val (.int p3), .val (.int p4), .val (.int b5), .val (.int b6), .val (.int b7), .val (.int b8), .val (.int b9), .val (.int b10), .val (.int b11), .val (.int ta), .val (.int tb), .val (.ref at118), .val (.ref at118), .unset, .unset, .unset, .unset, .unset] [(.int p0), (.int d1), (.int b8), (.int b6), (.ref rB), (.int p4), vB, .null, (.ref at122), (.ref at122)]))) (fun _ zz => XS.iloadN Xt124.here hx rfl (hb hby at_222) rfl zz) ?_
    refine Gl.st (U' := (Tt124.setTop (mkF m 226 #[.val (.int p0), .val (.int p1), .val (.int p2), .val (.int p3), .val (.int p4), .val (.int b5), .val (.int b6), .val (.int b7), .val (.int b8), .val (.int b9), .val (.int b10), .val (.int b11), .val (.int ta), .val (.int tb), .val (.ref at118), .val (.ref at118), .unset, .unset, .unset, .unset, .unset] [(.int (2048 : Int32)), (.int p0), (.int d1), (.int b8), (.int b6), (.ref rB), (.int p4), vB, .null, (.ref at122), (.ref at122)]))) (fun _ zz => XS.sipush Xt124.here hx rfl (hb hby at_223) zz) ?_
    refine Gl.st (U' := (Tt124.setTop (mkF m 227 #[.val (.int p0), .val (.int p1), .val (.int p2), .val (.int p3), .val (.int p4), .val (.int b5), .val (.int b6), .val (.int b7), .val (.int b8), .val (.int b9), .val (.int b10), .val (.int b11), .val (.int ta), .val (.int tb), .val (.ref at118), .val (.ref at118), .unset, .unset, .unset, .unset, .unset] [(.int (p0 &&& (2048 : Int32))), (.int d1), (.int b8), (.int b6), (.ref rB), (.int p4), vB, .null, (.ref at122), (.ref at122)]))) (fun _ zz => XS.iand Xt124.here hx rfl (hb hby at_226) rfl zz) ?_
    refine Gl.join (α := Int32) (P := fun d2 => d2 = 0 ∨ d2 = 1) (f := fun d2 => (Tt124.setTop (mkF m 235 #[.val (.int p0), .val (.int p1), .val (.int p2), .val (.int p3), .val (.int p4), .val (.int b5), .val (.int b6), .val (.int b7), .val (.int b8), .val (.int b9), .val (.int b10), .val (.int b11), .val (.int ta), .val (.int tb), .val (.ref at118), .val (.ref at118), .unset, .unset, .unset, .unset, .unset] [(.int d2), (.int d1), (.int b8), (.int b6), (.ref rB), (.int p4), vB, .null, (.ref at122), (.ref at122)]))) ?_ ?_
    · intro Jd2
      by_cases q : (p0 &&& (2048 : Int32)) = (0 : Int32)
      · refine Gl.st (U' := (Tt124.setTop (mkF m 234 #[.val (.int p0), .val (.int p1), .val (.int p2), .val (.int p3), .val (.int p4), .val (.int b5), .val (.int b6), .val (.int b7), .val (.int b8), .val (.int b9), .val (.int b10), .val (.int b11), .val (.int ta), .val (.int tb), .val (.ref at118), .val (.ref at118), .unset, .unset, .unset, .unset, .unset] [(.int d1), (.int b8), (.int b6), (.ref rB), (.int p4), vB, .null, (.ref at122), (.ref at122)]))) (fun _ zz => XS.ifYes Xt124.here hx rfl (pc0 := 227) (pc' := 234) rfl (hb hby at_227) rfl ((if0 _ _).trans (teq q).1) (by decide) (by decide) zz) ?_
        refine Gl.st (U' := (Tt124.setTop (mkF m 235 #[.val (.int p0), .val (.int p1), .val (.int p2), .val (.int p3), .val (.int p4), .val (.int b5), .val (.int b6), .val (.int b7), .val (.int b8), .val (.int b9), .val (.int b10), .val (.int b11), .val (.int ta), .val (.int tb), .val (.ref at118), .val (.ref at118), .unset, .unset, .unset, .unset, .unset] [(.int (0 : Int32)), (.int d1), (.int b8), (.int b6), (.ref rB), (.int p4), vB, .null, (.ref at122), (.ref at122)]))) (fun _ zz => XS.iconst Xt124.here hx rfl (hb hby at_234) zz) ?_
        exact Jd2 0 (Or.inl rfl)
      · refine Gl.st (U' := (Tt124.setTop (mkF m 230 #[.val (.int p0), .val (.int p1), .val (.int p2), .val (.int p3), .val (.int p4), .val (.int b5), .val (.int b6), .val (.int b7), .val (.int b8), .val (.int b9), .val (.int b10), .val (.int b11), .val (.int ta), .val (.int tb), .val (.ref at118), .val (.ref at118), .unset, .unset, .unset, .unset, .unset] [(.int d1), (.int b8), (.int b6), (.ref rB), (.int p4), vB, .null, (.ref at122), (.ref at122)]))) (fun _ zz => XS.ifNo Xt124.here hx rfl (hb hby at_227) rfl ((if0 _ _).trans (feq q).1) zz) ?_
        refine Gl.st (U' := (Tt124.setTop (mkF m 231 #[.val (.int p0), .val (.int p1), .val (.int p2), .val (.int p3), .val (.int p4), .val (.int b5), .val (.int b6), .val (.int b7), .val (.int b8), .val (.int b9), .val (.int b10), .val (.int b11), .val (.int ta), .val (.int tb), .val (.ref at118), .val (.ref at118), .unset, .unset, .unset, .unset, .unset] [(.int (1 : Int32)), (.int d1), (.int b8), (.int b6), (.ref rB), (.int p4), vB, .null, (.ref at122), (.ref at122)]))) (fun _ zz => XS.iconst Xt124.here hx rfl (hb hby at_230) zz) ?_
        refine Gl.st (U' := (Tt124.setTop (mkF m 235 #[.val (.int p0), .val (.int p1), .val (.int p2), .val (.int p3), .val (.int p4), .val (.int b5), .val (.int b6), .val (.int b7), .val (.int b8), .val (.int b9), .val (.int b10), .val (.int b11), .val (.int ta), .val (.int tb), .val (.ref at118), .val (.ref at118), .unset, .unset, .unset, .unset, .unset] [(.int (1 : Int32)), (.int d1), (.int b8), (.int b6), (.ref rB), (.int p4), vB, .null, (.ref at122), (.ref at122)]))) (fun _ zz => XS.goto Xt124.here hx rfl (pc0 := 231) (pc' := 235) rfl (hb hby at_231) (by decide) (by decide) zz) ?_
        exact Jd2 1 (Or.inr rfl)
    intro d2 hd2
    show Gl p e below _ (Tt124.setTop (mkF m 235 #[.val (.int p0), .val (.int p1), .val (.int p2), .val (.int p3), .val (.int p4), .val (.int b5), .val (.int b6), .val (.int b7), .val (.int b8), .val (.int b9), .val (.int b10), .val (.int b11), .val (.int ta), .val (.int tb), .val (.ref at118), .val (.ref at118), .unset, .unset, .unset, .unset, .unset] [(.int d2), (.int d1), (.int b8), (.int b6), (.ref rB), (.int p4), vB, .null, (.ref at122), (.ref at122)]))
    refine Gl.st (U' := (Tt124.setTop (mkF m 236 #[.val (.int p0), .val (.int p1), .val (.int p2), .val (.int p3), .val (.int p4), .val (.int b5), .val (.int b6), .val (.int b7), .val (.int b8), .val (.int b9), .val (.int b10), .val (.int b11), .val (.int ta), .val (.int tb), .val (.ref at118), .val (.ref at118), .unset, .unset, .unset, .unset, .unset] [(.int p0), (.int d2), (.int d1), (.int b8), (.int b6), (.ref rB), (.int p4), vB, .null, (.ref at122), (.ref at122)]))) (fun _ zz => XS.iloadN Xt124.here hx rfl (hb hby at_235) rfl zz) ?_
    refine Gl.st (U' := (Tt124.setTop (mkF m 239 #[.val (.int p0), .val (.int p1), .val (.int p2), .val (.int p3), .val (.int p4), .val (.int b5), .val (.int b6), .val (.int b7), .val (.int b8), .val (.int b9), .val (.int b10), .val (.int b11), .val (.int ta), .val (.int tb), .val (.ref at118), .val (.ref at118), .unset, .unset, .unset, .unset, .unset] [(.int (4096 : Int32)), (.int p0), (.int d2), (.int d1), (.int b8), (.int b6), (.ref rB), (.int p4), vB, .null, (.ref at122), (.ref at122)]))) (fun _ zz => XS.sipush Xt124.here hx rfl (hb hby at_236) zz) ?_
    refine Gl.st (U' := (Tt124.setTop (mkF m 240 #[.val (.int p0), .val (.int p1), .val (.int p2), .val (.int p3), .val (.int p4), .val (.int b5), .val (.int b6), .val (.int b7), .val (.int b8), .val (.int b9), .val (.int b10), .val (.int b11), .val (.int ta), .val (.int tb), .val (.ref at118), .val (.ref at118), .unset, .unset, .unset, .unset, .unset] [(.int (p0 &&& (4096 : Int32))), (.int d2), (.int d1), (.int b8), (.int b6), (.ref rB), (.int p4), vB, .null, (.ref at122), (.ref at122)]))) (fun _ zz => XS.iand Xt124.here hx rfl (hb hby at_239) rfl zz) ?_
    refine Gl.join (α := Int32) (P := fun d3 => d3 = 0 ∨ d3 = 1) (f := fun d3 => (Tt124.setTop (mkF m 248 #[.val (.int p0), .val (.int p1), .val (.int p2), .val (.int p3), .val (.int p4), .val (.int b5), .val (.int b6), .val (.int b7), .val (.int b8), .val (.int b9), .val (.int b10), .val (.int b11), .val (.int ta), .val (.int tb), .val (.ref at118), .val (.ref at118), .unset, .unset, .unset, .unset, .unset] [(.int d3), (.int d2), (.int d1), (.int b8), (.int b6), (.ref rB), (.int p4), vB, .null, (.ref at122), (.ref at122)]))) ?_ ?_
    · intro Jd3
      by_cases q : (p0 &&& (4096 : Int32)) = (0 : Int32)
      · refine Gl.st (U' := (Tt124.setTop (mkF m 247 #[.val (.int p0), .val (.int p1), .val (.int p2), .val (.int p3), .val (.int p4), .val (.int b5), .val (.int b6), .val (.int b7), .val (.int b8), .val (.int b9), .val (.int b10), .val (.int b11), .val (.int ta), .val (.int tb), .val (.ref at118), .val (.ref at118), .unset, .unset, .unset, .unset, .unset] [(.int d2), (.int d1), (.int b8), (.int b6), (.ref rB), (.int p4), vB, .null, (.ref at122), (.ref at122)]))) (fun _ zz => XS.ifYes Xt124.here hx rfl (pc0 := 240) (pc' := 247) rfl (hb hby at_240) rfl ((if0 _ _).trans (teq q).1) (by decide) (by decide) zz) ?_
        refine Gl.st (U' := (Tt124.setTop (mkF m 248 #[.val (.int p0), .val (.int p1), .val (.int p2), .val (.int p3), .val (.int p4), .val (.int b5), .val (.int b6), .val (.int b7), .val (.int b8), .val (.int b9), .val (.int b10), .val (.int b11), .val (.int ta), .val (.int tb), .val (.ref at118), .val (.ref at118), .unset, .unset, .unset, .unset, .unset] [(.int (0 : Int32)), (.int d2), (.int d1), (.int b8), (.int b6), (.ref rB), (.int p4), vB, .null, (.ref at122), (.ref at122)]))) (fun _ zz => XS.iconst Xt124.here hx rfl (hb hby at_247) zz) ?_
        exact Jd3 0 (Or.inl rfl)
      · refine Gl.st (U' := (Tt124.setTop (mkF m 243 #[.val (.int p0), .val (.int p1), .val (.int p2), .val (.int p3), .val (.int p4), .val (.int b5), .val (.int b6), .val (.int b7), .val (.int b8), .val (.int b9), .val (.int b10), .val (.int b11), .val (.int ta), .val (.int tb), .val (.ref at118), .val (.ref at118), .unset, .unset, .unset, .unset, .unset] [(.int d2), (.int d1), (.int b8), (.int b6), (.ref rB), (.int p4), vB, .null, (.ref at122), (.ref at122)]))) (fun _ zz => XS.ifNo Xt124.here hx rfl (hb hby at_240) rfl ((if0 _ _).trans (feq q).1) zz) ?_
        refine Gl.st (U' := (Tt124.setTop (mkF m 244 #[.val (.int p0), .val (.int p1), .val (.int p2), .val (.int p3), .val (.int p4), .val (.int b5), .val (.int b6), .val (.int b7), .val (.int b8), .val (.int b9), .val (.int b10), .val (.int b11), .val (.int ta), .val (.int tb), .val (.ref at118), .val (.ref at118), .unset, .unset, .unset, .unset, .unset] [(.int (1 : Int32)), (.int d2), (.int d1), (.int b8), (.int b6), (.ref rB), (.int p4), vB, .null, (.ref at122), (.ref at122)]))) (fun _ zz => XS.iconst Xt124.here hx rfl (hb hby at_243) zz) ?_
        refine Gl.st (U' := (Tt124.setTop (mkF m 248 #[.val (.int p0), .val (.int p1), .val (.int p2), .val (.int p3), .val (.int p4), .val (.int b5), .val (.int b6), .val (.int b7), .val (.int b8), .val (.int b9), .val (.int b10), .val (.int b11), .val (.int ta), .val (.int tb), .val (.ref at118), .val (.ref at118), .unset, .unset, .unset, .unset, .unset] [(.int (1 : Int32)), (.int d2), (.int d1), (.int b8), (.int b6), (.ref rB), (.int p4), vB, .null, (.ref at122), (.ref at122)]))) (fun _ zz => XS.goto Xt124.here hx rfl (pc0 := 244) (pc' := 248) rfl (hb hby at_244) (by decide) (by decide) zz) ?_
        exact Jd3 1 (Or.inr rfl)
    intro d3 hd3
    show Gl p e below _ (Tt124.setTop (mkF m 248 #[.val (.int p0), .val (.int p1), .val (.int p2), .val (.int p3), .val (.int p4), .val (.int b5), .val (.int b6), .val (.int b7), .val (.int b8), .val (.int b9), .val (.int b10), .val (.int b11), .val (.int ta), .val (.int tb), .val (.ref at118), .val (.ref at118), .unset, .unset, .unset, .unset, .unset] [(.int d3), (.int d2), (.int d1), (.int b8), (.int b6), (.ref rB), (.int p4), vB, .null, (.ref at122), (.ref at122)]))
    refine Gl.st (U' := (Tt124.setTop (mkF m 249 #[.val (.int p0), .val (.int p1), .val (.int p2), .val (.int p3), .val (.int p4), .val (.int b5), .val (.int b6), .val (.int b7), .val (.int b8), .val (.int b9), .val (.int b10), .val (.int b11), .val (.int ta), .val (.int tb), .val (.ref at118), .val (.ref at118), .unset, .unset, .unset, .unset, .unset] [.null, (.int d3), (.int d2), (.int d1), (.int b8), (.int b6), (.ref rB), (.int p4), vB, .null, (.ref at122), (.ref at122)]))) (fun _ zz => XS.aconstNull Xt124.here hx rfl (hb hby at_248) zz) ?_
    refine gCallI Xt124 hx hZ (y := site_173) rfl hown (hw _ (List.mem_of_getElem? (i := 17) rfl)) (hw _ (List.mem_of_getElem? (i := 18) rfl)) (hw _ (List.mem_of_getElem? (i := 3) rfl)) (hw _ (List.mem_of_getElem? (i := 19) rfl)) (by decide) (own_init_con l Z a0 hw ht122 n0 at122 gaB At122 (own_K_new Mt122) vB hrB p4 rB b6 b8 d1 d2 d3 hb6 hb8 hd1 hd2 hd3) et124 (by decide) (W := 1) (by decide) (by decide) (by decide) (g := (mkF m 249 #[.val (.int p0), .val (.int p1), .val (.int p2), .val (.int p3), .val (.int p4), .val (.int b5), .val (.int b6), .val (.int b7), .val (.int b8), .val (.int b9), .val (.int b10), .val (.int b11), .val (.int ta), .val (.int tb), .val (.ref at118), .val (.ref at118), .unset, .unset, .unset, .unset, .unset] [.null, (.int d3), (.int d2), (.int d1), (.int b8), (.int b6), (.ref rB), (.int p4), vB, .null, (.ref at122), (.ref at122)])) rfl (by rw [hml]; rfl) (argsL := [.null, vB, (.int p4), (.ref rB), (.int b6), (.int b8), (.int d1), (.int d2), (.int d3), .null]) (rest := [(.ref at122)]) (own_lenOf own_pd3 rfl) rfl rfl (by show 2 * 0 + _ ≤ _; exact Nat.le_of_eq rfl) (hb hby at_249) ?_
    rintro _ Tt125 Lt125 Xt125 ⟨rfl, Nt125, Pt125, Vt125⟩
    show Gl p e below _ (Tt125.setTop (mkF m 252 #[.val (.int p0), .val (.int p1), .val (.int p2), .val (.int p3), .val (.int p4), .val (.int b5), .val (.int b6), .val (.int b7), .val (.int b8), .val (.int b9), .val (.int b10), .val (.int b11), .val (.int ta), .val (.int tb), .val (.ref at118), .val (.ref at118), .unset, .unset, .unset, .unset, .unset] [(.ref at122)]))
    have NB := Fr.app NA Nt125
    have OBx := Old.keep OB Pt125 (fun x hx => by rw [List.mem_singleton.mp hx]; exact gaB)
    have ne12 : at118 ≠ at122 := by rw [gt122]; exact Nat.ne_of_lt (Exa.lt Vt121.1)
    have V1x := own_V_keep Pt125 (ninS ne12 nin0) (own_V_ext Et122 Vt121)
    refine Gl.st (U' := (Tt125.setTop (mkF m 254 #[.val (.int p0), .val (.int p1), .val (.int p2), .val (.int p3), .val (.int p4), .val (.int b5), .val (.int b6), .val (.int b7), .val (.int b8), .val (.int b9), .val (.int b10), .val (.int b11), .val (.int ta), .val (.int tb), .val (.ref at118), .val (.ref at122), .unset, .unset, .unset, .unset, .unset] []))) (fun _ zz => XS.astore Xt125.here hx rfl (hb hby at_252) rfl rfl (l' := #[.val (.int p0), .val (.int p1), .val (.int p2), .val (.int p3), .val (.int p4), .val (.int b5), .val (.int b6), .val (.int b7), .val (.int b8), .val (.int b9), .val (.int b10), .val (.int b11), .val (.int ta), .val (.int tb), .val (.ref at118), .val (.ref at122), .unset, .unset, .unset, .unset, .unset]) rfl zz) ?_
    refine Gl.st (U' := (Tt125.setTop (mkF m 256 #[.val (.int p0), .val (.int p1), .val (.int p2), .val (.int p3), .val (.int p4), .val (.int b5), .val (.int b6), .val (.int b7), .val (.int b8), .val (.int b9), .val (.int b10), .val (.int b11), .val (.int ta), .val (.int tb), .val (.ref at118), .val (.ref at122), .unset, .unset, .unset, .unset, .unset] [(.int b10)]))) (fun _ zz => XS.iload Xt125.here hx rfl (hb hby at_254) rfl zz) ?_
    refine Gl.joinS Xt125 (β := Int32) 2 24 (P := fun Tj Lj za => (za = 0 ↔ b5 = 0 ∧ b10 = 0) ∧ Fr n0 Lj ∧ own_V Z Tj.heap at118 za b7 vA ∧ own_V Z Tj.heap at122 b6 b8 vB) (f := fun Tj za => (Tj.setTop (mkF m 264 #[.val (.int p0), .val (.int p1), .val (.int p2), .val (.int p3), .val (.int p4), .val (.int b5), .val (.int b6), .val (.int b7), .val (.int b8), .val (.int b9), .val (.int b10), .val (.int b11), .val (.int ta), .val (.int tb), .val (.ref at118), .val (.ref at122), .unset, .unset, .unset, .unset, .unset] []))) ?_ ?_
    · intro Jza
      by_cases q : b10 = (0 : Int32)
      · refine Gl.st (U' := (Tt125.setTop (mkF m 264 #[.val (.int p0), .val (.int p1), .val (.int p2), .val (.int p3), .val (.int p4), .val (.int b5), .val (.int b6), .val (.int b7), .val (.int b8), .val (.int b9), .val (.int b10), .val (.int b11), .val (.int ta), .val (.int tb), .val (.ref at118), .val (.ref at122), .unset, .unset, .unset, .unset, .unset] []))) (fun _ zz => XS.ifYes Xt125.here hx rfl (pc0 := 256) (pc' := 264) rfl (hb hby at_256) rfl ((if0 _ _).trans (teq q).1) (by decide) (by decide) zz) ?_
        exact Jza _ _ b5 (Xt125.more (by decide) (by decide)) ⟨⟨fun z => ⟨z, q⟩, fun z => z.1⟩, by simpa using NB, V1x, Vt125⟩
      · refine Gl.st (U' := (Tt125.setTop (mkF m 259 #[.val (.int p0), .val (.int p1), .val (.int p2), .val (.int p3), .val (.int p4), .val (.int b5), .val (.int b6), .val (.int b7), .val (.int b8), .val (.int b9), .val (.int b10), .val (.int b11), .val (.int ta), .val (.int tb), .val (.ref at118), .val (.ref at122), .unset, .unset, .unset, .unset, .unset] []))) (fun _ zz => XS.ifNo Xt125.here hx rfl (hb hby at_256) rfl ((if0 _ _).trans (feq q).1) zz) ?_
        refine Gl.st (U' := (Tt125.setTop (mkF m 261 #[.val (.int p0), .val (.int p1), .val (.int p2), .val (.int p3), .val (.int p4), .val (.int b5), .val (.int b6), .val (.int b7), .val (.int b8), .val (.int b9), .val (.int b10), .val (.int b11), .val (.int ta), .val (.int tb), .val (.ref at118), .val (.ref at122), .unset, .unset, .unset, .unset, .unset] [(.ref at118)]))) (fun _ zz => XS.aload Xt125.here hx rfl (hb hby at_259) rfl rfl zz) ?_
        refine gCallV Xt125 hx hZ (y := (⟨"com/example/rungsight/rungsight/flow/Variable", "takeAddress", "()V"⟩ : MethodName)) (z := (⟨"com/example/rungsight/rungsight/flow/Variable", "takeAddress", "()V"⟩ : MethodName)) hown (hw _ (List.mem_of_getElem? (i := 64) rfl)) (hw _ (List.mem_of_getElem? (i := 65) rfl)) (hw _ (List.mem_of_getElem? (i := 67) rfl)) (own_nf (args := #[]) (mvT hZ (hw _ (List.mem_of_getElem? (i := 50) rfl))) rfl) (hw _ (List.mem_of_getElem? (i := 66) rfl)) (hw _ (List.mem_of_getElem? (i := 3) rfl)) (hw _ (List.mem_of_getElem? (i := 68) rfl)) (by decide) (own_take_con l Z a0 hw Tt125.heap n0 at118 gaA b5 b7 vA V1x) (rfl : Tt125.heap = Tt125.heap) V1x.1 (by decide) (W := 0) (by decide) (by decide) (by decide) (g := (mkF m 261 #[.val (.int p0), .val (.int p1), .val (.int p2), .val (.int p3), .val (.int p4), .val (.int b5), .val (.int b6), .val (.int b7), .val (.int b8), .val (.int b9), .val (.int b10), .val (.int b11), .val (.int ta), .val (.int tb), .val (.ref at118), .val (.ref at122), .unset, .unset, .unset, .unset, .unset] [(.ref at118)])) rfl (by rw [hml]; rfl) (argsL := []) (rest := []) (lenOf own_pd4 rfl) rfl rfl (by show 2 * 0 + _ ≤ _; exact Nat.le_of_eq rfl) (hb hby at_261) ?_
        rintro _ Tt127 Lt127 Xt127 ⟨rfl, Nt127, Pt127, Vt127⟩
        show Gl p e below _ (Tt127.setTop (mkF m 264 #[.val (.int p0), .val (.int p1), .val (.int p2), .val (.int p3), .val (.int p4), .val (.int b5), .val (.int b6), .val (.int b7), .val (.int b8), .val (.int b9), .val (.int b10), .val (.int b11), .val (.int ta), .val (.int tb), .val (.ref at118), .val (.ref at122), .unset, .unset, .unset, .unset, .unset] []))
        exact Jza _ _ 1 (Xt127.more (by decide) (by decide)) ⟨⟨fun z => absurd z (by decide), fun z => absurd z.2 q⟩, by simpa using Fr.app NB Nt127, Vt127, own_V_keep Pt127 (ninS ne12.symm nin0) Vt125⟩
    intro Tj126 Lj126 za Xj126 Hj126
    show Gl p e below _ (Tj126.setTop (mkF m 264 #[.val (.int p0), .val (.int p1), .val (.int p2), .val (.int p3), .val (.int p4), .val (.int b5), .val (.int b6), .val (.int b7), .val (.int b8), .val (.int b9), .val (.int b10), .val (.int b11), .val (.int ta), .val (.int tb), .val (.ref at118), .val (.ref at122), .unset, .unset, .unset, .unset, .unset] []))
    obtain ⟨hza, NJ1, VJ1, VK1⟩ := Hj126
    refine Gl.st (U' := (Tj126.setTop (mkF m 266 #[.val (.int p0), .val (.int p1), .val (.int p2), .val (.int p3), .val (.int p4), .val (.int b5), .val (.int b6), .val (.int b7), .val (.int b8), .val (.int b9), .val (.int b10), .val (.int b11), .val (.int ta), .val (.int tb), .val (.ref at118), .val (.ref at122), .unset, .unset, .unset, .unset, .unset] [(.int b11)]))) (fun _ zz => XS.iload Xj126.here hx rfl (hb hby at_264) rfl zz) ?_
    refine Gl.joinS Xj126 (β := Int32) 2 24 (P := fun Tj Lj zb => (zb = 0 ↔ b6 = 0 ∧ b11 = 0) ∧ Fr n0 Lj ∧ own_V Z Tj.heap at122 zb b8 vB ∧ own_V Z Tj.heap at118 za b7 vA) (f := fun Tj zb => (Tj.setTop (mkF m 274 #[.val (.int p0), .val (.int p1), .val (.int p2), .val (.int p3), .val (.int p4), .val (.int b5), .val (.int b6), .val (.int b7), .val (.int b8), .val (.int b9), .val (.int b10), .val (.int b11), .val (.int ta), .val (.int tb), .val (.ref at118), .val (.ref at122), .unset, .unset, .unset, .unset, .unset] []))) ?_ ?_
    · intro Jzb
      by_cases q : b11 = (0 : Int32)
      · refine Gl.st (U' := (Tj126.setTop (mkF m 274 #[.val (.int p0), .val (.int p1), .val (.int p2), .val (.int p3), .val (.int p4), .val (.int b5), .val (.int b6), .val (.int b7), .val (.int b8), .val (.int b9), .val (.int b10), .val (.int b11), .val (.int ta), .val (.int tb), .val (.ref at118), .val (.ref at122), .unset, .unset, .unset, .unset, .unset] []))) (fun _ zz => XS.ifYes Xj126.here hx rfl (pc0 := 266) (pc' := 274) rfl (hb hby at_266) rfl ((if0 _ _).trans (teq q).1) (by decide) (by decide) zz) ?_
        exact Jzb _ _ b6 (Xj126.more (by decide) (by decide)) ⟨⟨fun z => ⟨z, q⟩, fun z => z.1⟩, by simpa using NJ1, VK1, VJ1⟩
      · refine Gl.st (U' := (Tj126.setTop (mkF m 269 #[.val (.int p0), .val (.int p1), .val (.int p2), .val (.int p3), .val (.int p4), .val (.int b5), .val (.int b6), .val (.int b7), .val (.int b8), .val (.int b9), .val (.int b10), .val (.int b11), .val (.int ta), .val (.int tb), .val (.ref at118), .val (.ref at122), .unset, .unset, .unset, .unset, .unset] []))) (fun _ zz => XS.ifNo Xj126.here hx rfl (hb hby at_266) rfl ((if0 _ _).trans (feq q).1) zz) ?_
        refine Gl.st (U' := (Tj126.setTop (mkF m 271 #[.val (.int p0), .val (.int p1), .val (.int p2), .val (.int p3), .val (.int p4), .val (.int b5), .val (.int b6), .val (.int b7), .val (.int b8), .val (.int b9), .val (.int b10), .val (.int b11), .val (.int ta), .val (.int tb), .val (.ref at118), .val (.ref at122), .unset, .unset, .unset, .unset, .unset] [(.ref at122)]))) (fun _ zz => XS.aload Xj126.here hx rfl (hb hby at_269) rfl rfl zz) ?_
        refine gCallV Xj126 hx hZ (y := (⟨"com/example/rungsight/rungsight/flow/Variable", "takeAddress", "()V"⟩ : MethodName)) (z := (⟨"com/example/rungsight/rungsight/flow/Variable", "takeAddress", "()V"⟩ : MethodName)) hown (hw _ (List.mem_of_getElem? (i := 64) rfl)) (hw _ (List.mem_of_getElem? (i := 65) rfl)) (hw _ (List.mem_of_getElem? (i := 67) rfl)) (own_nf (args := #[]) (mvT hZ (hw _ (List.mem_of_getElem? (i := 50) rfl))) rfl) (hw _ (List.mem_of_getElem? (i := 66) rfl)) (hw _ (List.mem_of_getElem? (i := 3) rfl)) (hw _ (List.mem_of_getElem? (i := 68) rfl)) (by decide) (own_take_con l Z a0 hw Tj126.heap n0 at122 gaB b6 b8 vB VK1) (rfl : Tj126.heap = Tj126.heap) VK1.1 (by decide) (W := 0) (by decide) (by decide) (by decide) (g := (mkF m 271 #[.val (.int p0), .val (.int p1), .val (.int p2), .val (.int p3), .val (.int p4), .val (.int b5), .val (.int b6), .val (.int b7), .val (.int b8), .val (.int b9), .val (.int b10), .val (.int b11), .val (.int ta), .val (.int tb), .val (.ref at118), .val (.ref at122), .unset, .unset, .unset, .unset, .unset] [(.ref at122)])) rfl (by rw [hml]; rfl) (argsL := []) (rest := []) (lenOf own_pd4 rfl) rfl rfl (by show 2 * 0 + _ ≤ _; exact Nat.le_of_eq rfl) (hb hby at_271) ?_
        rintro _ Tt129 Lt129 Xt129 ⟨rfl, Nt129, Pt129, Vt129⟩
        show Gl p e below _ (Tt129.setTop (mkF m 274 #[.val (.int p0), .val (.int p1), .val (.int p2), .val (.int p3), .val (.int p4), .val (.int b5), .val (.int b6), .val (.int b7), .val (.int b8), .val (.int b9), .val (.int b10), .val (.int b11), .val (.int ta), .val (.int tb), .val (.ref at118), .val (.ref at122), .unset, .unset, .unset, .unset, .unset] []))
        exact Jzb _ _ 1 (Xt129.more (by decide) (by decide)) ⟨⟨fun z => absurd z (by decide), fun z => absurd z.2 q⟩, by simpa using Fr.app NJ1 Nt129, Vt129, own_V_keep Pt129 (ninS ne12 nin0) VJ1⟩
    intro Tj128 Lj128 zb Xj128 Hj128
    show Gl p e below _ (Tj128.setTop (mkF m 274 #[.val (.int p0), .val (.int p1), .val (.int p2), .val (.int p3), .val (.int p4), .val (.int b5), .val (.int b6), .val (.int b7), .val (.int b8), .val (.int b9), .val (.int b10), .val (.int b11), .val (.int ta), .val (.int tb), .val (.ref at118), .val (.ref at122), .unset, .unset, .unset, .unset, .unset] []))
    obtain ⟨hzb, NJ2, VJ2, VK2⟩ := Hj128
    refine Gl.st (U' := (Tj128.setTop (mkF m 276 #[.val (.int p0), .val (.int p1), .val (.int p2), .val (.int p3), .val (.int p4), .val (.int b5), .val (.int b6), .val (.int b7), .val (.int b8), .val (.int b9), .val (.int b10), .val (.int b11), .val (.int ta), .val (.int tb), .val (.ref at118), .val (.ref at122), .unset, .unset, .unset, .unset, .unset] [(.ref at118)]))) (fun _ zz => XS.aload Xj128.here hx rfl (hb hby at_274) rfl rfl zz) ?_
    refine Gl.st (U' := (Tj128.setTop (mkF m 278 #[.val (.int p0), .val (.int p1), .val (.int p2), .val (.int p3), .val (.int p4), .val (.int b5), .val (.int b6), .val (.int b7), .val (.int b8), .val (.int b9), .val (.int b10), .val (.int b11), .val (.int ta), .val (.int tb), .val (.ref at118), .val (.ref at122), .unset, .unset, .unset, .unset, .unset] [(.ref at122), (.ref at118)]))) (fun _ zz => XS.aload Xj128.here hx rfl (hb hby at_276) rfl rfl zz) ?_
    refine gCallV Xj128 hx hZ (y := (⟨"com/example/rungsight/rungsight/flow/Variable", "mayAlias", "(Lcom/example/rungsight/rungsight/flow/Variable;)Z"⟩ : MethodName)) (z := (⟨"com/example/rungsight/rungsight/flow/Variable", "mayAlias", "(Lcom/example/rungsight/rungsight/flow/Variable;)Z"⟩ : MethodName)) hown (hw _ (List.mem_of_getElem? (i := 47) rfl)) (hw _ (List.mem_of_getElem? (i := 48) rfl)) (hw _ (List.mem_of_getElem? (i := 50) rfl)) (own_nf (args := #[]) (mvT hZ (hw _ (List.mem_of_getElem? (i := 50) rfl))) rfl) (hw _ (List.mem_of_getElem? (i := 49) rfl)) (hw _ (List.mem_of_getElem? (i := 3) rfl)) (hw _ (List.mem_of_getElem? (i := 51) rfl)) (by decide) (own_al_con l Z a0 hw Tj128.heap at118 at122 za zb b7 b8 vA vB hrA hrB VK2 VJ2) (rfl : Tj128.heap = Tj128.heap) VK2.1 (by decide) (W := 0) (by decide) (by decide) (by decide) (g := (mkF m 278 #[.val (.int p0), .val (.int p1), .val (.int p2), .val (.int p3), .val (.int p4), .val (.int b5), .val (.int b6), .val (.int b7), .val (.int b8), .val (.int b9), .val (.int b10), .val (.int b11), .val (.int ta), .val (.int tb), .val (.ref at118), .val (.ref at122), .unset, .unset, .unset, .unset, .unset] [(.ref at122), (.ref at118)])) rfl (by rw [hml]; rfl) (argsL := [(.ref at122)]) (rest := []) (lenOf own_pd5 rfl) rfl rfl (by show 2 * 0 + _ ≤ _; exact Nat.le_of_eq rfl) (hb hby at_278) ?_
    rintro _ Tt130 Lt130 Xt130 ⟨rfl, rfl, et130⟩
    show Gl p e below _ (Tt130.setTop (mkF m 281 #[.val (.int p0), .val (.int p1), .val (.int p2), .val (.int p3), .val (.int p4), .val (.int b5), .val (.int b6), .val (.int b7), .val (.int b8), .val (.int b9), .val (.int b10), .val (.int b11), .val (.int ta), .val (.int tb), .val (.ref at118), .val (.ref at122), .unset, .unset, .unset, .unset, .unset] [(.int (own_bi (¬ at122 = at118 ∧ ¬ za = 0 ∧ ¬ zb = 0 ∧ (¬ b7 = 0 ∨ ¬ b8 = 0) ∧ vA = vB)))]))
    refine Gl.st (U' := (Tt130.setTop (mkF m 283 #[.val (.int p0), .val (.int p1), .val (.int p2), .val (.int p3), .val (.int p4), .val (.int b5), .val (.int b6), .val (.int b7), .val (.int b8), .val (.int b9), .val (.int b10), .val (.int b11), .val (.int ta), .val (.int tb), .val (.ref at118), .val (.ref at122), .val (.int (own_bi (¬ at122 = at118 ∧ ¬ za = 0 ∧ ¬ zb = 0 ∧ (¬ b7 = 0 ∨ ¬ b8 = 0) ∧ vA = vB))), .unset, .unset, .unset, .unset] []))) (fun _ zz => XS.istore Xt130.here hx rfl (hb hby at_281) rfl (l' := #[.val (.int p0), .val (.int p1), .val (.int p2), .val (.int p3), .val (.int p4), .val (.int b5), .val (.int b6), .val (.int b7), .val (.int b8), .val (.int b9), .val (.int b10), .val (.int b11), .val (.int ta), .val (.int tb), .val (.ref at118), .val (.ref at122), .val (.int (own_bi (¬ at122 = at118 ∧ ¬ za = 0 ∧ ¬ zb = 0 ∧ (¬ b7 = 0 ∨ ¬ b8 = 0) ∧ vA = vB))), .unset, .unset, .unset, .unset]) rfl zz) ?_
    refine Gl.st (U' := (Tt130.setTop (mkF m 285 #[.val (.int p0), .val (.int p1), .val (.int p2), .val (.int p3), .val (.int p4), .val (.int b5), .val (.int b6), .val (.int b7), .val (.int b8), .val (.int b9), .val (.int b10), .val (.int b11), .val (.int ta), .val (.int tb), .val (.ref at118), .val (.ref at122), .val (.int (own_bi (¬ at122 = at118 ∧ ¬ za = 0 ∧ ¬ zb = 0 ∧ (¬ b7 = 0 ∨ ¬ b8 = 0) ∧ vA = vB))), .unset, .unset, .unset, .unset] [(.ref at122)]))) (fun _ zz => XS.aload Xt130.here hx rfl (hb hby at_283) rfl rfl zz) ?_
    refine Gl.st (U' := (Tt130.setTop (mkF m 287 #[.val (.int p0), .val (.int p1), .val (.int p2), .val (.int p3), .val (.int p4), .val (.int b5), .val (.int b6), .val (.int b7), .val (.int b8), .val (.int b9), .val (.int b10), .val (.int b11), .val (.int ta), .val (.int tb), .val (.ref at118), .val (.ref at122), .val (.int (own_bi (¬ at122 = at118 ∧ ¬ za = 0 ∧ ¬ zb = 0 ∧ (¬ b7 = 0 ∨ ¬ b8 = 0) ∧ vA = vB))), .unset, .unset, .unset, .unset] [(.ref at118), (.ref at122)]))) (fun _ zz => XS.aload Xt130.here hx rfl (hb hby at_285) rfl rfl zz) ?_
    refine gCallV Xt130 hx hZ (y := (⟨"com/example/rungsight/rungsight/flow/Variable", "mayAlias", "(Lcom/example/rungsight/rungsight/flow/Variable;)Z"⟩ : MethodName)) (z := (⟨"com/example/rungsight/rungsight/flow/Variable", "mayAlias", "(Lcom/example/rungsight/rungsight/flow/Variable;)Z"⟩ : MethodName)) hown (hw _ (List.mem_of_getElem? (i := 47) rfl)) (hw _ (List.mem_of_getElem? (i := 48) rfl)) (hw _ (List.mem_of_getElem? (i := 50) rfl)) (own_nf (args := #[]) (mvT hZ (hw _ (List.mem_of_getElem? (i := 50) rfl))) rfl) (hw _ (List.mem_of_getElem? (i := 49) rfl)) (hw _ (List.mem_of_getElem? (i := 3) rfl)) (hw _ (List.mem_of_getElem? (i := 51) rfl)) (by decide) (own_al_con l Z a0 hw Tj128.heap at122 at118 zb za b8 b7 vB vA hrB hrA VJ2 VK2) et130 VJ2.1 (by decide) (W := 0) (by decide) (by decide) (by decide) (g := (mkF m 287 #[.val (.int p0), .val (.int p1), .val (.int p2), .val (.int p3), .val (.int p4), .val (.int b5), .val (.int b6), .val (.int b7), .val (.int b8), .val (.int b9), .val (.int b10), .val (.int b11), .val (.int ta), .val (.int tb), .val (.ref at118), .val (.ref at122), .val (.int (own_bi (¬ at122 = at118 ∧ ¬ za = 0 ∧ ¬ zb = 0 ∧ (¬ b7 = 0 ∨ ¬ b8 = 0) ∧ vA = vB))), .unset, .unset, .unset, .unset] [(.ref at118), (.ref at122)])) rfl (by rw [hml]; rfl) (argsL := [(.ref at118)]) (rest := []) (lenOf own_pd5 rfl) rfl rfl (by show 2 * 0 + _ ≤ _; exact Nat.le_of_eq rfl) (hb hby at_287) ?_
    rintro _ Tt131 Lt131 Xt131 ⟨rfl, rfl, et131⟩
    show Gl p e below _ (Tt131.setTop (mkF m 290 #[.val (.int p0), .val (.int p1), .val (.int p2), .val (.int p3), .val (.int p4), .val (.int b5), .val (.int b6), .val (.int b7), .val (.int b8), .val (.int b9), .val (.int b10), .val (.int b11), .val (.int ta), .val (.int tb), .val (.ref at118), .val (.ref at122), .val (.int (own_bi (¬ at122 = at118 ∧ ¬ za = 0 ∧ ¬ zb = 0 ∧ (¬ b7 = 0 ∨ ¬ b8 = 0) ∧ vA = vB))), .unset, .unset, .unset, .unset] [(.int (own_bi (¬ at118 = at122 ∧ ¬ zb = 0 ∧ ¬ za = 0 ∧ (¬ b8 = 0 ∨ ¬ b7 = 0) ∧ vB = vA)))]))
    refine Gl.st (U' := (Tt131.setTop (mkF m 292 #[.val (.int p0), .val (.int p1), .val (.int p2), .val (.int p3), .val (.int p4), .val (.int b5), .val (.int b6), .val (.int b7), .val (.int b8), .val (.int b9), .val (.int b10), .val (.int b11), .val (.int ta), .val (.int tb), .val (.ref at118), .val (.ref at122), .val (.int (own_bi (¬ at122 = at118 ∧ ¬ za = 0 ∧ ¬ zb = 0 ∧ (¬ b7 = 0 ∨ ¬ b8 = 0) ∧ vA = vB))), .val (.int (own_bi (¬ at118 = at122 ∧ ¬ zb = 0 ∧ ¬ za = 0 ∧ (¬ b8 = 0 ∨ ¬ b7 = 0) ∧ vB = vA))), .unset, .unset, .unset] []))) (fun _ zz => XS.istore Xt131.here hx rfl (hb hby at_290) rfl (l' := #[.val (.int p0), .val (.int p1), .val (.int p2), .val (.int p3), .val (.int p4), .val (.int b5), .val (.int b6), .val (.int b7), .val (.int b8), .val (.int b9), .val (.int b10), .val (.int b11), .val (.int ta), .val (.int tb), .val (.ref at118), .val (.ref at122), .val (.int (own_bi (¬ at122 = at118 ∧ ¬ za = 0 ∧ ¬ zb = 0 ∧ (¬ b7 = 0 ∨ ¬ b8 = 0) ∧ vA = vB))), .val (.int (own_bi (¬ at118 = at122 ∧ ¬ zb = 0 ∧ ¬ za = 0 ∧ (¬ b8 = 0 ∨ ¬ b7 = 0) ∧ vB = vA))), .unset, .unset, .unset]) rfl zz) ?_
    refine Gl.st (U' := (Tt131.setTop (mkF m 294 #[.val (.int p0), .val (.int p1), .val (.int p2), .val (.int p3), .val (.int p4), .val (.int b5), .val (.int b6), .val (.int b7), .val (.int b8), .val (.int b9), .val (.int b10), .val (.int b11), .val (.int ta), .val (.int tb), .val (.ref at118), .val (.ref at122), .val (.int (own_bi (¬ at122 = at118 ∧ ¬ za = 0 ∧ ¬ zb = 0 ∧ (¬ b7 = 0 ∨ ¬ b8 = 0) ∧ vA = vB))), .val (.int (own_bi (¬ at118 = at122 ∧ ¬ zb = 0 ∧ ¬ za = 0 ∧ (¬ b8 = 0 ∨ ¬ b7 = 0) ∧ vB = vA))), .unset, .unset, .unset] [(.int b9)]))) (fun _ zz => XS.iload Xt131.here hx rfl (hb hby at_292) rfl zz) ?_
    refine Gl.st (U' := (Tt131.setTop (mkF m 303 #[.val (.int p0), .val (.int p1), .val (.int p2), .val (.int p3), .val (.int p4), .val (.int b5), .val (.int b6), .val (.int b7), .val (.int b8), .val (.int b9), .val (.int b10), .val (.int b11), .val (.int ta), .val (.int tb), .val (.ref at118), .val (.ref at122), .val (.int (own_bi (¬ at122 = at118 ∧ ¬ za = 0 ∧ ¬ zb = 0 ∧ (¬ b7 = 0 ∨ ¬ b8 = 0) ∧ vA = vB))), .val (.int (own_bi (¬ at118 = at122 ∧ ¬ zb = 0 ∧ ¬ za = 0 ∧ (¬ b8 = 0 ∨ ¬ b7 = 0) ∧ vB = vA))), .unset, .unset, .unset] []))) (fun _ zz => XS.ifYes Xt131.here hx rfl (pc0 := 294) (pc' := 303) rfl (hb hby at_294) rfl ((if0 _ _).trans (teq qself).1) (by decide) (by decide) zz) ?_
    refine Gl.st (U' := (Tt131.setTop (mkF m 305 #[.val (.int p0), .val (.int p1), .val (.int p2), .val (.int p3), .val (.int p4), .val (.int b5), .val (.int b6), .val (.int b7), .val (.int b8), .val (.int b9), .val (.int b10), .val (.int b11), .val (.int ta), .val (.int tb), .val (.ref at118), .val (.ref at122), .val (.int (own_bi (¬ at122 = at118 ∧ ¬ za = 0 ∧ ¬ zb = 0 ∧ (¬ b7 = 0 ∨ ¬ b8 = 0) ∧ vA = vB))), .val (.int (own_bi (¬ at118 = at122 ∧ ¬ zb = 0 ∧ ¬ za = 0 ∧ (¬ b8 = 0 ∨ ¬ b7 = 0) ∧ vB = vA))), .unset, .unset, .unset] [(.int b5)]))) (fun _ zz => XS.iload Xt131.here hx rfl (hb hby at_303) rfl zz) ?_
    refine Gl.join (α := Int32) (P := fun b19 => (b19 = 0 ↔ b5 = 0 ∧ b10 = 0)) (f := fun b19 => (Tt131.setTop (mkF m 318 #[.val (.int p0), .val (.int p1), .val (.int p2), .val (.int p3), .val (.int p4), .val (.int b5), .val (.int b6), .val (.int b7), .val (.int b8), .val (.int b9), .val (.int b10), .val (.int b11), .val (.int ta), .val (.int tb), .val (.ref at118), .val (.ref at122), .val (.int (own_bi (¬ at122 = at118 ∧ ¬ za = 0 ∧ ¬ zb = 0 ∧ (¬ b7 = 0 ∨ ¬ b8 = 0) ∧ vA = vB))), .val (.int (own_bi (¬ at118 = at122 ∧ ¬ zb = 0 ∧ ¬ za = 0 ∧ (¬ b8 = 0 ∨ ¬ b7 = 0) ∧ vB = vA))), .unset, .unset, .unset] [(.int b19)]))) ?_ ?_
    · intro Jb19
      by_cases qx : b5 = (0 : Int32)
      · refine Gl.st (U' := (Tt131.setTop (mkF m 308 #[.val (.int p0), .val (.int p1), .val (.int p2), .val (.int p3), .val (.int p4), .val (.int b5), .val (.int b6), .val (.int b7), .val (.int b8), .val (.int b9), .val (.int b10), .val (.int b11), .val (.int ta), .val (.int tb), .val (.ref at118), .val (.ref at122), .val (.int (own_bi (¬ at122 = at118 ∧ ¬ za = 0 ∧ ¬ zb = 0 ∧ (¬ b7 = 0 ∨ ¬ b8 = 0) ∧ vA = vB))), .val (.int (own_bi (¬ at118 = at122 ∧ ¬ zb = 0 ∧ ¬ za = 0 ∧ (¬ b8 = 0 ∨ ¬ b7 = 0) ∧ vB = vA))), .unset, .unset, .unset] []))) (fun _ zz => XS.ifNo Xt131.here hx rfl (hb hby at_305) rfl ((if0 _ _).trans (teq qx).2) zz) ?_
        refine Gl.st (U' := (Tt131.setTop (mkF m 310 #[.val (.int p0), .val (.int p1), .val (.int p2), .val (.int p3), .val (.int p4), .val (.int b5), .val (.int b6), .val (.int b7), .val (.int b8), .val (.int b9), .val (.int b10), .val (.int b11), .val (.int ta), .val (.int tb), .val (.ref at118), .val (.ref at122), .val (.int (own_bi (¬ at122 = at118 ∧ ¬ za = 0 ∧ ¬ zb = 0 ∧ (¬ b7 = 0 ∨ ¬ b8 = 0) ∧ vA = vB))), .val (.int (own_bi (¬ at118 = at122 ∧ ¬ zb = 0 ∧ ¬ za = 0 ∧ (¬ b8 = 0 ∨ ¬ b7 = 0) ∧ vB = vA))), .unset, .unset, .unset] [(.int b10)]))) (fun _ zz => XS.iload Xt131.here hx rfl (hb hby at_308) rfl zz) ?_
        by_cases qy : b10 = (0 : Int32)
        · refine Gl.st (U' := (Tt131.setTop (mkF m 317 #[.val (.int p0), .val (.int p1), .val (.int p2), .val (.int p3), .val (.int p4), .val (.int b5), .val (.int b6), .val (.int b7), .val (.int b8), .val (.int b9), .val (.int b10), .val (.int b11), .val (.int ta), .val (.int tb), .val (.ref at118), .val (.ref at122), .val (.int (own_bi (¬ at122 = at118 ∧ ¬ za = 0 ∧ ¬ zb = 0 ∧ (¬ b7 = 0 ∨ ¬ b8 = 0) ∧ vA = vB))), .val (.int (own_bi (¬ at118 = at122 ∧ ¬ zb = 0 ∧ ¬ za = 0 ∧ (¬ b8 = 0 ∨ ¬ b7 = 0) ∧ vB = vA))), .unset, .unset, .unset] []))) (fun _ zz => XS.ifYes Xt131.here hx rfl (pc0 := 310) (pc' := 317) rfl (hb hby at_310) rfl ((if0 _ _).trans (teq qy).1) (by decide) (by decide) zz) ?_
          refine Gl.st (U' := (Tt131.setTop (mkF m 318 #[.val (.int p0), .val (.int p1), .val (.int p2), .val (.int p3), .val (.int p4), .val (.int b5), .val (.int b6), .val (.int b7), .val (.int b8), .val (.int b9), .val (.int b10), .val (.int b11), .val (.int ta), .val (.int tb), .val (.ref at118), .val (.ref at122), .val (.int (own_bi (¬ at122 = at118 ∧ ¬ za = 0 ∧ ¬ zb = 0 ∧ (¬ b7 = 0 ∨ ¬ b8 = 0) ∧ vA = vB))), .val (.int (own_bi (¬ at118 = at122 ∧ ¬ zb = 0 ∧ ¬ za = 0 ∧ (¬ b8 = 0 ∨ ¬ b7 = 0) ∧ vB = vA))), .unset, .unset, .unset] [(.int (0 : Int32))]))) (fun _ zz => XS.iconst Xt131.here hx rfl (hb hby at_317) zz) ?_
          exact Jb19 0 ⟨fun _ => ⟨qx, qy⟩, fun _ => rfl⟩
        · refine Gl.st (U' := (Tt131.setTop (mkF m 313 #[.val (.int p0), .val (.int p1), .val (.int p2), .val (.int p3), .val (.int p4), .val (.int b5), .val (.int b6), .val (.int b7), .val (.int b8), .val (.int b9), .val (.int b10), .val (.int b11), .val (.int ta), .val (.int tb), .val (.ref at118), .val (.ref at122), .val (.int (own_bi (¬ at122 = at118 ∧ ¬ za = 0 ∧ ¬ zb = 0 ∧ (¬ b7 = 0 ∨ ¬ b8 = 0) ∧ vA = vB))), .val (.int (own_bi (¬ at118 = at122 ∧ ¬ zb = 0 ∧ ¬ za = 0 ∧ (¬ b8 = 0 ∨ ¬ b7 = 0) ∧ vB = vA))), .unset, .unset, .unset] []))) (fun _ zz => XS.ifNo Xt131.here hx rfl (hb hby at_310) rfl ((if0 _ _).trans (feq qy).1) zz) ?_
          refine Gl.st (U' := (Tt131.setTop (mkF m 314 #[.val (.int p0), .val (.int p1), .val (.int p2), .val (.int p3), .val (.int p4), .val (.int b5), .val (.int b6), .val (.int b7), .val (.int b8), .val (.int b9), .val (.int b10), .val (.int b11), .val (.int ta), .val (.int tb), .val (.ref at118), .val (.ref at122), .val (.int (own_bi (¬ at122 = at118 ∧ ¬ za = 0 ∧ ¬ zb = 0 ∧ (¬ b7 = 0 ∨ ¬ b8 = 0) ∧ vA = vB))), .val (.int (own_bi (¬ at118 = at122 ∧ ¬ zb = 0 ∧ ¬ za = 0 ∧ (¬ b8 = 0 ∨ ¬ b7 = 0) ∧ vB = vA))), .unset, .unset, .unset] [(.int (1 : Int32))]))) (fun _ zz => XS.iconst Xt131.here hx rfl (hb hby at_313) zz) ?_
          refine Gl.st (U' := (Tt131.setTop (mkF m 318 #[.val (.int p0), .val (.int p1), .val (.int p2), .val (.int p3), .val (.int p4), .val (.int b5), .val (.int b6), .val (.int b7), .val (.int b8), .val (.int b9), .val (.int b10), .val (.int b11), .val (.int ta), .val (.int tb), .val (.ref at118), .val (.ref at122), .val (.int (own_bi (¬ at122 = at118 ∧ ¬ za = 0 ∧ ¬ zb = 0 ∧ (¬ b7 = 0 ∨ ¬ b8 = 0) ∧ vA = vB))), .val (.int (own_bi (¬ at118 = at122 ∧ ¬ zb = 0 ∧ ¬ za = 0 ∧ (¬ b8 = 0 ∨ ¬ b7 = 0) ∧ vB = vA))), .unset, .unset, .unset] [(.int (1 : Int32))]))) (fun _ zz => XS.goto Xt131.here hx rfl (pc0 := 314) (pc' := 318) rfl (hb hby at_314) (by decide) (by decide) zz) ?_
          exact Jb19 1 ⟨fun z => absurd z (by decide), fun z => absurd z.2 qy⟩
      · refine Gl.st (U' := (Tt131.setTop (mkF m 313 #[.val (.int p0), .val (.int p1), .val (.int p2), .val (.int p3), .val (.int p4), .val (.int b5), .val (.int b6), .val (.int b7), .val (.int b8), .val (.int b9), .val (.int b10), .val (.int b11), .val (.int ta), .val (.int tb), .val (.ref at118), .val (.ref at122), .val (.int (own_bi (¬ at122 = at118 ∧ ¬ za = 0 ∧ ¬ zb = 0 ∧ (¬ b7 = 0 ∨ ¬ b8 = 0) ∧ vA = vB))), .val (.int (own_bi (¬ at118 = at122 ∧ ¬ zb = 0 ∧ ¬ za = 0 ∧ (¬ b8 = 0 ∨ ¬ b7 = 0) ∧ vB = vA))), .unset, .unset, .unset] []))) (fun _ zz => XS.ifYes Xt131.here hx rfl (pc0 := 305) (pc' := 313) rfl (hb hby at_305) rfl ((if0 _ _).trans (feq qx).2) (by decide) (by decide) zz) ?_
        refine Gl.st (U' := (Tt131.setTop (mkF m 314 #[.val (.int p0), .val (.int p1), .val (.int p2), .val (.int p3), .val (.int p4), .val (.int b5), .val (.int b6), .val (.int b7), .val (.int b8), .val (.int b9), .val (.int b10), .val (.int b11), .val (.int ta), .val (.int tb), .val (.ref at118), .val (.ref at122), .val (.int (own_bi (¬ at122 = at118 ∧ ¬ za = 0 ∧ ¬ zb = 0 ∧ (¬ b7 = 0 ∨ ¬ b8 = 0) ∧ vA = vB))), .val (.int (own_bi (¬ at118 = at122 ∧ ¬ zb = 0 ∧ ¬ za = 0 ∧ (¬ b8 = 0 ∨ ¬ b7 = 0) ∧ vB = vA))), .unset, .unset, .unset] [(.int (1 : Int32))]))) (fun _ zz => XS.iconst Xt131.here hx rfl (hb hby at_313) zz) ?_
        refine Gl.st (U' := (Tt131.setTop (mkF m 318 #[.val (.int p0), .val (.int p1), .val (.int p2), .val (.int p3), .val (.int p4), .val (.int b5), .val (.int b6), .val (.int b7), .val (.int b8), .val (.int b9), .val (.int b10), .val (.int b11), .val (.int ta), .val (.int tb), .val (.ref at118), .val (.ref at122), .val (.int (own_bi (¬ at122 = at118 ∧ ¬ za = 0 ∧ ¬ zb = 0 ∧ (¬ b7 = 0 ∨ ¬ b8 = 0) ∧ vA = vB))), .val (.int (own_bi (¬ at118 = at122 ∧ ¬ zb = 0 ∧ ¬ za = 0 ∧ (¬ b8 = 0 ∨ ¬ b7 = 0) ∧ vB = vA))), .unset, .unset, .unset] [(.int (1 : Int32))]))) (fun _ zz => XS.goto Xt131.here hx rfl (pc0 := 314) (pc' := 318) rfl (hb hby at_314) (by decide) (by decide) zz) ?_
        exact Jb19 1 ⟨fun z => absurd z (by decide), fun z => absurd z.1 qx⟩
    intro b19 hb19
    show Gl p e below _ (Tt131.setTop (mkF m 318 #[.val (.int p0), .val (.int p1), .val (.int p2), .val (.int p3), .val (.int p4), .val (.int b5), .val (.int b6), .val (.int b7), .val (.int b8), .val (.int b9), .val (.int b10), .val (.int b11), .val (.int ta), .val (.int tb), .val (.ref at118), .val (.ref at122), .val (.int (own_bi (¬ at122 = at118 ∧ ¬ za = 0 ∧ ¬ zb = 0 ∧ (¬ b7 = 0 ∨ ¬ b8 = 0) ∧ vA = vB))), .val (.int (own_bi (¬ at118 = at122 ∧ ¬ zb = 0 ∧ ¬ za = 0 ∧ (¬ b8 = 0 ∨ ¬ b7 = 0) ∧ vB = vA))), .unset, .unset, .unset] [(.int b19)]))
    refine Gl.st (U' := (Tt131.setTop (mkF m 320 #[.val (.int p0), .val (.int p1), .val (.int p2), .val (.int p3), .val (.int p4), .val (.int b5), .val (.int b6), .val (.int b7), .val (.int b8), .val (.int b9), .val (.int b10), .val (.int b11), .val (.int ta), .val (.int tb), .val (.ref at118), .val (.ref at122), .val (.int (own_bi (¬ at122 = at118 ∧ ¬ za = 0 ∧ ¬ zb = 0 ∧ (¬ b7 = 0 ∨ ¬ b8 = 0) ∧ vA = vB))), .val (.int (own_bi (¬ at118 = at122 ∧ ¬ zb = 0 ∧ ¬ za = 0 ∧ (¬ b8 = 0 ∨ ¬ b7 = 0) ∧ vB = vA))), .unset, .val (.int b19), .unset] []))) (fun _ zz => XS.istore Xt131.here hx rfl (hb hby at_318) rfl (l' := #[.val (.int p0), .val (.int p1), .val (.int p2), .val (.int p3), .val (.int p4), .val (.int b5), .val (.int b6), .val (.int b7), .val (.int b8), .val (.int b9), .val (.int b10), .val (.int b11), .val (.int ta), .val (.int tb), .val (.ref at118), .val (.ref at122), .val (.int (own_bi (¬ at122 = at118 ∧ ¬ za = 0 ∧ ¬ zb = 0 ∧ (¬ b7 = 0 ∨ ¬ b8 = 0) ∧ vA = vB))), .val (.int (own_bi (¬ at118 = at122 ∧ ¬ zb = 0 ∧ ¬ za = 0 ∧ (¬ b8 = 0 ∨ ¬ b7 = 0) ∧ vB = vA))), .unset, .val (.int b19), .unset]) rfl zz) ?_
    refine Gl.st (U' := (Tt131.setTop (mkF m 322 #[.val (.int p0), .val (.int p1), .val (.int p2), .val (.int p3), .val (.int p4), .val (.int b5), .val (.int b6), .val (.int b7), .val (.int b8), .val (.int b9), .val (.int b10), .val (.int b11), .val (.int ta), .val (.int tb), .val (.ref at118), .val (.ref at122), .val (.int (own_bi (¬ at122 = at118 ∧ ¬ za = 0 ∧ ¬ zb = 0 ∧ (¬ b7 = 0 ∨ ¬ b8 = 0) ∧ vA = vB))), .val (.int (own_bi (¬ at118 = at122 ∧ ¬ zb = 0 ∧ ¬ za = 0 ∧ (¬ b8 = 0 ∨ ¬ b7 = 0) ∧ vB = vA))), .unset, .val (.int b19), .unset] [(.int b6)]))) (fun _ zz => XS.iload Xt131.here hx rfl (hb hby at_320) rfl zz) ?_
    refine Gl.join (α := Int32) (P := fun b20 => (b20 = 0 ↔ b6 = 0 ∧ b11 = 0)) (f := fun b20 => (Tt131.setTop (mkF m 335 #[.val (.int p0), .val (.int p1), .val (.int p2), .val (.int p3), .val (.int p4), .val (.int b5), .val (.int b6), .val (.int b7), .val (.int b8), .val (.int b9), .val (.int b10), .val (.int b11), .val (.int ta), .val (.int tb), .val (.ref at118), .val (.ref at122), .val (.int (own_bi (¬ at122 = at118 ∧ ¬ za = 0 ∧ ¬ zb = 0 ∧ (¬ b7 = 0 ∨ ¬ b8 = 0) ∧ vA = vB))), .val (.int (own_bi (¬ at118 = at122 ∧ ¬ zb = 0 ∧ ¬ za = 0 ∧ (¬ b8 = 0 ∨ ¬ b7 = 0) ∧ vB = vA))), .unset, .val (.int b19), .unset] [(.int b20)]))) ?_ ?_
    · intro Jb20
      by_cases qx : b6 = (0 : Int32)
      · refine Gl.st (U' := (Tt131.setTop (mkF m 325 #[.val (.int p0), .val (.int p1), .val (.int p2), .val (.int p3), .val (.int p4), .val (.int b5), .val (.int b6), .val (.int b7), .val (.int b8), .val (.int b9), .val (.int b10), .val (.int b11), .val (.int ta), .val (.int tb), .val (.ref at118), .val (.ref at122), .val (.int (own_bi (¬ at122 = at118 ∧ ¬ za = 0 ∧ ¬ zb = 0 ∧ (¬ b7 = 0 ∨ ¬ b8 = 0) ∧ vA = vB))), .val (.int (own_bi (¬ at118 = at122 ∧ ¬ zb = 0 ∧ ¬ za = 0 ∧ (¬ b8 = 0 ∨ ¬ b7 = 0) ∧ vB = vA))), .unset, .val (.int b19), .unset] []))) (fun _ zz => XS.ifNo Xt131.here hx rfl (hb hby at_322) rfl ((if0 _ _).trans (teq qx).2) zz) ?_
        refine Gl.st (U' := (Tt131.setTop (mkF m 327 #[.val (.int p0), .val (.int p1), .val (.int p2), .val (.int p3), .val (.int p4), .val (.int b5), .val (.int b6), .val (.int b7), .val (.int b8), .val (.int b9), .val (.int b10), .val (.int b11), .val (.int ta), .val (.int tb), .val (.ref at118), .val (.ref at122), .val (.int (own_bi (¬ at122 = at118 ∧ ¬ za = 0 ∧ ¬ zb = 0 ∧ (¬ b7 = 0 ∨ ¬ b8 = 0) ∧ vA = vB))), .val (.int (own_bi (¬ at118 = at122 ∧ ¬ zb = 0 ∧ ¬ za = 0 ∧ (¬ b8 = 0 ∨ ¬ b7 = 0) ∧ vB = vA))), .unset, .val (.int b19), .unset] [(.int b11)]))) (fun _ zz => XS.iload Xt131.here hx rfl (hb hby at_325) rfl zz) ?_
        by_cases qy : b11 = (0 : Int32)
        · refine Gl.st (U' := (Tt131.setTop (mkF m 334 #[.val (.int p0), .val (.int p1), .val (.int p2), .val (.int p3), .val (.int p4), .val (.int b5), .val (.int b6), .val (.int b7), .val (.int b8), .val (.int b9), .val (.int b10), .val (.int b11), .val (.int ta), .val (.int tb), .val (.ref at118), .val (.ref at122), .val (.int (own_bi (¬ at122 = at118 ∧ ¬ za = 0 ∧ ¬ zb = 0 ∧ (¬ b7 = 0 ∨ ¬ b8 = 0) ∧ vA = vB))), .val (.int (own_bi (¬ at118 = at122 ∧ ¬ zb = 0 ∧ ¬ za = 0 ∧ (¬ b8 = 0 ∨ ¬ b7 = 0) ∧ vB = vA))), .unset, .val (.int b19), .unset] []))) (fun _ zz => XS.ifYes Xt131.here hx rfl (pc0 := 327) (pc' := 334) rfl (hb hby at_327) rfl ((if0 _ _).trans (teq qy).1) (by decide) (by decide) zz) ?_
          refine Gl.st (U' := (Tt131.setTop (mkF m 335 #[.val (.int p0), .val (.int p1), .val (.int p2), .val (.int p3), .val (.int p4), .val (.int b5), .val (.int b6), .val (.int b7), .val (.int b8), .val (.int b9), .val (.int b10), .val (.int b11), .val (.int ta), .val (.int tb), .val (.ref at118), .val (.ref at122), .val (.int (own_bi (¬ at122 = at118 ∧ ¬ za = 0 ∧ ¬ zb = 0 ∧ (¬ b7 = 0 ∨ ¬ b8 = 0) ∧ vA = vB))), .val (.int (own_bi (¬ at118 = at122 ∧ ¬ zb = 0 ∧ ¬ za = 0 ∧ (¬ b8 = 0 ∨ ¬ b7 = 0) ∧ vB = vA))), .unset, .val (.int b19), .unset] [(.int (0 : Int32))]))) (fun _ zz => XS.iconst Xt131.here hx rfl (hb hby at_334) zz) ?_
          exact Jb20 0 ⟨fun _ => ⟨qx, qy⟩, fun _ => rfl⟩
        · refine Gl.st (U' := (Tt131.setTop (mkF m 330 #[.val (.int p0), .val (.int p1), .val (.int p2), .val (.int p3), .val (.int p4), .val (.int b5), .val (.int b6), .val (.int b7), .val (.int b8), .val (.int b9), .val (.int b10), .val (.int b11), .val (.int ta), .val (.int tb), .val (.ref at118), .val (.ref at122), .val (.int (own_bi (¬ at122 = at118 ∧ ¬ za = 0 ∧ ¬ zb = 0 ∧ (¬ b7 = 0 ∨ ¬ b8 = 0) ∧ vA = vB))), .val (.int (own_bi (¬ at118 = at122 ∧ ¬ zb = 0 ∧ ¬ za = 0 ∧ (¬ b8 = 0 ∨ ¬ b7 = 0) ∧ vB = vA))), .unset, .val (.int b19), .unset] []))) (fun _ zz => XS.ifNo Xt131.here hx rfl (hb hby at_327) rfl ((if0 _ _).trans (feq qy).1) zz) ?_
          refine Gl.st (U' := (Tt131.setTop (mkF m 331 #[.val (.int p0), .val (.int p1), .val (.int p2), .val (.int p3), .val (.int p4), .val (.int b5), .val (.int b6), .val (.int b7), .val (.int b8), .val (.int b9), .val (.int b10), .val (.int b11), .val (.int ta), .val (.int tb), .val (.ref at118), .val (.ref at122), .val (.int (own_bi (¬ at122 = at118 ∧ ¬ za = 0 ∧ ¬ zb = 0 ∧ (¬ b7 = 0 ∨ ¬ b8 = 0) ∧ vA = vB))), .val (.int (own_bi (¬ at118 = at122 ∧ ¬ zb = 0 ∧ ¬ za = 0 ∧ (¬ b8 = 0 ∨ ¬ b7 = 0) ∧ vB = vA))), .unset, .val (.int b19), .unset] [(.int (1 : Int32))]))) (fun _ zz => XS.iconst Xt131.here hx rfl (hb hby at_330) zz) ?_
          refine Gl.st (U' := (Tt131.setTop (mkF m 335 #[.val (.int p0), .val (.int p1), .val (.int p2), .val (.int p3), .val (.int p4), .val (.int b5), .val (.int b6), .val (.int b7), .val (.int b8), .val (.int b9), .val (.int b10), .val (.int b11), .val (.int ta), .val (.int tb), .val (.ref at118), .val (.ref at122), .val (.int (own_bi (¬ at122 = at118 ∧ ¬ za = 0 ∧ ¬ zb = 0 ∧ (¬ b7 = 0 ∨ ¬ b8 = 0) ∧ vA = vB))), .val (.int (own_bi (¬ at118 = at122 ∧ ¬ zb = 0 ∧ ¬ za = 0 ∧ (¬ b8 = 0 ∨ ¬ b7 = 0) ∧ vB = vA))), .unset, .val (.int b19), .unset] [(.int (1 : Int32))]))) (fun _ zz => XS.goto Xt131.here hx rfl (pc0 := 331) (pc' := 335) rfl (hb hby at_331) (by decide) (by decide) zz) ?_
          exact Jb20 1 ⟨fun z => absurd z (by decide), fun z => absurd z.2 qy⟩
      · refine Gl.st (U' := (Tt131.setTop (mkF m 330 #[.val (.int p0), .val (.int p1), .val (.int p2), .val (.int p3), .val (.int p4), .val (.int b5), .val (.int b6), .val (.int b7), .val (.int b8), .val (.int b9), .val (.int b10), .val (.int b11), .val (.int ta), .val (.int tb), .val (.ref at118), .val (.ref at122), .val (.int (own_bi (¬ at122 = at118 ∧ ¬ za = 0 ∧ ¬ zb = 0 ∧ (¬ b7 = 0 ∨ ¬ b8 = 0) ∧ vA = vB))), .val (.int (own_bi (¬ at118 = at122 ∧ ¬ zb = 0 ∧ ¬ za = 0 ∧ (¬ b8 = 0 ∨ ¬ b7 = 0) ∧ vB = vA))), .unset, .val (.int b19), .unset] []))) (fun _ zz => XS.ifYes Xt131.here hx rfl (pc0 := 322) (pc' := 330) rfl (hb hby at_322) rfl ((if0 _ _).trans (feq qx).2) (by decide) (by decide) zz) ?_
        refine Gl.st (U' := (Tt131.setTop (mkF m 331 #[.val (.int p0), .val (.int p1), .val (.int p2), .val (.int p3), .val (.int p4), .val (.int b5), .val (.int b6), .val (.int b7), .val (.int b8), .val (.int b9), .val (.int b10), .val (.int b11), .val (.int ta), .val (.int tb), .val (.ref at118), .val (.ref at122), .val (.int (own_bi (¬ at122 = at118 ∧ ¬ za = 0 ∧ ¬ zb = 0 ∧ (¬ b7 = 0 ∨ ¬ b8 = 0) ∧ vA = vB))), .val (.int (own_bi (¬ at118 = at122 ∧ ¬ zb = 0 ∧ ¬ za = 0 ∧ (¬ b8 = 0 ∨ ¬ b7 = 0) ∧ vB = vA))), .unset, .val (.int b19), .unset] [(.int (1 : Int32))]))) (fun _ zz => XS.iconst Xt131.here hx rfl (hb hby at_330) zz) ?_
        refine Gl.st (U' := (Tt131.setTop (mkF m 335 #[.val (.int p0), .val (.int p1), .val (.int p2), .val (.int p3), .val (.int p4), .val (.int b5), .val (.int b6), .val (.int b7), .val (.int b8), .val (.int b9), .val (.int b10), .val (.int b11), .val (.int ta), .val (.int tb), .val (.ref at118), .val (.ref at122), .val (.int (own_bi (¬ at122 = at118 ∧ ¬ za = 0 ∧ ¬ zb = 0 ∧ (¬ b7 = 0 ∨ ¬ b8 = 0) ∧ vA = vB))), .val (.int (own_bi (¬ at118 = at122 ∧ ¬ zb = 0 ∧ ¬ za = 0 ∧ (¬ b8 = 0 ∨ ¬ b7 = 0) ∧ vB = vA))), .unset, .val (.int b19), .unset] [(.int (1 : Int32))]))) (fun _ zz => XS.goto Xt131.here hx rfl (pc0 := 331) (pc' := 335) rfl (hb hby at_331) (by decide) (by decide) zz) ?_
        exact Jb20 1 ⟨fun z => absurd z (by decide), fun z => absurd z.1 qx⟩
    intro b20 hb20
    show Gl p e below _ (Tt131.setTop (mkF m 335 #[.val (.int p0), .val (.int p1), .val (.int p2), .val (.int p3), .val (.int p4), .val (.int b5), .val (.int b6), .val (.int b7), .val (.int b8), .val (.int b9), .val (.int b10), .val (.int b11), .val (.int ta), .val (.int tb), .val (.ref at118), .val (.ref at122), .val (.int (own_bi (¬ at122 = at118 ∧ ¬ za = 0 ∧ ¬ zb = 0 ∧ (¬ b7 = 0 ∨ ¬ b8 = 0) ∧ vA = vB))), .val (.int (own_bi (¬ at118 = at122 ∧ ¬ zb = 0 ∧ ¬ za = 0 ∧ (¬ b8 = 0 ∨ ¬ b7 = 0) ∧ vB = vA))), .unset, .val (.int b19), .unset] [(.int b20)]))
    refine Gl.st (U' := (Tt131.setTop (mkF m 337 #[.val (.int p0), .val (.int p1), .val (.int p2), .val (.int p3), .val (.int p4), .val (.int b5), .val (.int b6), .val (.int b7), .val (.int b8), .val (.int b9), .val (.int b10), .val (.int b11), .val (.int ta), .val (.int tb), .val (.ref at118), .val (.ref at122), .val (.int (own_bi (¬ at122 = at118 ∧ ¬ za = 0 ∧ ¬ zb = 0 ∧ (¬ b7 = 0 ∨ ¬ b8 = 0) ∧ vA = vB))), .val (.int (own_bi (¬ at118 = at122 ∧ ¬ zb = 0 ∧ ¬ za = 0 ∧ (¬ b8 = 0 ∨ ¬ b7 = 0) ∧ vB = vA))), .unset, .val (.int b19), .val (.int b20)] []))) (fun _ zz => XS.istore Xt131.here hx rfl (hb hby at_335) rfl (l' := #[.val (.int p0), .val (.int p1), .val (.int p2), .val (.int p3), .val (.int p4), .val (.int b5), .val (.int b6), .val (.int b7), .val (.int b8), .val (.int b9), .val (.int b10), .val (.int b11), .val (.int ta), .val (.int tb), .val (.ref at118), .val (.ref at122), .val (.int (own_bi (¬ at122 = at118 ∧ ¬ za = 0 ∧ ¬ zb = 0 ∧ (¬ b7 = 0 ∨ ¬ b8 = 0) ∧ vA = vB))), .val (.int (own_bi (¬ at118 = at122 ∧ ¬ zb = 0 ∧ ¬ za = 0 ∧ (¬ b8 = 0 ∨ ¬ b7 = 0) ∧ vB = vA))), .unset, .val (.int b19), .val (.int b20)]) rfl zz) ?_
    refine Gl.st (U' := (Tt131.setTop (mkF m 339 #[.val (.int p0), .val (.int p1), .val (.int p2), .val (.int p3), .val (.int p4), .val (.int b5), .val (.int b6), .val (.int b7), .val (.int b8), .val (.int b9), .val (.int b10), .val (.int b11), .val (.int ta), .val (.int tb), .val (.ref at118), .val (.ref at122), .val (.int (own_bi (¬ at122 = at118 ∧ ¬ za = 0 ∧ ¬ zb = 0 ∧ (¬ b7 = 0 ∨ ¬ b8 = 0) ∧ vA = vB))), .val (.int (own_bi (¬ at118 = at122 ∧ ¬ zb = 0 ∧ ¬ za = 0 ∧ (¬ b8 = 0 ∨ ¬ b7 = 0) ∧ vB = vA))), .unset, .val (.int b19), .val (.int b20)] [(.int b19)]))) (fun _ zz => XS.iload Xt131.here hx rfl (hb hby at_337) rfl zz) ?_
    refine Gl.join (α := Int32) (P := fun b18 => b18 = own_bi (¬ b19 = 0 ∧ ¬ b20 = 0 ∧ (¬ b7 = 0 ∨ ¬ b8 = 0) ∧ ta = tb)) (f := fun b18 => (Tt131.setTop (mkF m 369 #[.val (.int p0), .val (.int p1), .val (.int p2), .val (.int p3), .val (.int p4), .val (.int b5), .val (.int b6), .val (.int b7), .val (.int b8), .val (.int b9), .val (.int b10), .val (.int b11), .val (.int ta), .val (.int tb), .val (.ref at118), .val (.ref at122), .val (.int (own_bi (¬ at122 = at118 ∧ ¬ za = 0 ∧ ¬ zb = 0 ∧ (¬ b7 = 0 ∨ ¬ b8 = 0) ∧ vA = vB))), .val (.int (own_bi (¬ at118 = at122 ∧ ¬ zb = 0 ∧ ¬ za = 0 ∧ (¬ b8 = 0 ∨ ¬ b7 = 0) ∧ vB = vA))), .unset, .val (.int b19), .val (.int b20)] [(.int b18)]))) ?_ ?_
    · intro Jb18
      by_cases x19 : b19 = (0 : Int32)
      · refine Gl.st (U' := (Tt131.setTop (mkF m 368 #[.val (.int p0), .val (.int p1), .val (.int p2), .val (.int p3), .val (.int p4), .val (.int b5), .val (.int b6), .val (.int b7), .val (.int b8), .val (.int b9), .val (.int b10), .val (.int b11), .val (.int ta), .val (.int tb), .val (.ref at118), .val (.ref at122), .val (.int (own_bi (¬ at122 = at118 ∧ ¬ za = 0 ∧ ¬ zb = 0 ∧ (¬ b7 = 0 ∨ ¬ b8 = 0) ∧ vA = vB))), .val (.int (own_bi (¬ at118 = at122 ∧ ¬ zb = 0 ∧ ¬ za = 0 ∧ (¬ b8 = 0 ∨ ¬ b7 = 0) ∧ vB = vA))), .unset, .val (.int b19), .val (.int b20)] []))) (fun _ zz => XS.ifYes Xt131.here hx rfl (pc0 := 339) (pc' := 368) rfl (hb hby at_339) rfl ((if0 _ _).trans (teq x19).1) (by decide) (by decide) zz) ?_
        refine Gl.st (U' := (Tt131.setTop (mkF m 369 #[.val (.int p0), .val (.int p1), .val (.int p2), .val (.int p3), .val (.int p4), .val (.int b5), .val (.int b6), .val (.int b7), .val (.int b8), .val (.int b9), .val (.int b10), .val (.int b11), .val (.int ta), .val (.int tb), .val (.ref at118), .val (.ref at122), .val (.int (own_bi (¬ at122 = at118 ∧ ¬ za = 0 ∧ ¬ zb = 0 ∧ (¬ b7 = 0 ∨ ¬ b8 = 0) ∧ vA = vB))), .val (.int (own_bi (¬ at118 = at122 ∧ ¬ zb = 0 ∧ ¬ za = 0 ∧ (¬ b8 = 0 ∨ ¬ b7 = 0) ∧ vB = vA))), .unset, .val (.int b19), .val (.int b20)] [(.int (0 : Int32))]))) (fun _ zz => XS.iconst Xt131.here hx rfl (hb hby at_368) zz) ?_
        exact Jb18 0 (own_bi_f fun q => q.1 x19).symm
      · refine Gl.st (U' := (Tt131.setTop (mkF m 342 #[.val (.int p0), .val (.int p1), .val (.int p2), .val (.int p3), .val (.int p4), .val (.int b5), .val (.int b6), .val (.int b7), .val (.int b8), .val (.int b9), .val (.int b10), .val (.int b11), .val (.int ta), .val (.int tb), .val (.ref at118), .val (.ref at122), .val (.int (own_bi (¬ at122 = at118 ∧ ¬ za = 0 ∧ ¬ zb = 0 ∧ (¬ b7 = 0 ∨ ¬ b8 = 0) ∧ vA = vB))), .val (.int (own_bi (¬ at118 = at122 ∧ ¬ zb = 0 ∧ ¬ za = 0 ∧ (¬ b8 = 0 ∨ ¬ b7 = 0) ∧ vB = vA))), .unset, .val (.int b19), .val (.int b20)] []))) (fun _ zz => XS.ifNo Xt131.here hx rfl (hb hby at_339) rfl ((if0 _ _).trans (feq x19).1) zz) ?_
        refine Gl.st (U' := (Tt131.setTop (mkF m 344 #[.val (.int p0), .val (.int p1), .val (.int p2), .val (.int p3), .val (.int p4), .val (.int b5), .val (.int b6), .val (.int b7), .val (.int b8), .val (.int b9), .val (.int b10), .val (.int b11), .val (.int ta), .val (.int tb), .val (.ref at118), .val (.ref at122), .val (.int (own_bi (¬ at122 = at118 ∧ ¬ za = 0 ∧ ¬ zb = 0 ∧ (¬ b7 = 0 ∨ ¬ b8 = 0) ∧ vA = vB))), .val (.int (own_bi (¬ at118 = at122 ∧ ¬ zb = 0 ∧ ¬ za = 0 ∧ (¬ b8 = 0 ∨ ¬ b7 = 0) ∧ vB = vA))), .unset, .val (.int b19), .val (.int b20)] [(.int b20)]))) (fun _ zz => XS.iload Xt131.here hx rfl (hb hby at_342) rfl zz) ?_
        by_cases x20 : b20 = (0 : Int32)
        · refine Gl.st (U' := (Tt131.setTop (mkF m 368 #[.val (.int p0), .val (.int p1), .val (.int p2), .val (.int p3), .val (.int p4), .val (.int b5), .val (.int b6), .val (.int b7), .val (.int b8), .val (.int b9), .val (.int b10), .val (.int b11), .val (.int ta), .val (.int tb), .val (.ref at118), .val (.ref at122), .val (.int (own_bi (¬ at122 = at118 ∧ ¬ za = 0 ∧ ¬ zb = 0 ∧ (¬ b7 = 0 ∨ ¬ b8 = 0) ∧ vA = vB))), .val (.int (own_bi (¬ at118 = at122 ∧ ¬ zb = 0 ∧ ¬ za = 0 ∧ (¬ b8 = 0 ∨ ¬ b7 = 0) ∧ vB = vA))), .unset, .val (.int b19), .val (.int b20)] []))) (fun _ zz => XS.ifYes Xt131.here hx rfl (pc0 := 344) (pc' := 368) rfl (hb hby at_344) rfl ((if0 _ _).trans (teq x20).1) (by decide) (by decide) zz) ?_
          refine Gl.st (U' := (Tt131.setTop (mkF m 369 #[.val (.int p0), .val (.int p1), .val (.int p2), .val (.int p3), .val (.int p4), .val (.int b5), .val (.int b6), .val (.int b7), .val (.int b8), .val (.int b9), .val (.int b10), .val (.int b11), .val (.int ta), .val (.int tb), .val (.ref at118), .val (.ref at122), .val (.int (own_bi (¬ at122 = at118 ∧ ¬ za = 0 ∧ ¬ zb = 0 ∧ (¬ b7 = 0 ∨ ¬ b8 = 0) ∧ vA = vB))), .val (.int (own_bi (¬ at118 = at122 ∧ ¬ zb = 0 ∧ ¬ za = 0 ∧ (¬ b8 = 0 ∨ ¬ b7 = 0) ∧ vB = vA))), .unset, .val (.int b19), .val (.int b20)] [(.int (0 : Int32))]))) (fun _ zz => XS.iconst Xt131.here hx rfl (hb hby at_368) zz) ?_
          exact Jb18 0 (own_bi_f fun q => q.2.1 x20).symm
        · refine Gl.st (U' := (Tt131.setTop (mkF m 347 #[.val (.int p0), .val (.int p1), .val (.int p2), .val (.int p3), .val (.int p4), .val (.int b5), .val (.int b6), .val (.int b7), .val (.int b8), .val (.int b9), .val (.int b10), .val (.int b11), .val (.int ta), .val (.int tb), .val (.ref at118), .val (.ref at122), .val (.int (own_bi (¬ at122 = at118 ∧ ¬ za = 0 ∧ ¬ zb = 0 ∧ (¬ b7 = 0 ∨ ¬ b8 = 0) ∧ vA = vB))), .val (.int (own_bi (¬ at118 = at122 ∧ ¬ zb = 0 ∧ ¬ za = 0 ∧ (¬ b8 = 0 ∨ ¬ b7 = 0) ∧ vB = vA))), .unset, .val (.int b19), .val (.int b20)] []))) (fun _ zz => XS.ifNo Xt131.here hx rfl (hb hby at_344) rfl ((if0 _ _).trans (feq x20).1) zz) ?_
          refine Gl.st (U' := (Tt131.setTop (mkF m 349 #[.val (.int p0), .val (.int p1), .val (.int p2), .val (.int p3), .val (.int p4), .val (.int b5), .val (.int b6), .val (.int b7), .val (.int b8), .val (.int b9), .val (.int b10), .val (.int b11), .val (.int ta), .val (.int tb), .val (.ref at118), .val (.ref at122), .val (.int (own_bi (¬ at122 = at118 ∧ ¬ za = 0 ∧ ¬ zb = 0 ∧ (¬ b7 = 0 ∨ ¬ b8 = 0) ∧ vA = vB))), .val (.int (own_bi (¬ at118 = at122 ∧ ¬ zb = 0 ∧ ¬ za = 0 ∧ (¬ b8 = 0 ∨ ¬ b7 = 0) ∧ vB = vA))), .unset, .val (.int b19), .val (.int b20)] [(.int b7)]))) (fun _ zz => XS.iload Xt131.here hx rfl (hb hby at_347) rfl zz) ?_
          by_cases x7 : b7 = (0 : Int32)
          · refine Gl.st (U' := (Tt131.setTop (mkF m 352 #[.val (.int p0), .val (.int p1), .val (.int p2), .val (.int p3), .val (.int p4), .val (.int b5), .val (.int b6), .val (.int b7), .val (.int b8), .val (.int b9), .val (.int b10), .val (.int b11), .val (.int ta), .val (.int tb), .val (.ref at118), .val (.ref at122), .val (.int (own_bi (¬ at122 = at118 ∧ ¬ za = 0 ∧ ¬ zb = 0 ∧ (¬ b7 = 0 ∨ ¬ b8 = 0) ∧ vA = vB))), .val (.int (own_bi (¬ at118 = at122 ∧ ¬ zb = 0 ∧ ¬ za = 0 ∧ (¬ b8 = 0 ∨ ¬ b7 = 0) ∧ vB = vA))), .unset, .val (.int b19), .val (.int b20)] []))) (fun _ zz => XS.ifNo Xt131.here hx rfl (hb hby at_349) rfl ((if0 _ _).trans (teq x7).2) zz) ?_
            refine Gl.st (U' := (Tt131.setTop (mkF m 354 #[.val (.int p0), .val (.int p1), .val (.int p2), .val (.int p3), .val (.int p4), .val (.int b5), .val (.int b6), .val (.int b7), .val (.int b8), .val (.int b9), .val (.int b10), .val (.int b11), .val (.int ta), .val (.int tb), .val (.ref at118), .val (.ref at122), .val (.int (own_bi (¬ at122 = at118 ∧ ¬ za = 0 ∧ ¬ zb = 0 ∧ (¬ b7 = 0 ∨ ¬ b8 = 0) ∧ vA = vB))), .val (.int (own_bi (¬ at118 = at122 ∧ ¬ zb = 0 ∧ ¬ za = 0 ∧ (¬ b8 = 0 ∨ ¬ b7 = 0) ∧ vB = vA))), .unset, .val (.int b19), .val (.int b20)] [(.int b8)]))) (fun _ zz => XS.iload Xt131.here hx rfl (hb hby at_352) rfl zz) ?_
            by_cases x8 : b8 = (0 : Int32)
            · refine Gl.st (U' := (Tt131.setTop (mkF m 368 #[.val (.int p0), .val (.int p1), .val (.int p2), .val (.int p3), .val (.int p4), .val (.int b5), .val (.int b6), .val (.int b7), .val (.int b8), .val (.int b9), .val (.int b10), .val (.int b11), .val (.int ta), .val (.int tb), .val (.ref at118), .val (.ref at122), .val (.int (own_bi (¬ at122 = at118 ∧ ¬ za = 0 ∧ ¬ zb = 0 ∧ (¬ b7 = 0 ∨ ¬ b8 = 0) ∧ vA = vB))), .val (.int (own_bi (¬ at118 = at122 ∧ ¬ zb = 0 ∧ ¬ za = 0 ∧ (¬ b8 = 0 ∨ ¬ b7 = 0) ∧ vB = vA))), .unset, .val (.int b19), .val (.int b20)] []))) (fun _ zz => XS.ifYes Xt131.here hx rfl (pc0 := 354) (pc' := 368) rfl (hb hby at_354) rfl ((if0 _ _).trans (teq x8).1) (by decide) (by decide) zz) ?_
              refine Gl.st (U' := (Tt131.setTop (mkF m 369 #[.val (.int p0), .val (.int p1), .val (.int p2), .val (.int p3), .val (.int p4), .val (.int b5), .val (.int b6), .val (.int b7), .val (.int b8), .val (.int b9), .val (.int b10), .val (.int b11), .val (.int ta), .val (.int tb), .val (.ref at118), .val (.ref at122), .val (.int (own_bi (¬ at122 = at118 ∧ ¬ za = 0 ∧ ¬ zb = 0 ∧ (¬ b7 = 0 ∨ ¬ b8 = 0) ∧ vA = vB))), .val (.int (own_bi (¬ at118 = at122 ∧ ¬ zb = 0 ∧ ¬ za = 0 ∧ (¬ b8 = 0 ∨ ¬ b7 = 0) ∧ vB = vA))), .unset, .val (.int b19), .val (.int b20)] [(.int (0 : Int32))]))) (fun _ zz => XS.iconst Xt131.here hx rfl (hb hby at_368) zz) ?_
              exact Jb18 0 (own_bi_f fun q => q.2.2.1.elim (fun y => y x7) (fun y => y x8)).symm
            · refine Gl.st (U' := (Tt131.setTop (mkF m 357 #[.val (.int p0), .val (.int p1), .val (.int p2), .val (.int p3), .val (.int p4), .val (.int b5), .val (.int b6), .val (.int b7), .val (.int b8), .val (.int b9), .val (.int b10), .val (.int b11), .val (.int ta), .val (.int tb), .val (.ref at118), .val (.ref at122), .val (.int (own_bi (¬ at122 = at118 ∧ ¬ za = 0 ∧ ¬ zb = 0 ∧ (¬ b7 = 0 ∨ ¬ b8 = 0) ∧ vA = vB))), .val (.int (own_bi (¬ at118 = at122 ∧ ¬ zb = 0 ∧ ¬ za = 0 ∧ (¬ b8 = 0 ∨ ¬ b7 = 0) ∧ vB = vA))), .unset, .val (.int b19), .val (.int b20)] []))) (fun _ zz => XS.ifNo Xt131.here hx rfl (hb hby at_354) rfl ((if0 _ _).trans (feq x8).1) zz) ?_
              refine Gl.st (U' := (Tt131.setTop (mkF m 359 #[.val (.int p0), .val (.int p1), .val (.int p2), .val (.int p3), .val (.int p4), .val (.int b5), .val (.int b6), .val (.int b7), .val (.int b8), .val (.int b9), .val (.int b10), .val (.int b11), .val (.int ta), .val (.int tb), .val (.ref at118), .val (.ref at122), .val (.int (own_bi (¬ at122 = at118 ∧ ¬ za = 0 ∧ ¬ zb = 0 ∧ (¬ b7 = 0 ∨ ¬ b8 = 0) ∧ vA = vB))), .val (.int (own_bi (¬ at118 = at122 ∧ ¬ zb = 0 ∧ ¬ za = 0 ∧ (¬ b8 = 0 ∨ ¬ b7 = 0) ∧ vB = vA))), .unset, .val (.int b19), .val (.int b20)] [(.int ta)]))) (fun _ zz => XS.iload Xt131.here hx rfl (hb hby at_357) rfl zz) ?_
              refine Gl.st (U' := (Tt131.setTop (mkF m 361 #[.val (.int p0), .val (.int p1), .val (.int p2), .val (.int p3), .val (.int p4), .val (.int b5), .val (.int b6), .val (.int b7), .val (.int b8), .val (.int b9), .val (.int b10), .val (.int b11), .val (.int ta), .val (.int tb), .val (.ref at118), .val (.ref at122), .val (.int (own_bi (¬ at122 = at118 ∧ ¬ za = 0 ∧ ¬ zb = 0 ∧ (¬ b7 = 0 ∨ ¬ b8 = 0) ∧ vA = vB))), .val (.int (own_bi (¬ at118 = at122 ∧ ¬ zb = 0 ∧ ¬ za = 0 ∧ (¬ b8 = 0 ∨ ¬ b7 = 0) ∧ vB = vA))), .unset, .val (.int b19), .val (.int b20)] [(.int tb), (.int ta)]))) (fun _ zz => XS.iload Xt131.here hx rfl (hb hby at_359) rfl zz) ?_
              by_cases xt : ta = tb
              · refine Gl.st (U' := (Tt131.setTop (mkF m 364 #[.val (.int p0), .val (.int p1), .val (.int p2), .val (.int p3), .val (.int p4), .val (.int b5), .val (.int b6), .val (.int b7), .val (.int b8), .val (.int b9), .val (.int b10), .val (.int b11), .val (.int ta), .val (.int tb), .val (.ref at118), .val (.ref at122), .val (.int (own_bi (¬ at122 = at118 ∧ ¬ za = 0 ∧ ¬ zb = 0 ∧ (¬ b7 = 0 ∨ ¬ b8 = 0) ∧ vA = vB))), .val (.int (own_bi (¬ at118 = at122 ∧ ¬ zb = 0 ∧ ¬ za = 0 ∧ (¬ b8 = 0 ∨ ¬ b7 = 0) ∧ vB = vA))), .unset, .val (.int b19), .val (.int b20)] []))) (fun _ zz => XS.icmpNo Xt131.here hx rfl (hb hby at_361) rfl (teq xt).2 zz) ?_
                refine Gl.st (U' := (Tt131.setTop (mkF m 365 #[.val (.int p0), .val (.int p1), .val (.int p2), .val (.int p3), .val (.int p4), .val (.int b5), .val (.int b6), .val (.int b7), .val (.int b8), .val (.int b9), .val (.int b10), .val (.int b11), .val (.int ta), .val (.int tb), .val (.ref at118), .val (.ref at122), .val (.int (own_bi (¬ at122 = at118 ∧ ¬ za = 0 ∧ ¬ zb = 0 ∧ (¬ b7 = 0 ∨ ¬ b8 = 0) ∧ vA = vB))), .val (.int (own_bi (¬ at118 = at122 ∧ ¬ zb = 0 ∧ ¬ za = 0 ∧ (¬ b8 = 0 ∨ ¬ b7 = 0) ∧ vB = vA))), .unset, .val (.int b19), .val (.int b20)] [(.int (1 : Int32))]))) (fun _ zz => XS.iconst Xt131.here hx rfl (hb hby at_364) zz) ?_
                refine Gl.st (U' := (Tt131.setTop (mkF m 369 #[.val (.int p0), .val (.int p1), .val (.int p2), .val (.int p3), .val (.int p4), .val (.int b5), .val (.int b6), .val (.int b7), .val (.int b8), .val (.int b9), .val (.int b10), .val (.int b11), .val (.int ta), .val (.int tb), .val (.ref at118), .val (.ref at122), .val (.int (own_bi (¬ at122 = at118 ∧ ¬ za = 0 ∧ ¬ zb = 0 ∧ (¬ b7 = 0 ∨ ¬ b8 = 0) ∧ vA = vB))), .val (.int (own_bi (¬ at118 = at122 ∧ ¬ zb = 0 ∧ ¬ za = 0 ∧ (¬ b8 = 0 ∨ ¬ b7 = 0) ∧ vB = vA))), .unset, .val (.int b19), .val (.int b20)] [(.int (1 : Int32))]))) (fun _ zz => XS.goto Xt131.here hx rfl (pc0 := 365) (pc' := 369) rfl (hb hby at_365) (by decide) (by decide) zz) ?_
                exact Jb18 1 (own_bi_t ⟨x19, x20, (Or.inr x8), xt⟩).symm
              · refine Gl.st (U' := (Tt131.setTop (mkF m 368 #[.val (.int p0), .val (.int p1), .val (.int p2), .val (.int p3), .val (.int p4), .val (.int b5), .val (.int b6), .val (.int b7), .val (.int b8), .val (.int b9), .val (.int b10), .val (.int b11), .val (.int ta), .val (.int tb), .val (.ref at118), .val (.ref at122), .val (.int (own_bi (¬ at122 = at118 ∧ ¬ za = 0 ∧ ¬ zb = 0 ∧ (¬ b7 = 0 ∨ ¬ b8 = 0) ∧ vA = vB))), .val (.int (own_bi (¬ at118 = at122 ∧ ¬ zb = 0 ∧ ¬ za = 0 ∧ (¬ b8 = 0 ∨ ¬ b7 = 0) ∧ vB = vA))), .unset, .val (.int b19), .val (.int b20)] []))) (fun _ zz => XS.icmpYes Xt131.here hx rfl (pc0 := 361) (pc' := 368) rfl (hb hby at_361) rfl (feq xt).2 (by decide) (by decide) zz) ?_
                refine Gl.st (U' := (Tt131.setTop (mkF m 369 #[.val (.int p0), .val (.int p1), .val (.int p2), .val (.int p3), .val (.int p4), .val (.int b5), .val (.int b6), .val (.int b7), .val (.int b8), .val (.int b9), .val (.int b10), .val (.int b11), .val (.int ta), .val (.int tb), .val (.ref at118), .val (.ref at122), .val (.int (own_bi (¬ at122 = at118 ∧ ¬ za = 0 ∧ ¬ zb = 0 ∧ (¬ b7 = 0 ∨ ¬ b8 = 0) ∧ vA = vB))), .val (.int (own_bi (¬ at118 = at122 ∧ ¬ zb = 0 ∧ ¬ za = 0 ∧ (¬ b8 = 0 ∨ ¬ b7 = 0) ∧ vB = vA))), .unset, .val (.int b19), .val (.int b20)] [(.int (0 : Int32))]))) (fun _ zz => XS.iconst Xt131.here hx rfl (hb hby at_368) zz) ?_
                exact Jb18 0 (own_bi_f fun q => xt q.2.2.2).symm
          · refine Gl.st (U' := (Tt131.setTop (mkF m 357 #[.val (.int p0), .val (.int p1), .val (.int p2), .val (.int p3), .val (.int p4), .val (.int b5), .val (.int b6), .val (.int b7), .val (.int b8), .val (.int b9), .val (.int b10), .val (.int b11), .val (.int ta), .val (.int tb), .val (.ref at118), .val (.ref at122), .val (.int (own_bi (¬ at122 = at118 ∧ ¬ za = 0 ∧ ¬ zb = 0 ∧ (¬ b7 = 0 ∨ ¬ b8 = 0) ∧ vA = vB))), .val (.int (own_bi (¬ at118 = at122 ∧ ¬ zb = 0 ∧ ¬ za = 0 ∧ (¬ b8 = 0 ∨ ¬ b7 = 0) ∧ vB = vA))), .unset, .val (.int b19), .val (.int b20)] []))) (fun _ zz => XS.ifYes Xt131.here hx rfl (pc0 := 349) (pc' := 357) rfl (hb hby at_349) rfl ((if0 _ _).trans (feq x7).2) (by decide) (by decide) zz) ?_
            refine Gl.st (U' := (Tt131.setTop (mkF m 359 #[.val (.int p0), .val (.int p1), .val (.int p2), .val (.int p3), .val (.int p4), .val (.int b5), .val (.int b6), .val (.int b7), .val (.int b8), .val (.int b9), .val (.int b10), .val (.int b11), .val (.int ta), .val (.int tb), .val (.ref at118), .val (.ref at122), .val (.int (own_bi (¬ at122 = at118 ∧ ¬ za = 0 ∧ ¬ zb = 0 ∧ (¬ b7 = 0 ∨ ¬ b8 = 0) ∧ vA = vB))), .val (.int (own_bi (¬ at118 = at122 ∧ ¬ zb = 0 ∧ ¬ za = 0 ∧ (¬ b8 = 0 ∨ ¬ b7 = 0) ∧ vB = vA))), .unset, .val (.int b19), .val (.int b20)] [(.int ta)]))) (fun _ zz => XS.iload Xt131.here hx rfl (hb hby at_357) rfl zz) ?_
            refine Gl.st (U' := (Tt131.setTop (mkF m 361 #[.val (.int p0), .val (.int p1), .val (.int p2), .val (.int p3), .val (.int p4), .val (.int b5), .val (.int b6), .val (.int b7), .val (.int b8), .val (.int b9), .val (.int b10), .val (.int b11), .val (.int ta), .val (.int tb), .val (.ref at118), .val (.ref at122), .val (.int (own_bi (¬ at122 = at118 ∧ ¬ za = 0 ∧ ¬ zb = 0 ∧ (¬ b7 = 0 ∨ ¬ b8 = 0) ∧ vA = vB))), .val (.int (own_bi (¬ at118 = at122 ∧ ¬ zb = 0 ∧ ¬ za = 0 ∧ (¬ b8 = 0 ∨ ¬ b7 = 0) ∧ vB = vA))), .unset, .val (.int b19), .val (.int b20)] [(.int tb), (.int ta)]))) (fun _ zz => XS.iload Xt131.here hx rfl (hb hby at_359) rfl zz) ?_
            by_cases xt : ta = tb
            · refine Gl.st (U' := (Tt131.setTop (mkF m 364 #[.val (.int p0), .val (.int p1), .val (.int p2), .val (.int p3), .val (.int p4), .val (.int b5), .val (.int b6), .val (.int b7), .val (.int b8), .val (.int b9), .val (.int b10), .val (.int b11), .val (.int ta), .val (.int tb), .val (.ref at118), .val (.ref at122), .val (.int (own_bi (¬ at122 = at118 ∧ ¬ za = 0 ∧ ¬ zb = 0 ∧ (¬ b7 = 0 ∨ ¬ b8 = 0) ∧ vA = vB))), .val (.int (own_bi (¬ at118 = at122 ∧ ¬ zb = 0 ∧ ¬ za = 0 ∧ (¬ b8 = 0 ∨ ¬ b7 = 0) ∧ vB = vA))), .unset, .val (.int b19), .val (.int b20)] []))) (fun _ zz => XS.icmpNo Xt131.here hx rfl (hb hby at_361) rfl (teq xt).2 zz) ?_
              refine Gl.st (U' := (Tt131.setTop (mkF m 365 #[.val (.int p0), .val (.int p1), .val (.int p2), .val (.int p3), .val (.int p4), .val (.int b5), .val (.int b6), .val (.int b7), .val (.int b8), .val (.int b9), .val (.int b10), .val (.int b11), .val (.int ta), .val (.int tb), .val (.ref at118), .val (.ref at122), .val (.int (own_bi (¬ at122 = at118 ∧ ¬ za = 0 ∧ ¬ zb = 0 ∧ (¬ b7 = 0 ∨ ¬ b8 = 0) ∧ vA = vB))), .val (.int (own_bi (¬ at118 = at122 ∧ ¬ zb = 0 ∧ ¬ za = 0 ∧ (¬ b8 = 0 ∨ ¬ b7 = 0) ∧ vB = vA))), .unset, .val (.int b19), .val (.int b20)] [(.int (1 : Int32))]))) (fun _ zz => XS.iconst Xt131.here hx rfl (hb hby at_364) zz) ?_
              refine Gl.st (U' := (Tt131.setTop (mkF m 369 #[.val (.int p0), .val (.int p1), .val (.int p2), .val (.int p3), .val (.int p4), .val (.int b5), .val (.int b6), .val (.int b7), .val (.int b8), .val (.int b9), .val (.int b10), .val (.int b11), .val (.int ta), .val (.int tb), .val (.ref at118), .val (.ref at122), .val (.int (own_bi (¬ at122 = at118 ∧ ¬ za = 0 ∧ ¬ zb = 0 ∧ (¬ b7 = 0 ∨ ¬ b8 = 0) ∧ vA = vB))), .val (.int (own_bi (¬ at118 = at122 ∧ ¬ zb = 0 ∧ ¬ za = 0 ∧ (¬ b8 = 0 ∨ ¬ b7 = 0) ∧ vB = vA))), .unset, .val (.int b19), .val (.int b20)] [(.int (1 : Int32))]))) (fun _ zz => XS.goto Xt131.here hx rfl (pc0 := 365) (pc' := 369) rfl (hb hby at_365) (by decide) (by decide) zz) ?_
              exact Jb18 1 (own_bi_t ⟨x19, x20, (Or.inl x7), xt⟩).symm
            · refine Gl.st (U' := (Tt131.setTop (mkF m 368 #[.val (.int p0), .val (.int p1), .val (.int p2), .val (.int p3), .val (.int p4), .val (.int b5), .val (.int b6), .val (.int b7), .val (.int b8), .val (.int b9), .val (.int b10), .val (.int b11), .val (.int ta), .val (.int tb), .val (.ref at118), .val (.ref at122), .val (.int (own_bi (¬ at122 = at118 ∧ ¬ za = 0 ∧ ¬ zb = 0 ∧ (¬ b7 = 0 ∨ ¬ b8 = 0) ∧ vA = vB))), .val (.int (own_bi (¬ at118 = at122 ∧ ¬ zb = 0 ∧ ¬ za = 0 ∧ (¬ b8 = 0 ∨ ¬ b7 = 0) ∧ vB = vA))), .unset, .val (.int b19), .val (.int b20)] []))) (fun _ zz => XS.icmpYes Xt131.here hx rfl (pc0 := 361) (pc' := 368) rfl (hb hby at_361) rfl (feq xt).2 (by decide) (by decide) zz) ?_
              refine Gl.st (U' := (Tt131.setTop (mkF m 369 #[.val (.int p0), .val (.int p1), .val (.int p2), .val (.int p3), .val (.int p4), .val (.int b5), .val (.int b6), .val (.int b7), .val (.int b8), .val (.int b9), .val (.int b10), .val (.int b11), .val (.int ta), .val (.int tb), .val (.ref at118), .val (.ref at122), .val (.int (own_bi (¬ at122 = at118 ∧ ¬ za = 0 ∧ ¬ zb = 0 ∧ (¬ b7 = 0 ∨ ¬ b8 = 0) ∧ vA = vB))), .val (.int (own_bi (¬ at118 = at122 ∧ ¬ zb = 0 ∧ ¬ za = 0 ∧ (¬ b8 = 0 ∨ ¬ b7 = 0) ∧ vB = vA))), .unset, .val (.int b19), .val (.int b20)] [(.int (0 : Int32))]))) (fun _ zz => XS.iconst Xt131.here hx rfl (hb hby at_368) zz) ?_
              exact Jb18 0 (own_bi_f fun q => xt q.2.2.2).symm
    intro b18 hb18
    show Gl p e below _ (Tt131.setTop (mkF m 369 #[.val (.int p0), .val (.int p1), .val (.int p2), .val (.int p3), .val (.int p4), .val (.int b5), .val (.int b6), .val (.int b7), .val (.int b8), .val (.int b9), .val (.int b10), .val (.int b11), .val (.int ta), .val (.int tb), .val (.ref at118), .val (.ref at122), .val (.int (own_bi (¬ at122 = at118 ∧ ¬ za = 0 ∧ ¬ zb = 0 ∧ (¬ b7 = 0 ∨ ¬ b8 = 0) ∧ vA = vB))), .val (.int (own_bi (¬ at118 = at122 ∧ ¬ zb = 0 ∧ ¬ za = 0 ∧ (¬ b8 = 0 ∨ ¬ b7 = 0) ∧ vB = vA))), .unset, .val (.int b19), .val (.int b20)] [(.int b18)]))
    refine Gl.st (U' := (Tt131.setTop (mkF m 371 #[.val (.int p0), .val (.int p1), .val (.int p2), .val (.int p3), .val (.int p4), .val (.int b5), .val (.int b6), .val (.int b7), .val (.int b8), .val (.int b9), .val (.int b10), .val (.int b11), .val (.int ta), .val (.int tb), .val (.ref at118), .val (.ref at122), .val (.int (own_bi (¬ at122 = at118 ∧ ¬ za = 0 ∧ ¬ zb = 0 ∧ (¬ b7 = 0 ∨ ¬ b8 = 0) ∧ vA = vB))), .val (.int (own_bi (¬ at118 = at122 ∧ ¬ zb = 0 ∧ ¬ za = 0 ∧ (¬ b8 = 0 ∨ ¬ b7 = 0) ∧ vB = vA))), .val (.int b18), .val (.int b19), .val (.int b20)] []))) (fun _ zz => XS.istore Xt131.here hx rfl (hb hby at_369) rfl (l' := #[.val (.int p0), .val (.int p1), .val (.int p2), .val (.int p3), .val (.int p4), .val (.int b5), .val (.int b6), .val (.int b7), .val (.int b8), .val (.int b9), .val (.int b10), .val (.int b11), .val (.int ta), .val (.int tb), .val (.ref at118), .val (.ref at122), .val (.int (own_bi (¬ at122 = at118 ∧ ¬ za = 0 ∧ ¬ zb = 0 ∧ (¬ b7 = 0 ∨ ¬ b8 = 0) ∧ vA = vB))), .val (.int (own_bi (¬ at118 = at122 ∧ ¬ zb = 0 ∧ ¬ za = 0 ∧ (¬ b8 = 0 ∨ ¬ b7 = 0) ∧ vB = vA))), .val (.int b18), .val (.int b19), .val (.int b20)]) rfl zz) ?_
    refine Gl.st (U' := (Tt131.setTop (mkF m 373 #[.val (.int p0), .val (.int p1), .val (.int p2), .val (.int p3), .val (.int p4), .val (.int b5), .val (.int b6), .val (.int b7), .val (.int b8), .val (.int b9), .val (.int b10), .val (.int b11), .val (.int ta), .val (.int tb), .val (.ref at118), .val (.ref at122), .val (.int (own_bi (¬ at122 = at118 ∧ ¬ za = 0 ∧ ¬ zb = 0 ∧ (¬ b7 = 0 ∨ ¬ b8 = 0) ∧ vA = vB))), .val (.int (own_bi (¬ at118 = at122 ∧ ¬ zb = 0 ∧ ¬ za = 0 ∧ (¬ b8 = 0 ∨ ¬ b7 = 0) ∧ vB = vA))), .val (.int b18), .val (.int b19), .val (.int b20)] [(.int (own_bi (¬ at122 = at118 ∧ ¬ za = 0 ∧ ¬ zb = 0 ∧ (¬ b7 = 0 ∨ ¬ b8 = 0) ∧ vA = vB)))]))) (fun _ zz => XS.iload Xt131.here hx rfl (hb hby at_371) rfl zz) ?_
    refine Gl.st (U' := (Tt131.setTop (mkF m 375 #[.val (.int p0), .val (.int p1), .val (.int p2), .val (.int p3), .val (.int p4), .val (.int b5), .val (.int b6), .val (.int b7), .val (.int b8), .val (.int b9), .val (.int b10), .val (.int b11), .val (.int ta), .val (.int tb), .val (.ref at118), .val (.ref at122), .val (.int (own_bi (¬ at122 = at118 ∧ ¬ za = 0 ∧ ¬ zb = 0 ∧ (¬ b7 = 0 ∨ ¬ b8 = 0) ∧ vA = vB))), .val (.int (own_bi (¬ at118 = at122 ∧ ¬ zb = 0 ∧ ¬ za = 0 ∧ (¬ b8 = 0 ∨ ¬ b7 = 0) ∧ vB = vA))), .val (.int b18), .val (.int b19), .val (.int b20)] [(.int b18), (.int (own_bi (¬ at122 = at118 ∧ ¬ za = 0 ∧ ¬ zb = 0 ∧ (¬ b7 = 0 ∨ ¬ b8 = 0) ∧ vA = vB)))]))) (fun _ zz => XS.iload Xt131.here hx rfl (hb hby at_373) rfl zz) ?_
    have hv : vA = vB ↔ ta = tb := by rw [hvA, hvB]; exact own_type_inj hN ta tb r1.1 r1.2 r2.1 r2.2
    have hq1 : own_bi (¬ at122 = at118 ∧ ¬ za = 0 ∧ ¬ zb = 0 ∧ (¬ b7 = 0 ∨ ¬ b8 = 0) ∧ vA = vB) = b18 := by
      rw [hb18]
      refine own_bi_eq.mpr ?_
      rw [hza, hzb, hb19, hb20, hv]
      exact ⟨fun q => q.2, fun q => ⟨ne12.symm, q⟩⟩
    have hq2 : own_bi (¬ at118 = at122 ∧ ¬ zb = 0 ∧ ¬ za = 0 ∧ (¬ b8 = 0 ∨ ¬ b7 = 0) ∧ vB = vA) = b18 := by
      rw [hb18]
      refine own_bi_eq.mpr ?_
      rw [hza, hzb, hb19, hb20]
      exact ⟨fun q => ⟨q.2.2.1, q.2.1, q.2.2.2.1.symm, hv.mp q.2.2.2.2.symm⟩, fun q => ⟨ne12, q.2.1, q.1, q.2.2.1.symm, (hv.mpr q.2.2.2).symm⟩⟩
    refine Gl.st (U' := (Tt131.setTop (mkF m 378 #[.val (.int p0), .val (.int p1), .val (.int p2), .val (.int p3), .val (.int p4), .val (.int b5), .val (.int b6), .val (.int b7), .val (.int b8), .val (.int b9), .val (.int b10), .val (.int b11), .val (.int ta), .val (.int tb), .val (.ref at118), .val (.ref at122), .val (.int (own_bi (¬ at122 = at118 ∧ ¬ za = 0 ∧ ¬ zb = 0 ∧ (¬ b7 = 0 ∨ ¬ b8 = 0) ∧ vA = vB))), .val (.int (own_bi (¬ at118 = at122 ∧ ¬ zb = 0 ∧ ¬ za = 0 ∧ (¬ b8 = 0 ∨ ¬ b7 = 0) ∧ vB = vA))), .val (.int b18), .val (.int b19), .val (.int b20)] []))) (fun _ zz => XS.icmpNo Xt131.here hx rfl (hb hby at_375) rfl (teq hq1).2 zz) ?_
    refine Gl.st (U' := (Tt131.setTop (mkF m 380 #[.val (.int p0), .val (.int p1), .val (.int p2), .val (.int p3), .val (.int p4), .val (.int b5), .val (.int b6), .val (.int b7), .val (.int b8), .val (.int b9), .val (.int b10), .val (.int b11), .val (.int ta), .val (.int tb), .val (.ref at118), .val (.ref at122), .val (.int (own_bi (¬ at122 = at118 ∧ ¬ za = 0 ∧ ¬ zb = 0 ∧ (¬ b7 = 0 ∨ ¬ b8 = 0) ∧ vA = vB))), .val (.int (own_bi (¬ at118 = at122 ∧ ¬ zb = 0 ∧ ¬ za = 0 ∧ (¬ b8 = 0 ∨ ¬ b7 = 0) ∧ vB = vA))), .val (.int b18), .val (.int b19), .val (.int b20)] [(.int (own_bi (¬ at118 = at122 ∧ ¬ zb = 0 ∧ ¬ za = 0 ∧ (¬ b8 = 0 ∨ ¬ b7 = 0) ∧ vB = vA)))]))) (fun _ zz => XS.iload Xt131.here hx rfl (hb hby at_378) rfl zz) ?_
    refine Gl.st (U' := (Tt131.setTop (mkF m 382 #[.val (.int p0), .val (.int p1), .val (.int p2), .val (.int p3), .val (.int p4), .val (.int b5), .val (.int b6), .val (.int b7), .val (.int b8), .val (.int b9), .val (.int b10), .val (.int b11), .val (.int ta), .val (.int tb), .val (.ref at118), .val (.ref at122), .val (.int (own_bi (¬ at122 = at118 ∧ ¬ za = 0 ∧ ¬ zb = 0 ∧ (¬ b7 = 0 ∨ ¬ b8 = 0) ∧ vA = vB))), .val (.int (own_bi (¬ at118 = at122 ∧ ¬ zb = 0 ∧ ¬ za = 0 ∧ (¬ b8 = 0 ∨ ¬ b7 = 0) ∧ vB = vA))), .val (.int b18), .val (.int b19), .val (.int b20)] [(.int b18), (.int (own_bi (¬ at118 = at122 ∧ ¬ zb = 0 ∧ ¬ za = 0 ∧ (¬ b8 = 0 ∨ ¬ b7 = 0) ∧ vB = vA)))]))) (fun _ zz => XS.iload Xt131.here hx rfl (hb hby at_380) rfl zz) ?_
    refine Gl.st (U' := (Tt131.setTop (mkF m 385 #[.val (.int p0), .val (.int p1), .val (.int p2), .val (.int p3), .val (.int p4), .val (.int b5), .val (.int b6), .val (.int b7), .val (.int b8), .val (.int b9), .val (.int b10), .val (.int b11), .val (.int ta), .val (.int tb), .val (.ref at118), .val (.ref at122), .val (.int (own_bi (¬ at122 = at118 ∧ ¬ za = 0 ∧ ¬ zb = 0 ∧ (¬ b7 = 0 ∨ ¬ b8 = 0) ∧ vA = vB))), .val (.int (own_bi (¬ at118 = at122 ∧ ¬ zb = 0 ∧ ¬ za = 0 ∧ (¬ b8 = 0 ∨ ¬ b7 = 0) ∧ vB = vA))), .val (.int b18), .val (.int b19), .val (.int b20)] []))) (fun _ zz => XS.icmpNo Xt131.here hx rfl (hb hby at_382) rfl (teq hq2).2 zz) ?_
    refine Gl.st (U' := (Tt131.setTop (mkF m 386 #[.val (.int p0), .val (.int p1), .val (.int p2), .val (.int p3), .val (.int p4), .val (.int b5), .val (.int b6), .val (.int b7), .val (.int b8), .val (.int b9), .val (.int b10), .val (.int b11), .val (.int ta), .val (.int tb), .val (.ref at118), .val (.ref at122), .val (.int (own_bi (¬ at122 = at118 ∧ ¬ za = 0 ∧ ¬ zb = 0 ∧ (¬ b7 = 0 ∨ ¬ b8 = 0) ∧ vA = vB))), .val (.int (own_bi (¬ at118 = at122 ∧ ¬ zb = 0 ∧ ¬ za = 0 ∧ (¬ b8 = 0 ∨ ¬ b7 = 0) ∧ vB = vA))), .val (.int b18), .val (.int b19), .val (.int b20)] [(.int (1 : Int32))]))) (fun _ zz => XS.iconst Xt131.here hx rfl (hb hby at_385) zz) ?_
    refine Gl.st (U' := (Tt131.setTop (mkF m 390 #[.val (.int p0), .val (.int p1), .val (.int p2), .val (.int p3), .val (.int p4), .val (.int b5), .val (.int b6), .val (.int b7), .val (.int b8), .val (.int b9), .val (.int b10), .val (.int b11), .val (.int ta), .val (.int tb), .val (.ref at118), .val (.ref at122), .val (.int (own_bi (¬ at122 = at118 ∧ ¬ za = 0 ∧ ¬ zb = 0 ∧ (¬ b7 = 0 ∨ ¬ b8 = 0) ∧ vA = vB))), .val (.int (own_bi (¬ at118 = at122 ∧ ¬ zb = 0 ∧ ¬ za = 0 ∧ (¬ b8 = 0 ∨ ¬ b7 = 0) ∧ vB = vA))), .val (.int b18), .val (.int b19), .val (.int b20)] [(.int (1 : Int32))]))) (fun _ zz => XS.goto Xt131.here hx rfl (pc0 := 386) (pc' := 390) rfl (hb hby at_386) (by decide) (by decide) zz) ?_
    exact Gl.retZ Xt131 hx hret hlk (hb hby at_390) (Or.inr rfl) ⟨rfl, by simpa using NJ2⟩ (by decide) (by decide)
  · refine Gl.st (U' := (Tt121.setTop (mkF m 254 #[.val (.int p0), .val (.int p1), .val (.int p2), .val (.int p3), .val (.int p4), .val (.int b5), .val (.int b6), .val (.int b7), .val (.int b8), .val (.int b9), .val (.int b10), .val (.int b11), .val (.int ta), .val (.int tb), .val (.ref at118), .val (.ref at118), .unset, .unset, .unset, .unset, .unset] []))) (fun _ zz => XS.ifYes Xt121.here hx rfl (pc0 := 184) (pc' := 254) rfl (hb hby at_184) rfl ((if0 _ _).trans (feq qself).2) (by decide) (by decide) zz) ?_
    refine Gl.st (U' := (Tt121.setTop (mkF m 256 #[.val (.int p0), .val (.int p1), .val (.int p2), .val (.int p3), .val (.int p4), .val (.int b5), .val (.int b6), .val (.int b7), .val (.int b8), .val (.int b9), .val (.int b10), .val (.int b11), .val (.int ta), .val (.int tb), .val (.ref at118), .val (.ref at118), .unset, .unset, .unset, .unset, .unset] [(.int b10)]))) (fun _ zz => XS.iload Xt121.here hx rfl (hb hby at_254) rfl zz) ?_
    refine Gl.joinS Xt121 (β := Int32) 1 12 (P := fun Tj Lj za => (za = 0 ↔ b5 = 0 ∧ b10 = 0) ∧ Fr n0 Lj ∧ own_V Z Tj.heap at118 za b7 vA) (f := fun Tj za => (Tj.setTop (mkF m 264 #[.val (.int p0), .val (.int p1), .val (.int p2), .val (.int p3), .val (.int p4), .val (.int b5), .val (.int b6), .val (.int b7), .val (.int b8), .val (.int b9), .val (.int b10), .val (.int b11), .val (.int ta), .val (.int tb), .val (.ref at118), .val (.ref at118), .unset, .unset, .unset, .unset, .unset] []))) ?_ ?_
    · intro Jza
      by_cases q : b10 = (0 : Int32)
      · refine Gl.st (U' := (Tt121.setTop (mkF m 264 #[.val (.int p0), .val (.int p1), .val (.int p2), .val (.int p3), .val (.int p4), .val (.int b5), .val (.int b6), .val (.int b7), .val (.int b8), .val (.int b9), .val (.int b10), .val (.int b11), .val (.int ta), .val (.int tb), .val (.ref at118), .val (.ref at118), .unset, .unset, .unset, .unset, .unset] []))) (fun _ zz => XS.ifYes Xt121.here hx rfl (pc0 := 256) (pc' := 264) rfl (hb hby at_256) rfl ((if0 _ _).trans (teq q).1) (by decide) (by decide) zz) ?_
        exact Jza _ _ b5 (Xt121.more (by decide) (by decide)) ⟨⟨fun z => ⟨z, q⟩, fun z => z.1⟩, by simpa using NA, Vt121⟩
      · refine Gl.st (U' := (Tt121.setTop (mkF m 259 #[.val (.int p0), .val (.int p1), .val (.int p2), .val (.int p3), .val (.int p4), .val (.int b5), .val (.int b6), .val (.int b7), .val (.int b8), .val (.int b9), .val (.int b10), .val (.int b11), .val (.int ta), .val (.int tb), .val (.ref at118), .val (.ref at118), .unset, .unset, .unset, .unset, .unset] []))) (fun _ zz => XS.ifNo Xt121.here hx rfl (hb hby at_256) rfl ((if0 _ _).trans (feq q).1) zz) ?_
        refine Gl.st (U' := (Tt121.setTop (mkF m 261 #[.val (.int p0), .val (.int p1), .val (.int p2), .val (.int p3), .val (.int p4), .val (.int b5), .val (.int b6), .val (.int b7), .val (.int b8), .val (.int b9), .val (.int b10), .val (.int b11), .val (.int ta), .val (.int tb), .val (.ref at118), .val (.ref at118), .unset, .unset, .unset, .unset, .unset] [(.ref at118)]))) (fun _ zz => XS.aload Xt121.here hx rfl (hb hby at_259) rfl rfl zz) ?_
        refine gCallV Xt121 hx hZ (y := (⟨"com/example/rungsight/rungsight/flow/Variable", "takeAddress", "()V"⟩ : MethodName)) (z := (⟨"com/example/rungsight/rungsight/flow/Variable", "takeAddress", "()V"⟩ : MethodName)) hown (hw _ (List.mem_of_getElem? (i := 64) rfl)) (hw _ (List.mem_of_getElem? (i := 65) rfl)) (hw _ (List.mem_of_getElem? (i := 67) rfl)) (own_nf (args := #[]) (mvT hZ (hw _ (List.mem_of_getElem? (i := 50) rfl))) rfl) (hw _ (List.mem_of_getElem? (i := 66) rfl)) (hw _ (List.mem_of_getElem? (i := 3) rfl)) (hw _ (List.mem_of_getElem? (i := 68) rfl)) (by decide) (own_take_con l Z a0 hw Tt121.heap n0 at118 gaA b5 b7 vA Vt121) (rfl : Tt121.heap = Tt121.heap) Vt121.1 (by decide) (W := 0) (by decide) (by decide) (by decide) (g := (mkF m 261 #[.val (.int p0), .val (.int p1), .val (.int p2), .val (.int p3), .val (.int p4), .val (.int b5), .val (.int b6), .val (.int b7), .val (.int b8), .val (.int b9), .val (.int b10), .val (.int b11), .val (.int ta), .val (.int tb), .val (.ref at118), .val (.ref at118), .unset, .unset, .unset, .unset, .unset] [(.ref at118)])) rfl (by rw [hml]; rfl) (argsL := []) (rest := []) (lenOf own_pd4 rfl) rfl rfl (by show 2 * 0 + _ ≤ _; exact Nat.le_of_eq rfl) (hb hby at_261) ?_
        rintro _ Tt133 Lt133 Xt133 ⟨rfl, Nt133, Pt133, Vt133⟩
        show Gl p e below _ (Tt133.setTop (mkF m 264 #[.val (.int p0), .val (.int p1), .val (.int p2), .val (.int p3), .val (.int p4), .val (.int b5), .val (.int b6), .val (.int b7), .val (.int b8), .val (.int b9), .val (.int b10), .val (.int b11), .val (.int ta), .val (.int tb), .val (.ref at118), .val (.ref at118), .unset, .unset, .unset, .unset, .unset] []))
        exact Jza _ _ 1 (Xt133.more (by decide) (by decide)) ⟨⟨fun z => absurd z (by decide), fun z => absurd z.2 q⟩, by simpa using Fr.app NA Nt133, Vt133⟩
    intro Tj132 Lj132 za Xj132 Hj132
    show Gl p e below _ (Tj132.setTop (mkF m 264 #[.val (.int p0), .val (.int p1), .val (.int p2), .val (.int p3), .val (.int p4), .val (.int b5), .val (.int b6), .val (.int b7), .val (.int b8), .val (.int b9), .val (.int b10), .val (.int b11), .val (.int ta), .val (.int tb), .val (.ref at118), .val (.ref at118), .unset, .unset, .unset, .unset, .unset] []))
    obtain ⟨-, NJ1, VJ1⟩ := Hj132
    refine Gl.st (U' := (Tj132.setTop (mkF m 266 #[.val (.int p0), .val (.int p1), .val (.int p2), .val (.int p3), .val (.int p4), .val (.int b5), .val (.int b6), .val (.int b7), .val (.int b8), .val (.int b9), .val (.int b10), .val (.int b11), .val (.int ta), .val (.int tb), .val (.ref at118), .val (.ref at118), .unset, .unset, .unset, .unset, .unset] [(.int b11)]))) (fun _ zz => XS.iload Xj132.here hx rfl (hb hby at_264) rfl zz) ?_
    refine Gl.joinS Xj132 (β := Int32) 1 12 (P := fun Tj Lj zb => (zb = 0 ↔ za = 0 ∧ b11 = 0) ∧ Fr n0 Lj ∧ own_V Z Tj.heap at118 zb b7 vA) (f := fun Tj zb => (Tj.setTop (mkF m 274 #[.val (.int p0), .val (.int p1), .val (.int p2), .val (.int p3), .val (.int p4), .val (.int b5), .val (.int b6), .val (.int b7), .val (.int b8), .val (.int b9), .val (.int b10), .val (.int b11), .val (.int ta), .val (.int tb), .val (.ref at118), .val (.ref at118), .unset, .unset, .unset, .unset, .unset] []))) ?_ ?_
    · intro Jzb
      by_cases q : b11 = (0 : Int32)
      · refine Gl.st (U' := (Tj132.setTop (mkF m 274 #[.val (.int p0), .val (.int p1), .val (.int p2), .val (.int p3), .val (.int p4), .val (.int b5), .val (.int b6), .val (.int b7), .val (.int b8), .val (.int b9), .val (.int b10), .val (.int b11), .val (.int ta), .val (.int tb), .val (.ref at118), .val (.ref at118), .unset, .unset, .unset, .unset, .unset] []))) (fun _ zz => XS.ifYes Xj132.here hx rfl (pc0 := 266) (pc' := 274) rfl (hb hby at_266) rfl ((if0 _ _).trans (teq q).1) (by decide) (by decide) zz) ?_
        exact Jzb _ _ za (Xj132.more (by decide) (by decide)) ⟨⟨fun z => ⟨z, q⟩, fun z => z.1⟩, by simpa using NJ1, VJ1⟩
      · refine Gl.st (U' := (Tj132.setTop (mkF m 269 #[.val (.int p0), .val (.int p1), .val (.int p2), .val (.int p3), .val (.int p4), .val (.int b5), .val (.int b6), .val (.int b7), .val (.int b8), .val (.int b9), .val (.int b10), .val (.int b11), .val (.int ta), .val (.int tb), .val (.ref at118), .val (.ref at118), .unset, .unset, .unset, .unset, .unset] []))) (fun _ zz => XS.ifNo Xj132.here hx rfl (hb hby at_266) rfl ((if0 _ _).trans (feq q).1) zz) ?_
        refine Gl.st (U' := (Tj132.setTop (mkF m 271 #[.val (.int p0), .val (.int p1), .val (.int p2), .val (.int p3), .val (.int p4), .val (.int b5), .val (.int b6), .val (.int b7), .val (.int b8), .val (.int b9), .val (.int b10), .val (.int b11), .val (.int ta), .val (.int tb), .val (.ref at118), .val (.ref at118), .unset, .unset, .unset, .unset, .unset] [(.ref at118)]))) (fun _ zz => XS.aload Xj132.here hx rfl (hb hby at_269) rfl rfl zz) ?_
        refine gCallV Xj132 hx hZ (y := (⟨"com/example/rungsight/rungsight/flow/Variable", "takeAddress", "()V"⟩ : MethodName)) (z := (⟨"com/example/rungsight/rungsight/flow/Variable", "takeAddress", "()V"⟩ : MethodName)) hown (hw _ (List.mem_of_getElem? (i := 64) rfl)) (hw _ (List.mem_of_getElem? (i := 65) rfl)) (hw _ (List.mem_of_getElem? (i := 67) rfl)) (own_nf (args := #[]) (mvT hZ (hw _ (List.mem_of_getElem? (i := 50) rfl))) rfl) (hw _ (List.mem_of_getElem? (i := 66) rfl)) (hw _ (List.mem_of_getElem? (i := 3) rfl)) (hw _ (List.mem_of_getElem? (i := 68) rfl)) (by decide) (own_take_con l Z a0 hw Tj132.heap n0 at118 gaA za b7 vA VJ1) (rfl : Tj132.heap = Tj132.heap) VJ1.1 (by decide) (W := 0) (by decide) (by decide) (by decide) (g := (mkF m 271 #[.val (.int p0), .val (.int p1), .val (.int p2), .val (.int p3), .val (.int p4), .val (.int b5), .val (.int b6), .val (.int b7), .val (.int b8), .val (.int b9), .val (.int b10), .val (.int b11), .val (.int ta), .val (.int tb), .val (.ref at118), .val (.ref at118), .unset, .unset, .unset, .unset, .unset] [(.ref at118)])) rfl (by rw [hml]; rfl) (argsL := []) (rest := []) (lenOf own_pd4 rfl) rfl rfl (by show 2 * 0 + _ ≤ _; exact Nat.le_of_eq rfl) (hb hby at_271) ?_
        rintro _ Tt135 Lt135 Xt135 ⟨rfl, Nt135, Pt135, Vt135⟩
        show Gl p e below _ (Tt135.setTop (mkF m 274 #[.val (.int p0), .val (.int p1), .val (.int p2), .val (.int p3), .val (.int p4), .val (.int b5), .val (.int b6), .val (.int b7), .val (.int b8), .val (.int b9), .val (.int b10), .val (.int b11), .val (.int ta), .val (.int tb), .val (.ref at118), .val (.ref at118), .unset, .unset, .unset, .unset, .unset] []))
        exact Jzb _ _ 1 (Xt135.more (by decide) (by decide)) ⟨⟨fun z => absurd z (by decide), fun z => absurd z.2 q⟩, by simpa using Fr.app NJ1 Nt135, Vt135⟩
    intro Tj134 Lj134 zb Xj134 Hj134
    show Gl p e below _ (Tj134.setTop (mkF m 274 #[.val (.int p0), .val (.int p1), .val (.int p2), .val (.int p3), .val (.int p4), .val (.int b5), .val (.int b6), .val (.int b7), .val (.int b8), .val (.int b9), .val (.int b10), .val (.int b11), .val (.int ta), .val (.int tb), .val (.ref at118), .val (.ref at118), .unset, .unset, .unset, .unset, .unset] []))
    obtain ⟨-, NJ2, VJ2⟩ := Hj134
    refine Gl.st (U' := (Tj134.setTop (mkF m 276 #[.val (.int p0), .val (.int p1), .val (.int p2), .val (.int p3), .val (.int p4), .val (.int b5), .val (.int b6), .val (.int b7), .val (.int b8), .val (.int b9), .val (.int b10), .val (.int b11), .val (.int ta), .val (.int tb), .val (.ref at118), .val (.ref at118), .unset, .unset, .unset, .unset, .unset] [(.ref at118)]))) (fun _ zz => XS.aload Xj134.here hx rfl (hb hby at_274) rfl rfl zz) ?_
    refine Gl.st (U' := (Tj134.setTop (mkF m 278 #[.val (.int p0), .val (.int p1), .val (.int p2), .val (.int p3), .val (.int p4), .val (.int b5), .val (.int b6), .val (.int b7), .val (.int b8), .val (.int b9), .val (.int b10), .val (.int b11), .val (.int ta), .val (.int tb), .val (.ref at118), .val (.ref at118), .unset, .unset, .unset, .unset, .unset] [(.ref at118), (.ref at118)]))) (fun _ zz => XS.aload Xj134.here hx rfl (hb hby at_276) rfl rfl zz) ?_
    refine gCallV Xj134 hx hZ (y := (⟨"com/example/rungsight/rungsight/flow/Variable", "mayAlias", "(Lcom/example/rungsight/rungsight/flow/Variable;)Z"⟩ : MethodName)) (z := (⟨"com/example/rungsight/rungsight/flow/Variable", "mayAlias", "(Lcom/example/rungsight/rungsight/flow/Variable;)Z"⟩ : MethodName)) hown (hw _ (List.mem_of_getElem? (i := 47) rfl)) (hw _ (List.mem_of_getElem? (i := 48) rfl)) (hw _ (List.mem_of_getElem? (i := 50) rfl)) (own_nf (args := #[]) (mvT hZ (hw _ (List.mem_of_getElem? (i := 50) rfl))) rfl) (hw _ (List.mem_of_getElem? (i := 49) rfl)) (hw _ (List.mem_of_getElem? (i := 3) rfl)) (hw _ (List.mem_of_getElem? (i := 51) rfl)) (by decide) (own_al_con l Z a0 hw Tj134.heap at118 at118 zb zb b7 b7 vA vA hrA hrA VJ2 VJ2) (rfl : Tj134.heap = Tj134.heap) VJ2.1 (by decide) (W := 0) (by decide) (by decide) (by decide) (g := (mkF m 278 #[.val (.int p0), .val (.int p1), .val (.int p2), .val (.int p3), .val (.int p4), .val (.int b5), .val (.int b6), .val (.int b7), .val (.int b8), .val (.int b9), .val (.int b10), .val (.int b11), .val (.int ta), .val (.int tb), .val (.ref at118), .val (.ref at118), .unset, .unset, .unset, .unset, .unset] [(.ref at118), (.ref at118)])) rfl (by rw [hml]; rfl) (argsL := [(.ref at118)]) (rest := []) (lenOf own_pd5 rfl) rfl rfl (by show 2 * 0 + _ ≤ _; exact Nat.le_of_eq rfl) (hb hby at_278) ?_
    rintro _ Tt136 Lt136 Xt136 ⟨rfl, rfl, et136⟩
    show Gl p e below _ (Tt136.setTop (mkF m 281 #[.val (.int p0), .val (.int p1), .val (.int p2), .val (.int p3), .val (.int p4), .val (.int b5), .val (.int b6), .val (.int b7), .val (.int b8), .val (.int b9), .val (.int b10), .val (.int b11), .val (.int ta), .val (.int tb), .val (.ref at118), .val (.ref at118), .unset, .unset, .unset, .unset, .unset] [(.int (own_bi (¬ at118 = at118 ∧ ¬ zb = 0 ∧ ¬ zb = 0 ∧ (¬ b7 = 0 ∨ ¬ b7 = 0) ∧ vA = vA)))]))
    refine Gl.st (U' := (Tt136.setTop (mkF m 283 #[.val (.int p0), .val (.int p1), .val (.int p2), .val (.int p3), .val (.int p4), .val (.int b5), .val (.int b6), .val (.int b7), .val (.int b8), .val (.int b9), .val (.int b10), .val (.int b11), .val (.int ta), .val (.int tb), .val (.ref at118), .val (.ref at118), .val (.int (own_bi (¬ at118 = at118 ∧ ¬ zb = 0 ∧ ¬ zb = 0 ∧ (¬ b7 = 0 ∨ ¬ b7 = 0) ∧ vA = vA))), .unset, .unset, .unset, .unset] []))) (fun _ zz => XS.istore Xt136.here hx rfl (hb hby at_281) rfl (l' := #[.val (.int p0), .val (.int p1), .val (.int p2), .val (.int p3), .val (.int p4), .val (.int b5), .val (.int b6), .val (.int b7), .val (.int b8), .val (.int b9), .val (.int b10), .val (.int b11), .val (.int ta), .val (.int tb), .val (.ref at118), .val (.ref at118), .val (.int (own_bi (¬ at118 = at118 ∧ ¬ zb = 0 ∧ ¬ zb = 0 ∧ (¬ b7 = 0 ∨ ¬ b7 = 0) ∧ vA = vA))), .unset, .unset, .unset, .unset]) rfl zz) ?_
    refine Gl.st (U' := (Tt136.setTop (mkF m 285 #[.val (.int p0), .val (.int p1), .val (.int p2), .val (.int p3), .val (.int p4), .val (.int b5), .val (.int b6), .val (.int b7), .val (.int b8), .val (.int b9), .val (.int b10), .val (.int b11), .val (.int ta), .val (.int tb), .val (.ref at118), .val (.ref at118), .val (.int (own_bi (¬ at118 = at118 ∧ ¬ zb = 0 ∧ ¬ zb = 0 ∧ (¬ b7 = 0 ∨ ¬ b7 = 0) ∧ vA = vA))), .unset, .unset, .unset, .unset] [(.ref at118)]))) (fun _ zz => XS.aload Xt136.here hx rfl (hb hby at_283) rfl rfl zz) ?_
    refine Gl.st (U' := (Tt136.setTop (mkF m 287 #[.val (.int p0), .val (.int p1), .val (.int p2), .val (.int p3), .val (.int p4), .val (.int b5), .val (.int b6), .val (.int b7), .val (.int b8), .val (.int b9), .val (.int b10), .val (.int b11), .val (.int ta), .val (.int tb), .val (.ref at118), .val (.ref at118), .val (.int (own_bi (¬ at118 = at118 ∧ ¬ zb = 0 ∧ ¬ zb = 0 ∧ (¬ b7 = 0 ∨ ¬ b7 = 0) ∧ vA = vA))), .unset, .unset, .unset, .unset] [(.ref at118), (.ref at118)]))) (fun _ zz => XS.aload Xt136.here hx rfl (hb hby at_285) rfl rfl zz) ?_
    refine gCallV Xt136 hx hZ (y := (⟨"com/example/rungsight/rungsight/flow/Variable", "mayAlias", "(Lcom/example/rungsight/rungsight/flow/Variable;)Z"⟩ : MethodName)) (z := (⟨"com/example/rungsight/rungsight/flow/Variable", "mayAlias", "(Lcom/example/rungsight/rungsight/flow/Variable;)Z"⟩ : MethodName)) hown (hw _ (List.mem_of_getElem? (i := 47) rfl)) (hw _ (List.mem_of_getElem? (i := 48) rfl)) (hw _ (List.mem_of_getElem? (i := 50) rfl)) (own_nf (args := #[]) (mvT hZ (hw _ (List.mem_of_getElem? (i := 50) rfl))) rfl) (hw _ (List.mem_of_getElem? (i := 49) rfl)) (hw _ (List.mem_of_getElem? (i := 3) rfl)) (hw _ (List.mem_of_getElem? (i := 51) rfl)) (by decide) (own_al_con l Z a0 hw Tj134.heap at118 at118 zb zb b7 b7 vA vA hrA hrA VJ2 VJ2) et136 VJ2.1 (by decide) (W := 0) (by decide) (by decide) (by decide) (g := (mkF m 287 #[.val (.int p0), .val (.int p1), .val (.int p2), .val (.int p3), .val (.int p4), .val (.int b5), .val (.int b6), .val (.int b7), .val (.int b8), .val (.int b9), .val (.int b10), .val (.int b11), .val (.int ta), .val (.int tb), .val (.ref at118), .val (.ref at118), .val (.int (own_bi (¬ at118 = at118 ∧ ¬ zb = 0 ∧ ¬ zb = 0 ∧ (¬ b7 = 0 ∨ ¬ b7 = 0) ∧ vA = vA))), .unset, .unset, .unset, .unset] [(.ref at118), (.ref at118)])) rfl (by rw [hml]; rfl) (argsL := [(.ref at118)]) (rest := []) (lenOf own_pd5 rfl) rfl rfl (by show 2 * 0 + _ ≤ _; exact Nat.le_of_eq rfl) (hb hby at_287) ?_
    rintro _ Tt137 Lt137 Xt137 ⟨rfl, rfl, et137⟩
    show Gl p e below _ (Tt137.setTop (mkF m 290 #[.val (.int p0), .val (.int p1), .val (.int p2), .val (.int p3), .val (.int p4), .val (.int b5), .val (.int b6), .val (.int b7), .val (.int b8), .val (.int b9), .val (.int b10), .val (.int b11), .val (.int ta), .val (.int tb), .val (.ref at118), .val (.ref at118), .val (.int (own_bi (¬ at118 = at118 ∧ ¬ zb = 0 ∧ ¬ zb = 0 ∧ (¬ b7 = 0 ∨ ¬ b7 = 0) ∧ vA = vA))), .unset, .unset, .unset, .unset] [(.int (own_bi (¬ at118 = at118 ∧ ¬ zb = 0 ∧ ¬ zb = 0 ∧ (¬ b7 = 0 ∨ ¬ b7 = 0) ∧ vA = vA)))]))
    refine Gl.st (U' := (Tt137.setTop (mkF m 292 #[.val (.int p0), .val (.int p1), .val (.int p2), .val (.int p3), .val (.int p4), .val (.int b5), .val (.int b6), .val (.int b7), .val (.int b8), .val (.int b9), .val (.int b10), .val (.int b11), .val (.int ta), .val (.int tb), .val (.ref at118), .val (.ref at118), .val (.int (own_bi (¬ at118 = at118 ∧ ¬ zb = 0 ∧ ¬ zb = 0 ∧ (¬ b7 = 0 ∨ ¬ b7 = 0) ∧ vA = vA))), .val (.int (own_bi (¬ at118 = at118 ∧ ¬ zb = 0 ∧ ¬ zb = 0 ∧ (¬ b7 = 0 ∨ ¬ b7 = 0) ∧ vA = vA))), .unset, .unset, .unset] []))) (fun _ zz => XS.istore Xt137.here hx rfl (hb hby at_290) rfl (l' := #[.val (.int p0), .val (.int p1), .val (.int p2), .val (.int p3), .val (.int p4), .val (.int b5), .val (.int b6), .val (.int b7), .val (.int b8), .val (.int b9), .val (.int b10), .val (.int b11), .val (.int ta), .val (.int tb), .val (.ref at118), .val (.ref at118), .val (.int (own_bi (¬ at118 = at118 ∧ ¬ zb = 0 ∧ ¬ zb = 0 ∧ (¬ b7 = 0 ∨ ¬ b7 = 0) ∧ vA = vA))), .val (.int (own_bi (¬ at118 = at118 ∧ ¬ zb = 0 ∧ ¬ zb = 0 ∧ (¬ b7 = 0 ∨ ¬ b7 = 0) ∧ vA = vA))), .unset, .unset, .unset]) rfl zz) ?_
    refine Gl.st (U' := (Tt137.setTop (mkF m 294 #[.val (.int p0), .val (.int p1), .val (.int p2), .val (.int p3), .val (.int p4), .val (.int b5), .val (.int b6), .val (.int b7), .val (.int b8), .val (.int b9), .val (.int b10), .val (.int b11), .val (.int ta), .val (.int tb), .val (.ref at118), .val (.ref at118), .val (.int (own_bi (¬ at118 = at118 ∧ ¬ zb = 0 ∧ ¬ zb = 0 ∧ (¬ b7 = 0 ∨ ¬ b7 = 0) ∧ vA = vA))), .val (.int (own_bi (¬ at118 = at118 ∧ ¬ zb = 0 ∧ ¬ zb = 0 ∧ (¬ b7 = 0 ∨ ¬ b7 = 0) ∧ vA = vA))), .unset, .unset, .unset] [(.int b9)]))) (fun _ zz => XS.iload Xt137.here hx rfl (hb hby at_292) rfl zz) ?_
    refine Gl.st (U' := (Tt137.setTop (mkF m 297 #[.val (.int p0), .val (.int p1), .val (.int p2), .val (.int p3), .val (.int p4), .val (.int b5), .val (.int b6), .val (.int b7), .val (.int b8), .val (.int b9), .val (.int b10), .val (.int b11), .val (.int ta), .val (.int tb), .val (.ref at118), .val (.ref at118), .val (.int (own_bi (¬ at118 = at118 ∧ ¬ zb = 0 ∧ ¬ zb = 0 ∧ (¬ b7 = 0 ∨ ¬ b7 = 0) ∧ vA = vA))), .val (.int (own_bi (¬ at118 = at118 ∧ ¬ zb = 0 ∧ ¬ zb = 0 ∧ (¬ b7 = 0 ∨ ¬ b7 = 0) ∧ vA = vA))), .unset, .unset, .unset] []))) (fun _ zz => XS.ifNo Xt137.here hx rfl (hb hby at_294) rfl ((if0 _ _).trans (feq qself).1) zz) ?_
    refine Gl.st (U' := (Tt137.setTop (mkF m 298 #[.val (.int p0), .val (.int p1), .val (.int p2), .val (.int p3), .val (.int p4), .val (.int b5), .val (.int b6), .val (.int b7), .val (.int b8), .val (.int b9), .val (.int b10), .val (.int b11), .val (.int ta), .val (.int tb), .val (.ref at118), .val (.ref at118), .val (.int (own_bi (¬ at118 = at118 ∧ ¬ zb = 0 ∧ ¬ zb = 0 ∧ (¬ b7 = 0 ∨ ¬ b7 = 0) ∧ vA = vA))), .val (.int (own_bi (¬ at118 = at118 ∧ ¬ zb = 0 ∧ ¬ zb = 0 ∧ (¬ b7 = 0 ∨ ¬ b7 = 0) ∧ vA = vA))), .unset, .unset, .unset] [(.int (0 : Int32))]))) (fun _ zz => XS.iconst Xt137.here hx rfl (hb hby at_297) zz) ?_
    refine Gl.st (U' := (Tt137.setTop (mkF m 300 #[.val (.int p0), .val (.int p1), .val (.int p2), .val (.int p3), .val (.int p4), .val (.int b5), .val (.int b6), .val (.int b7), .val (.int b8), .val (.int b9), .val (.int b10), .val (.int b11), .val (.int ta), .val (.int tb), .val (.ref at118), .val (.ref at118), .val (.int (own_bi (¬ at118 = at118 ∧ ¬ zb = 0 ∧ ¬ zb = 0 ∧ (¬ b7 = 0 ∨ ¬ b7 = 0) ∧ vA = vA))), .val (.int (own_bi (¬ at118 = at118 ∧ ¬ zb = 0 ∧ ¬ zb = 0 ∧ (¬ b7 = 0 ∨ ¬ b7 = 0) ∧ vA = vA))), .val (.int (0 : Int32)), .unset, .unset] []))) (fun _ zz => XS.istore Xt137.here hx rfl (hb hby at_298) rfl (l' := #[.val (.int p0), .val (.int p1), .val (.int p2), .val (.int p3), .val (.int p4), .val (.int b5), .val (.int b6), .val (.int b7), .val (.int b8), .val (.int b9), .val (.int b10), .val (.int b11), .val (.int ta), .val (.int tb), .val (.ref at118), .val (.ref at118), .val (.int (own_bi (¬ at118 = at118 ∧ ¬ zb = 0 ∧ ¬ zb = 0 ∧ (¬ b7 = 0 ∨ ¬ b7 = 0) ∧ vA = vA))), .val (.int (own_bi (¬ at118 = at118 ∧ ¬ zb = 0 ∧ ¬ zb = 0 ∧ (¬ b7 = 0 ∨ ¬ b7 = 0) ∧ vA = vA))), .val (.int (0 : Int32)), .unset, .unset]) rfl zz) ?_
    refine Gl.st (U' := (Tt137.setTop (mkF m 371 #[.val (.int p0), .val (.int p1), .val (.int p2), .val (.int p3), .val (.int p4), .val (.int b5), .val (.int b6), .val (.int b7), .val (.int b8), .val (.int b9), .val (.int b10), .val (.int b11), .val (.int ta), .val (.int tb), .val (.ref at118), .val (.ref at118), .val (.int (own_bi (¬ at118 = at118 ∧ ¬ zb = 0 ∧ ¬ zb = 0 ∧ (¬ b7 = 0 ∨ ¬ b7 = 0) ∧ vA = vA))), .val (.int (own_bi (¬ at118 = at118 ∧ ¬ zb = 0 ∧ ¬ zb = 0 ∧ (¬ b7 = 0 ∨ ¬ b7 = 0) ∧ vA = vA))), .val (.int (0 : Int32)), .unset, .unset] []))) (fun _ zz => XS.goto Xt137.here hx rfl (pc0 := 300) (pc' := 371) rfl (hb hby at_300) (by decide) (by decide) zz) ?_
    refine Gl.st (U' := (Tt137.setTop (mkF m 373 #[.val (.int p0), .val (.int p1), .val (.int p2), .val (.int p3), .val (.int p4), .val (.int b5), .val (.int b6), .val (.int b7), .val (.int b8), .val (.int b9), .val (.int b10), .val (.int b11), .val (.int ta), .val (.int tb), .val (.ref at118), .val (.ref at118), .val (.int (own_bi (¬ at118 = at118 ∧ ¬ zb = 0 ∧ ¬ zb = 0 ∧ (¬ b7 = 0 ∨ ¬ b7 = 0) ∧ vA = vA))), .val (.int (own_bi (¬ at118 = at118 ∧ ¬ zb = 0 ∧ ¬ zb = 0 ∧ (¬ b7 = 0 ∨ ¬ b7 = 0) ∧ vA = vA))), .val (.int (0 : Int32)), .unset, .unset] [(.int (own_bi (¬ at118 = at118 ∧ ¬ zb = 0 ∧ ¬ zb = 0 ∧ (¬ b7 = 0 ∨ ¬ b7 = 0) ∧ vA = vA)))]))) (fun _ zz => XS.iload Xt137.here hx rfl (hb hby at_371) rfl zz) ?_
    refine Gl.st (U' := (Tt137.setTop (mkF m 375 #[.val (.int p0), .val (.int p1), .val (.int p2), .val (.int p3), .val (.int p4), .val (.int b5), .val (.int b6), .val (.int b7), .val (.int b8), .val (.int b9), .val (.int b10), .val (.int b11), .val (.int ta), .val (.int tb), .val (.ref at118), .val (.ref at118), .val (.int (own_bi (¬ at118 = at118 ∧ ¬ zb = 0 ∧ ¬ zb = 0 ∧ (¬ b7 = 0 ∨ ¬ b7 = 0) ∧ vA = vA))), .val (.int (own_bi (¬ at118 = at118 ∧ ¬ zb = 0 ∧ ¬ zb = 0 ∧ (¬ b7 = 0 ∨ ¬ b7 = 0) ∧ vA = vA))), .val (.int (0 : Int32)), .unset, .unset] [(.int (0 : Int32)), (.int (own_bi (¬ at118 = at118 ∧ ¬ zb = 0 ∧ ¬ zb = 0 ∧ (¬ b7 = 0 ∨ ¬ b7 = 0) ∧ vA = vA)))]))) (fun _ zz => XS.iload Xt137.here hx rfl (hb hby at_373) rfl zz) ?_
    have hq1 : own_bi (¬ at118 = at118 ∧ ¬ zb = 0 ∧ ¬ zb = 0 ∧ (¬ b7 = 0 ∨ ¬ b7 = 0) ∧ vA = vA) = 0 := own_bi_f (fun q => q.1 rfl)
    refine Gl.st (U' := (Tt137.setTop (mkF m 378 #[.val (.int p0), .val (.int p1), .val (.int p2), .val (.int p3), .val (.int p4), .val (.int b5), .val (.int b6), .val (.int b7), .val (.int b8), .val (.int b9), .val (.int b10), .val (.int b11), .val (.int ta), .val (.int tb), .val (.ref at118), .val (.ref at118), .val (.int (own_bi (¬ at118 = at118 ∧ ¬ zb = 0 ∧ ¬ zb = 0 ∧ (¬ b7 = 0 ∨ ¬ b7 = 0) ∧ vA = vA))), .val (.int (own_bi (¬ at118 = at118 ∧ ¬ zb = 0 ∧ ¬ zb = 0 ∧ (¬ b7 = 0 ∨ ¬ b7 = 0) ∧ vA = vA))), .val (.int (0 : Int32)), .unset, .unset] []))) (fun _ zz => XS.icmpNo Xt137.here hx rfl (hb hby at_375) rfl (teq hq1).2 zz) ?_
    refine Gl.st (U' := (Tt137.setTop (mkF m 380 #[.val (.int p0), .val (.int p1), .val (.int p2), .val (.int p3), .val (.int p4), .val (.int b5), .val (.int b6), .val (.int b7), .val (.int b8), .val (.int b9), .val (.int b10), .val (.int b11), .val (.int ta), .val (.int tb), .val (.ref at118), .val (.ref at118), .val (.int (own_bi (¬ at118 = at118 ∧ ¬ zb = 0 ∧ ¬ zb = 0 ∧ (¬ b7 = 0 ∨ ¬ b7 = 0) ∧ vA = vA))), .val (.int (own_bi (¬ at118 = at118 ∧ ¬ zb = 0 ∧ ¬ zb = 0 ∧ (¬ b7 = 0 ∨ ¬ b7 = 0) ∧ vA = vA))), .val (.int (0 : Int32)), .unset, .unset] [(.int (own_bi (¬ at118 = at118 ∧ ¬ zb = 0 ∧ ¬ zb = 0 ∧ (¬ b7 = 0 ∨ ¬ b7 = 0) ∧ vA = vA)))]))) (fun _ zz => XS.iload Xt137.here hx rfl (hb hby at_378) rfl zz) ?_
    refine Gl.st (U' := (Tt137.setTop (mkF m 382 #[.val (.int p0), .val (.int p1), .val (.int p2), .val (.int p3), .val (.int p4), .val (.int b5), .val (.int b6), .val (.int b7), .val (.int b8), .val (.int b9), .val (.int b10), .val (.int b11), .val (.int ta), .val (.int tb), .val (.ref at118), .val (.ref at118), .val (.int (own_bi (¬ at118 = at118 ∧ ¬ zb = 0 ∧ ¬ zb = 0 ∧ (¬ b7 = 0 ∨ ¬ b7 = 0) ∧ vA = vA))), .val (.int (own_bi (¬ at118 = at118 ∧ ¬ zb = 0 ∧ ¬ zb = 0 ∧ (¬ b7 = 0 ∨ ¬ b7 = 0) ∧ vA = vA))), .val (.int (0 : Int32)), .unset, .unset] [(.int (0 : Int32)), (.int (own_bi (¬ at118 = at118 ∧ ¬ zb = 0 ∧ ¬ zb = 0 ∧ (¬ b7 = 0 ∨ ¬ b7 = 0) ∧ vA = vA)))]))) (fun _ zz => XS.iload Xt137.here hx rfl (hb hby at_380) rfl zz) ?_
    refine Gl.st (U' := (Tt137.setTop (mkF m 385 #[.val (.int p0), .val (.int p1), .val (.int p2), .val (.int p3), .val (.int p4), .val (.int b5), .val (.int b6), .val (.int b7), .val (.int b8), .val (.int b9), .val (.int b10), .val (.int b11), .val (.int ta), .val (.int tb), .val (.ref at118), .val (.ref at118), .val (.int (own_bi (¬ at118 = at118 ∧ ¬ zb = 0 ∧ ¬ zb = 0 ∧ (¬ b7 = 0 ∨ ¬ b7 = 0) ∧ vA = vA))), .val (.int (own_bi (¬ at118 = at118 ∧ ¬ zb = 0 ∧ ¬ zb = 0 ∧ (¬ b7 = 0 ∨ ¬ b7 = 0) ∧ vA = vA))), .val (.int (0 : Int32)), .unset, .unset] []))) (fun _ zz => XS.icmpNo Xt137.here hx rfl (hb hby at_382) rfl (teq hq1).2 zz) ?_
    refine Gl.st (U' := (Tt137.setTop (mkF m 386 #[.val (.int p0), .val (.int p1), .val (.int p2), .val (.int p3), .val (.int p4), .val (.int b5), .val (.int b6), .val (.int b7), .val (.int b8), .val (.int b9), .val (.int b10), .val (.int b11), .val (.int ta), .val (.int tb), .val (.ref at118), .val (.ref at118), .val (.int (own_bi (¬ at118 = at118 ∧ ¬ zb = 0 ∧ ¬ zb = 0 ∧ (¬ b7 = 0 ∨ ¬ b7 = 0) ∧ vA = vA))), .val (.int (own_bi (¬ at118 = at118 ∧ ¬ zb = 0 ∧ ¬ zb = 0 ∧ (¬ b7 = 0 ∨ ¬ b7 = 0) ∧ vA = vA))), .val (.int (0 : Int32)), .unset, .unset] [(.int (1 : Int32))]))) (fun _ zz => XS.iconst Xt137.here hx rfl (hb hby at_385) zz) ?_
    refine Gl.st (U' := (Tt137.setTop (mkF m 390 #[.val (.int p0), .val (.int p1), .val (.int p2), .val (.int p3), .val (.int p4), .val (.int b5), .val (.int b6), .val (.int b7), .val (.int b8), .val (.int b9), .val (.int b10), .val (.int b11), .val (.int ta), .val (.int tb), .val (.ref at118), .val (.ref at118), .val (.int (own_bi (¬ at118 = at118 ∧ ¬ zb = 0 ∧ ¬ zb = 0 ∧ (¬ b7 = 0 ∨ ¬ b7 = 0) ∧ vA = vA))), .val (.int (own_bi (¬ at118 = at118 ∧ ¬ zb = 0 ∧ ¬ zb = 0 ∧ (¬ b7 = 0 ∨ ¬ b7 = 0) ∧ vA = vA))), .val (.int (0 : Int32)), .unset, .unset] [(.int (1 : Int32))]))) (fun _ zz => XS.goto Xt137.here hx rfl (pc0 := 386) (pc' := 390) rfl (hb hby at_386) (by decide) (by decide) zz) ?_
    exact Gl.retZ Xt137 hx hret hlk (hb hby at_390) (Or.inr rfl) ⟨rfl, by simpa using NJ2⟩ (by decide) (by decide)
set_option maxRecDepth 65536 in
set_option maxHeartbeats 40000000 in
theorem comes_1 {Post : Tables → Env → Array Value → State → Outcome → State → Prop} (hpost : ∀ tb e args s v u, (limb_1_1.after args s (.returned v) u = true ∧ limb_1_2.after args s (.returned v) u = true ∧ True) → FrameEnd s (.returned v) u (Jvm.fieldLocs frame_1_writes args s ++ Jvm.arrayLocs frame_1_arrays args s ++ Jvm.staticLocs frame_1_statics s) 16 128 → Post tb e args s (.returned v) u) :
    ArmFor flags0 classFile x code maxLocals ret World_1 tables_1 room_1 Calls_1 rest_1 Pre_1 Post := by
  intro l hfl _ _ p e ha hc hk s m args below hf hA hF happ hP
  obtain ⟨hcalls, hrest, hpre⟩ := hP
  obtain ⟨-, -, -, hnamed, -, -, -, hat⟩ := (Spec.applies_iff hf).mp happ
  obtain ⟨hg, hn⟩ := and_e (Cond.before_iff.mp (show (Jvm.Cond.and given_1 narrow_1).before args s = true from hpre))
  obtain ⟨hcount, hg⟩ := and_e hg
  obtain ⟨hg0, hg⟩ := and_e hg
  obtain ⟨hg1, hg⟩ := and_e hg
  obtain ⟨hg2, hg⟩ := and_e hg
  obtain ⟨hg3, hg⟩ := and_e hg
  have hg4 := hg
  obtain ⟨w0, w1, w2, w3, w4, rfl⟩ : ∃ w0 w1 w2 w3 w4 : Value, args = #[w0, w1, w2, w3, w4] := by
    have hs : args.size = 5 := by simpa [Cond.value, given_1] using hcount
    obtain ⟨L⟩ := args
    match L, hs with
    | [w0, w1, w2, w3, w4], _ => exact ⟨w0, w1, w2, w3, w4, rfl⟩
  have hw := fun d (hd : d ∈ tables_1) => atoms_spec (ws := Jvm.Cond.code x code maxLocals ret :: tables_1) hat d (List.mem_cons_of_mem _ hd)
  have hfit : Fit s := fun {y c} hc i hi => by
    obtain ⟨ha, rfl⟩ := Array.getElem?_eq_some_iff.mp hc
    have q := List.all_eq_true.mp ((Array.all_eq_true_iff_forall_mem.mp hF) _ (Array.getElem_mem ha)) i (List.mem_range.mpr hi)
    simpa [Array.getElem?_eq_getElem hi] using q
  obtain ⟨i0, ev0⟩ := is_v hg0
  obtain rfl : w0 = (.int i0) := Option.some.inj ev0
  obtain ⟨i1, ev1⟩ := is_v hg1
  obtain rfl : w1 = (.int i1) := Option.some.inj ev1
  obtain ⟨i2, ev2⟩ := is_v hg2
  obtain rfl : w2 = (.int i2) := Option.some.inj ev2
  obtain ⟨i3, ev3⟩ := is_v hg3
  obtain rfl : w3 = (.int i3) := Option.some.inj ev3
  obtain ⟨i4, ev4⟩ := is_v hg4
  obtain rfl : w4 = (.int i4) := Option.some.inj ev4
  obtain ⟨hn0, hn⟩ := and_e hn
  obtain ⟨hn1, hn⟩ := and_e hn
  obtain ⟨hn2, hn⟩ := and_e hn
  obtain ⟨hn3, hn⟩ := and_e hn
  obtain ⟨hn4, hn⟩ := and_e hn
  obtain ⟨hn5, hn⟩ := and_e hn
  obtain ⟨hn6, hn⟩ := and_e hn
  obtain ⟨hn7, hn⟩ := and_e hn
  obtain ⟨hn8, hn⟩ := and_e hn
  obtain ⟨hn9, hn⟩ := and_e hn
  obtain ⟨hn10, hn⟩ := and_e hn
  obtain ⟨hn11, hn⟩ := and_e hn
  obtain ⟨hn12, hn⟩ := and_e hn
  obtain ⟨hn13, hn⟩ := and_e hn
  obtain ⟨hn14, hn⟩ := and_e hn
  obtain ⟨hn15, hn⟩ := and_e hn
  obtain ⟨hn16, hn⟩ := and_e hn
  obtain ⟨hn17, hn⟩ := and_e hn
  obtain ⟨hn18, hn⟩ := and_e hn
  obtain ⟨hn19, hn⟩ := and_e hn
  obtain ⟨hn20, hn⟩ := and_e hn
  obtain ⟨hn21, hn⟩ := and_e hn
  obtain ⟨hn22, hn⟩ := and_e hn
  obtain ⟨hn23, hn⟩ := and_e hn
  obtain ⟨hn24, hn⟩ := and_e hn
  obtain ⟨hn25, hn⟩ := and_e hn
  obtain ⟨hn26, hn⟩ := and_e hn
  obtain ⟨hn27, hn⟩ := and_e hn
  have hn28 := hn
  obtain ⟨vLINT, exLINT⟩ := exa_v hn0
  have SLINT := Sta.start exLINT (Or.inr ⟨(hw _ (List.mem_of_getElem? (i := 9) rfl)), (hw _ (List.mem_of_getElem? (i := 10) rfl))⟩)
  obtain ⟨vRESULT, exRESULT⟩ := exa_v hn1
  have SRESULT := Sta.start exRESULT (Or.inr ⟨(hw _ (List.mem_of_getElem? (i := 15) rfl)), (hw _ (List.mem_of_getElem? (i := 16) rfl))⟩)
  obtain ⟨vDINT, exDINT⟩ := exa_v hn2
  have SDINT := Sta.start exDINT (Or.inr ⟨(hw _ (List.mem_of_getElem? (i := 9) rfl)), (hw _ (List.mem_of_getElem? (i := 44) rfl))⟩)
  obtain ⟨vDECLARED, exDECLARED⟩ := exa_v hn3
  have SDECLARED := Sta.start exDECLARED (Or.inr ⟨(hw _ (List.mem_of_getElem? (i := 15) rfl)), (hw _ (List.mem_of_getElem? (i := 46) rfl))⟩)
  obtain ⟨vUSINT, exUSINT⟩ := exa_v hn4
  have SUSINT := Sta.start exUSINT (Or.inr ⟨(hw _ (List.mem_of_getElem? (i := 9) rfl)), (hw _ (List.mem_of_getElem? (i := 53) rfl))⟩)
  obtain ⟨vDWORD, exDWORD⟩ := exa_v hn5
  have SDWORD := Sta.start exDWORD (Or.inr ⟨(hw _ (List.mem_of_getElem? (i := 9) rfl)), (hw _ (List.mem_of_getElem? (i := 55) rfl))⟩)
  obtain ⟨vUINT, exUINT⟩ := exa_v hn6
  have SUINT := Sta.start exUINT (Or.inr ⟨(hw _ (List.mem_of_getElem? (i := 9) rfl)), (hw _ (List.mem_of_getElem? (i := 57) rfl))⟩)
  obtain ⟨vCURRENT_RESULT, exCURRENT_RESULT⟩ := exa_v hn7
  have SCURRENT_RESULT := Sta.start exCURRENT_RESULT (Or.inr ⟨(hw _ (List.mem_of_getElem? (i := 15) rfl)), (hw _ (List.mem_of_getElem? (i := 59) rfl))⟩)
  obtain ⟨vWORD, exWORD⟩ := exa_v hn8
  have SWORD := Sta.start exWORD (Or.inr ⟨(hw _ (List.mem_of_getElem? (i := 9) rfl)), (hw _ (List.mem_of_getElem? (i := 61) rfl))⟩)
  obtain ⟨vGLOBAL, exGLOBAL⟩ := exa_v hn9
  have SGLOBAL := Sta.start exGLOBAL (Or.inr ⟨(hw _ (List.mem_of_getElem? (i := 15) rfl)), (hw _ (List.mem_of_getElem? (i := 63) rfl))⟩)
  obtain ⟨vINSTANCE, exINSTANCE⟩ := exa_v hn10
  have SINSTANCE := Sta.start exINSTANCE (Or.inr ⟨(hw _ (List.mem_of_getElem? (i := 15) rfl)), (hw _ (List.mem_of_getElem? (i := 72) rfl))⟩)
  obtain ⟨vINT, exINT⟩ := exa_v hn11
  have SINT := Sta.start exINT (Or.inr ⟨(hw _ (List.mem_of_getElem? (i := 9) rfl)), (hw _ (List.mem_of_getElem? (i := 74) rfl))⟩)
  obtain ⟨vULINT, exULINT⟩ := exa_v hn12
  have SULINT := Sta.start exULINT (Or.inr ⟨(hw _ (List.mem_of_getElem? (i := 9) rfl)), (hw _ (List.mem_of_getElem? (i := 76) rfl))⟩)
  obtain ⟨vUDINT, exUDINT⟩ := exa_v hn15
  have SUDINT := Sta.start exUDINT (Or.inr ⟨(hw _ (List.mem_of_getElem? (i := 9) rfl)), (hw _ (List.mem_of_getElem? (i := 78) rfl))⟩)
  obtain ⟨vSINT, exSINT⟩ := exa_v hn16
  have SSINT := Sta.start exSINT (Or.inr ⟨(hw _ (List.mem_of_getElem? (i := 9) rfl)), (hw _ (List.mem_of_getElem? (i := 80) rfl))⟩)
  obtain ⟨vBYTE, exBYTE⟩ := exa_v hn17
  have SBYTE := Sta.start exBYTE (Or.inr ⟨(hw _ (List.mem_of_getElem? (i := 9) rfl)), (hw _ (List.mem_of_getElem? (i := 82) rfl))⟩)
  obtain ⟨vLWORD, exLWORD⟩ := exa_v hn20
  have SLWORD := Sta.start exLWORD (Or.inr ⟨(hw _ (List.mem_of_getElem? (i := 9) rfl)), (hw _ (List.mem_of_getElem? (i := 84) rfl))⟩)
  have FDWORD := Fld.start ((fld_at exDWORD).symm.trans (eqv_i (Term.int_eval _) hn13))
  have FINT := Fld.start ((fld_at exINT).symm.trans (eqv_i (Term.int_eval _) hn14))
  have FUSINT := Fld.start ((fld_at exUSINT).symm.trans (eqv_i (Term.int_eval _) hn18))
  have FSINT := Fld.start ((fld_at exSINT).symm.trans (eqv_i (Term.int_eval _) hn19))
  have FLINT := Fld.start ((fld_at exLINT).symm.trans (eqv_i (Term.int_eval _) hn21))
  have FUINT := Fld.start ((fld_at exUINT).symm.trans (eqv_i (Term.int_eval _) hn22))
  have FWORD := Fld.start ((fld_at exWORD).symm.trans (eqv_i (Term.int_eval _) hn23))
  have FUDINT := Fld.start ((fld_at exUDINT).symm.trans (eqv_i (Term.int_eval _) hn24))
  have FDINT := Fld.start ((fld_at exDINT).symm.trans (eqv_i (Term.int_eval _) hn25))
  have FULINT := Fld.start ((fld_at exULINT).symm.trans (eqv_i (Term.int_eval _) hn26))
  have FBYTE := Fld.start ((fld_at exBYTE).symm.trans (eqv_i (Term.int_eval _) hn27))
  have FLWORD := Fld.start ((fld_at exLWORD).symm.trans (eqv_i (Term.int_eval _) hn28))
  obtain ⟨n, o, h1, h2, h3, _, L, rfl, ⟨rfl, N⟩, hq⟩ := own_law l s _ hw s.heap s.heap.size (Old.start s) vSINT vINT vDINT vLINT vUSINT vUINT vUDINT vULINT vBYTE vWORD vDWORD vLWORD vDECLARED vRESULT vINSTANCE vGLOBAL vCURRENT_RESULT ⟨SSINT, SINT, SDINT, SLINT, SUSINT, SUINT, SUDINT, SULINT, SBYTE, SWORD, SDWORD, SLWORD⟩ ⟨SDECLARED, SRESULT, SINSTANCE, SGLOBAL, SCURRENT_RESULT⟩ ⟨FSINT, FINT, FDINT, FLINT, FUSINT, FUINT, FUDINT, FULINT, FBYTE, FWORD, FDWORD, FLWORD⟩ i0 i1 i2 i3 i4 p e ha hc hk s m _ below hf ((Spec.applies_iff_loose hf).mp happ).1 ⟨rfl, State.Warmed39.refl s, rfl⟩ trivial
  refine ⟨n, _, h1, h2, h3, hpost _ _ _ _ _ _ ⟨Cond.after_iff.mpr rfl, Cond.after_iff.mpr (eq_i res_at (Term.int_eval (1)) rfl), trivial⟩ ⟨hq.1, hq.2.1, (hq.2.2.sift fun y hy => Or.inr (N y hy)).mono (by decide) (by decide)⟩⟩
theorem main_1_1 : Claimed_1_1 := comes_1 fun _ _ _ _ _ _ h hF => ⟨h.1, hF⟩
theorem main_1_2 : Claimed_1_2 := comes_1 fun _ _ _ _ _ _ h hF => ⟨h.2.1, hF⟩
end Jvm.Pilot.@@N@@
namespace Jvm.Pilot.@@N@@
open Jvm Jvm.ClassFile Sem Op Lib Jvm.Free Jvm.Stand Jvm.Pilot.@@N@@.Jvm.D
/-! MADE BY PROGRAM (witnessworld.py) out of the Statement's table words and the real class files: 14 classes; the members and pool entries that the words name. The judged class is class 1, her method 3. -/
namespace start1
open Jvm.ClassFile
def tkD : String := match (tables_1[23]? : Option Jvm.Cond) with
  | some (Jvm.Cond.fieldLink _ _ _ _ d) => d
  | _ => ""
def tkT : FieldType := Jvm.RoadKit.own_ty tkD
def u (s : String) : CpInfo := .utf8 (stringToUtf16 s)
/-- a pool by its gaps: so many unusable entries, then the entry; so many at the end -/
def gap : Nat → List CpInfo → List CpInfo
  | 0, r => r
  | n + 1, r => .unusable :: gap n r
def poolList (es : List (Nat × CpInfo)) (last : Nat) : List CpInfo := es.foldr (fun e r => gap e.1 (e.2 :: r)) (gap last [])
def pool (es : List (Nat × CpInfo)) (last : Nat) : Array CpInfo := ⟨poolList es last⟩
def fileOf (pool : Array CpInfo) (this : Nat) (attrs : Array Attribute := #[]) (ms : Array MethodInfo := #[]) (fl : Nat := 33) (sup : Nat := 0) (ifs : Array Nat := #[]) (fds : Array FieldInfo := #[]) : ClassFile where
  minorVersion := 0
  majorVersion := 65
  constantPool := pool
  accessFlags := fl
  thisClass := this
  superClass := sup
  interfaces := ifs
  fields := fds
  methods := ms
  attributes := attrs
def plain (name : String) (sup : Option ClassId) : Class where
  name := name
  kind := .ordinary
  loader := none
  accessFlags := 33
  super := sup
  interfaces := #[]
  cf := none
  fields := #[]
  methods := #[]
  instanceTypes := #[]
  staticTypes := #[]
  resolved := #[]
  callSites := []
  init := .initialized
  statics := none
  mirror := none

def pool0 : Array CpInfo := pool [(5, u "<init>"), (0, u "()V"), (1, .class_ 10), (1, u "java/lang/Object")] 113

def k0c0 : Code := { maxStack := 0, maxLocals := 1, code := object_method_1_code, exceptionTable := #[], attributes := #[] }
def k0m0 : Method := { name := "<init>", desc := "()V", sig := { parameters := [], returnType := none }, accessFlags := 1, code := some k0c0 }
/-- java/lang/Object -/
def k0 : Class := { plain "java/lang/Object" none with
  accessFlags := 33
  interfaces := #[]
  cf := some (fileOf pool0 8 #[] #[{ accessFlags := 1, nameIndex := 5, descriptorIndex := 6, attributes := #[] }] 33 0 #[] #[])
  fields := #[]
  methods := #[k0m0]
  instanceTypes := #[]
  staticTypes := #[]
  resolved := Array.replicate 124 none
  statics := none }

def pool1 : Array CpInfo := pool [(2, .class_ 4), (1, u "java/lang/Object"), (0, u "<init>"), (0, u "()V"), (0, .fieldref 8 9), (0, .class_ 10), (0, .nameAndType 11 12), (0, u "com/example/rungsight/rungsight/types/IntegerType"), (0, u "SINT"), (0, u "Lcom/example/rungsight/rungsight/types/IntegerType;"), (0, .fieldref 8 14), (0, .nameAndType 15 12), (0, u "INT"), (0, .fieldref 8 17), (0, .nameAndType 18 12), (0, u "DINT"), (0, .fieldref 8 20), (0, .nameAndType 21 12), (0, u "LINT"), (0, .fieldref 8 23), (0, .nameAndType 24 12), (0, u "USINT"), (0, .fieldref 8 26), (0, .nameAndType 27 12), (0, u "UINT"), (0, .fieldref 8 29), (0, .nameAndType 30 12), (0, u "UDINT"), (0, .fieldref 8 32), (0, .nameAndType 33 12), (0, u "ULINT"), (0, .fieldref 8 35), (0, .nameAndType 36 12), (0, u "BYTE"), (0, .fieldref 8 38), (0, .nameAndType 39 12), (0, u "WORD"), (0, .fieldref 8 41), (0, .nameAndType 42 12), (0, u "DWORD"), (0, .fieldref 8 44), (0, .nameAndType 45 12), (0, u "LWORD"), (0, .integer 2147483647), (0, .fieldref 48 49), (0, .class_ 50), (0, .nameAndType 51 52), (0, u "com/example/rungsight/rungsight/flow/Variable$Origin"), (0, u "DECLARED"), (0, u "Lcom/example/rungsight/rungsight/flow/Variable$Origin;"), (0, .fieldref 48 54), (0, .nameAndType 55 52), (0, u "RESULT"), (0, .fieldref 48 57), (0, .nameAndType 58 52), (0, u "INSTANCE"), (0, .fieldref 48 60), (0, .nameAndType 61 52), (0, u "GLOBAL"), (0, .fieldref 48 63), (0, .nameAndType 64 52), (0, u "CURRENT_RESULT"), (0, .class_ 66), (0, u "com/example/rungsight/rungsight/flow/Variable"), (0, .methodref 68 69), (0, .class_ 70), (0, .nameAndType 71 72), (0, u "com/example/rungsight/rungsight/flow/VariableMayAliasPinLaw"), (0, u "type"), (0, u "(I)Lcom/example/rungsight/rungsight/types/IntegerType;"), (0, .methodref 68 74), (0, .nameAndType 75 76), (0, u "origin"), (0, u "(I)Lcom/example/rungsight/rungsight/flow/Variable$Origin;"), (0, .methodref 65 78), (0, .nameAndType 5 79), (0, u site_173.desc), (0, .methodref 65 81), (0, .nameAndType 82 6), (0, u "takeAddress"), (0, .methodref 65 84), (0, .nameAndType 85 86), (0, u "mayAlias"), (0, u "(Lcom/example/rungsight/rungsight/flow/Variable;)Z"), (3, u "law"), (0, u "(IIIII)Z")] 4

def k1m0 : Method := { name := "<init>", desc := "()V", sig := { parameters := [], returnType := none }, accessFlags := 1, code := none }
def k1c1 : Code := { maxStack := 2, maxLocals := 1, code := method_2_code, exceptionTable := #[], attributes := #[] }
def k1m1 : Method := { name := "type", desc := "(I)Lcom/example/rungsight/rungsight/types/IntegerType;", sig := { parameters := [.int], returnType := some (.object "com/example/rungsight/rungsight/types/IntegerType") }, accessFlags := 10, code := some k1c1 }
def k1c2 : Code := { maxStack := 2, maxLocals := 2, code := method_3_code, exceptionTable := #[], attributes := #[] }
def k1m2 : Method := { name := "origin", desc := "(I)Lcom/example/rungsight/rungsight/flow/Variable$Origin;", sig := { parameters := [.int], returnType := some (.object "com/example/rungsight/rungsight/flow/Variable$Origin") }, accessFlags := 10, code := some k1c2 }
def k1c3 : Code := { maxStack := 12, maxLocals := 21, code := code, exceptionTable := #[], attributes := #[] }
def k1m3 : Method := { name := "law", desc := "(IIIII)Z", sig := { parameters := [.int, .int, .int, .int, .int], returnType := some .boolean }, accessFlags := 9, code := some k1c3 }
/-- com/example/rungsight/rungsight/flow/VariableMayAliasPinLaw -/
def k1 : Class := { plain "com/example/rungsight/rungsight/flow/VariableMayAliasPinLaw" (some 0) with
  accessFlags := 49
  interfaces := #[]
  cf := some (fileOf pool1 68 #[] #[{ accessFlags := 1, nameIndex := 5, descriptorIndex := 6, attributes := #[] }, { accessFlags := 10, nameIndex := 71, descriptorIndex := 72, attributes := #[] }, { accessFlags := 10, nameIndex := 75, descriptorIndex := 76, attributes := #[] }, { accessFlags := 9, nameIndex := 90, descriptorIndex := 91, attributes := #[] }] 49 2 #[] #[])
  fields := #[]
  methods := #[k1m0, k1m1, k1m2, k1m3]
  instanceTypes := #[]
  staticTypes := #[]
  resolved := Array.replicate 96 none
  statics := none }

def pool2 : Array CpInfo := pool [(1, .methodref 2 3), (0, .class_ 4), (0, .nameAndType 5 6), (0, u "java/lang/Object"), (0, u "<init>"), (0, u "()V"), (0, .fieldref 8 9), (0, .class_ 10), (0, .nameAndType 11 12), (0, u "com/example/rungsight/rungsight/flow/Variable"), (0, u "declared"), (0, u tkD), (0, .fieldref 8 14), (0, .nameAndType 15 16), (0, u "name"), (0, u "Ljava/lang/String;"), (0, .fieldref 8 18), (0, .nameAndType 19 20), (0, u "type"), (0, u "Lcom/example/rungsight/rungsight/types/IntegerType;"), (0, .fieldref 8 22), (0, .nameAndType 23 24), (0, u "index"), (0, u "I"), (0, .fieldref 8 26), (0, .nameAndType 27 28), (0, u "origin"), (0, u "Lcom/example/rungsight/rungsight/flow/Variable$Origin;"), (0, .fieldref 8 30), (0, .nameAndType 31 32), (0, u "shared"), (0, u "Z"), (0, .fieldref 8 34), (0, .nameAndType 35 32), (0, u "reference"), (0, .fieldref 8 37), (0, .nameAndType 38 32), (0, u "ofInstance"), (0, .fieldref 8 40), (0, .nameAndType 41 32), (0, u "temporary"), (0, .fieldref 8 43), (0, .nameAndType 44 32), (0, u "declaresInitialValue"), (2, u "initialValue"), (0, u "Lcom/example/rungsight/rungsight/flow/Term;"), (0, .fieldref 8 50), (0, .nameAndType 51 32), (0, u "addressTaken"), (0, u site_173.desc), (13, u "takeAddress"), (5, u "mayAlias"), (0, u "(Lcom/example/rungsight/rungsight/flow/Variable;)Z"), (4, .class_ 79), (0, u "com/example/rungsight/rungsight/flow/Variable$Origin")] 2

def k2c0 : Code := { maxStack := 2, maxLocals := 11, code := prog_38_method_1_code, exceptionTable := #[], attributes := #[] }
def k2m0 : Method := { name := "<init>", desc := site_173.desc, sig := { parameters := [(.object "java/lang/String"), (.object "com/example/rungsight/rungsight/types/IntegerType"), .int, (.object "com/example/rungsight/rungsight/flow/Variable$Origin"), .boolean, .boolean, .boolean, .boolean, .boolean, tkT], returnType := none }, accessFlags := 0, code := some k2c0 }
def k2c1 : Code := { maxStack := 2, maxLocals := 1, code := prog_38_method_10_code, exceptionTable := #[], attributes := #[] }
def k2m1 : Method := { name := "takeAddress", desc := "()V", sig := { parameters := [], returnType := none }, accessFlags := 0, code := some k2c1 }
def k2c2 : Code := { maxStack := 2, maxLocals := 2, code := prog_38_method_17_code, exceptionTable := #[], attributes := #[] }
def k2m2 : Method := { name := "mayAlias", desc := "(Lcom/example/rungsight/rungsight/flow/Variable;)Z", sig := { parameters := [(.object "com/example/rungsight/rungsight/flow/Variable")], returnType := some .boolean }, accessFlags := 1, code := some k2c2 }
/-- com/example/rungsight/rungsight/flow/Variable -/
def k2 : Class := { plain "com/example/rungsight/rungsight/flow/Variable" (some 0) with
  accessFlags := 49
  interfaces := #[]
  cf := some (fileOf pool2 8 #[.nestMembers #[78]] #[{ accessFlags := 0, nameIndex := 5, descriptorIndex := 52, attributes := #[] }, { accessFlags := 0, nameIndex := 66, descriptorIndex := 6, attributes := #[] }, { accessFlags := 1, nameIndex := 72, descriptorIndex := 73, attributes := #[] }] 49 2 #[] #[{ accessFlags := 18, nameIndex := 15, descriptorIndex := 16, attributes := #[] }, { accessFlags := 18, nameIndex := 19, descriptorIndex := 20, attributes := #[] }, { accessFlags := 18, nameIndex := 23, descriptorIndex := 24, attributes := #[] }, { accessFlags := 18, nameIndex := 27, descriptorIndex := 28, attributes := #[] }, { accessFlags := 18, nameIndex := 35, descriptorIndex := 32, attributes := #[] }, { accessFlags := 18, nameIndex := 38, descriptorIndex := 32, attributes := #[] }, { accessFlags := 18, nameIndex := 41, descriptorIndex := 32, attributes := #[] }, { accessFlags := 18, nameIndex := 44, descriptorIndex := 32, attributes := #[] }, { accessFlags := 18, nameIndex := 11, descriptorIndex := 12, attributes := #[] }, { accessFlags := 2, nameIndex := 31, descriptorIndex := 32, attributes := #[] }, { accessFlags := 2, nameIndex := 51, descriptorIndex := 32, attributes := #[] }, { accessFlags := 2, nameIndex := 47, descriptorIndex := 48, attributes := #[] }])
  fields := #[{ name := "name", type := (.object "java/lang/String"), accessFlags := 18, slot := 0, constantValue := 0 }, { name := "type", type := (.object "com/example/rungsight/rungsight/types/IntegerType"), accessFlags := 18, slot := 1, constantValue := 0 }, { name := "index", type := .int, accessFlags := 18, slot := 2, constantValue := 0 }, { name := "origin", type := (.object "com/example/rungsight/rungsight/flow/Variable$Origin"), accessFlags := 18, slot := 3, constantValue := 0 }, { name := "reference", type := .boolean, accessFlags := 18, slot := 4, constantValue := 0 }, { name := "ofInstance", type := .boolean, accessFlags := 18, slot := 5, constantValue := 0 }, { name := "temporary", type := .boolean, accessFlags := 18, slot := 6, constantValue := 0 }, { name := "declaresInitialValue", type := .boolean, accessFlags := 18, slot := 7, constantValue := 0 }, { name := "declared", type := tkT, accessFlags := 18, slot := 8, constantValue := 0 }, { name := "shared", type := .boolean, accessFlags := 2, slot := 9, constantValue := 0 }, { name := "addressTaken", type := .boolean, accessFlags := 2, slot := 10, constantValue := 0 }, { name := "initialValue", type := (.object "com/example/rungsight/rungsight/flow/Term"), accessFlags := 2, slot := 11, constantValue := 0 }]
  methods := #[k2m0, k2m1, k2m2]
  instanceTypes := #[(.object "java/lang/String"), (.object "com/example/rungsight/rungsight/types/IntegerType"), .int, (.object "com/example/rungsight/rungsight/flow/Variable$Origin"), .boolean, .boolean, .boolean, .boolean, tkT, .boolean, .boolean, (.object "com/example/rungsight/rungsight/flow/Term")]
  staticTypes := #[]
  resolved := Array.replicate 82 none
  statics := none }

def pool3 : Array CpInfo := pool [(1, .class_ 2), (0, u "java/lang/constant/Constable"), (0, .class_ 4), (0, u "java/lang/Object")] 6

/-- java/lang/constant/Constable -/
def k3 : Class := { plain "java/lang/constant/Constable" (some 0) with
  accessFlags := 1537
  interfaces := #[]
  cf := some (fileOf pool3 1 #[] #[] 1537 3 #[] #[])
  fields := #[]
  methods := #[]
  instanceTypes := #[]
  staticTypes := #[]
  resolved := Array.replicate 11 none
  statics := none }

def pool4 : Array CpInfo := pool [(1, .class_ 2), (0, u "java/lang/Comparable"), (0, .class_ 4), (0, u "java/lang/Object")] 7

/-- java/lang/Comparable -/
def k4 : Class := { plain "java/lang/Comparable" (some 0) with
  accessFlags := 1537
  interfaces := #[]
  cf := some (fileOf pool4 1 #[] #[] 1537 3 #[] #[])
  fields := #[]
  methods := #[]
  instanceTypes := #[]
  staticTypes := #[]
  resolved := Array.replicate 12 none
  statics := none }

def pool5 : Array CpInfo := pool [(1, .class_ 2), (0, u "java/io/Serializable"), (0, .class_ 4), (0, u "java/lang/Object")] 2

/-- java/io/Serializable -/
def k5 : Class := { plain "java/io/Serializable" (some 0) with
  accessFlags := 1537
  interfaces := #[]
  cf := some (fileOf pool5 1 #[] #[] 1537 3 #[] #[])
  fields := #[]
  methods := #[]
  instanceTypes := #[]
  staticTypes := #[]
  resolved := Array.replicate 7 none
  statics := none }

def pool6 : Array CpInfo := pool [(2, .class_ 4), (1, u "java/lang/Enum"), (0, u "name"), (0, u "Ljava/lang/String;"), (2, u "ordinal"), (0, u "I"), (1, .class_ 14), (1, u "java/lang/Object"), (4, u "hash"), (86, .class_ 108), (1, u "java/lang/Enum$EnumDesc"), (2, .class_ 112), (0, u "java/lang/constant/Constable"), (0, .class_ 114), (0, u "java/lang/Comparable"), (0, .class_ 116), (0, u "java/io/Serializable")] 87

/-- java/lang/Enum -/
def k6 : Class := { plain "java/lang/Enum" (some 0) with
  accessFlags := 1057
  interfaces := #[3, 4, 5]
  cf := some (fileOf pool6 2 #[.nestMembers #[106]] #[] 1057 12 #[111, 113, 115] #[{ accessFlags := 18, nameIndex := 5, descriptorIndex := 6, attributes := #[] }, { accessFlags := 18, nameIndex := 9, descriptorIndex := 10, attributes := #[] }, { accessFlags := 2, nameIndex := 19, descriptorIndex := 10, attributes := #[] }])
  fields := #[{ name := "name", type := (.object "java/lang/String"), accessFlags := 18, slot := 0, constantValue := 0 }, { name := "ordinal", type := .int, accessFlags := 18, slot := 1, constantValue := 0 }, { name := "hash", type := .int, accessFlags := 2, slot := 2, constantValue := 0 }]
  methods := #[]
  instanceTypes := #[(.object "java/lang/String"), .int, .int]
  staticTypes := #[]
  resolved := Array.replicate 204 none
  statics := none }

def pool7 : Array CpInfo := pool [(1, .class_ 2), (0, u "com/example/rungsight/rungsight/types/IntegerType"), (2, u "SINT"), (0, u "Lcom/example/rungsight/rungsight/types/IntegerType;"), (2, u "INT"), (2, u "DINT"), (2, u "LINT"), (2, u "USINT"), (2, u "UINT"), (2, u "UDINT"), (2, u "ULINT"), (2, u "BYTE"), (2, u "WORD"), (2, u "DWORD"), (2, u "LWORD"), (2, u "$VALUES"), (0, u "[Lcom/example/rungsight/rungsight/types/IntegerType;"), (6, .class_ 52), (1, u "java/lang/Enum"), (11, u "Ljava/math/BigInteger;"), (10, u "min"), (6, u "max"), (5, u "BY_NAME"), (0, u "Ljava/util/Map;")] 85

/-- com/example/rungsight/rungsight/types/IntegerType -/
def k7 : Class := { plain "com/example/rungsight/rungsight/types/IntegerType" (some 6) with
  accessFlags := 16433
  interfaces := #[]
  cf := some (fileOf pool7 1 #[] #[] 16433 50 #[] #[{ accessFlags := 16409, nameIndex := 5, descriptorIndex := 6, attributes := #[] }, { accessFlags := 16409, nameIndex := 9, descriptorIndex := 6, attributes := #[] }, { accessFlags := 16409, nameIndex := 12, descriptorIndex := 6, attributes := #[] }, { accessFlags := 16409, nameIndex := 15, descriptorIndex := 6, attributes := #[] }, { accessFlags := 16409, nameIndex := 18, descriptorIndex := 6, attributes := #[] }, { accessFlags := 16409, nameIndex := 21, descriptorIndex := 6, attributes := #[] }, { accessFlags := 16409, nameIndex := 24, descriptorIndex := 6, attributes := #[] }, { accessFlags := 16409, nameIndex := 27, descriptorIndex := 6, attributes := #[] }, { accessFlags := 16409, nameIndex := 30, descriptorIndex := 6, attributes := #[] }, { accessFlags := 16409, nameIndex := 33, descriptorIndex := 6, attributes := #[] }, { accessFlags := 16409, nameIndex := 36, descriptorIndex := 6, attributes := #[] }, { accessFlags := 16409, nameIndex := 39, descriptorIndex := 6, attributes := #[] }, { accessFlags := 26, nameIndex := 88, descriptorIndex := 89, attributes := #[] }, { accessFlags := 18, nameIndex := 75, descriptorIndex := 64, attributes := #[] }, { accessFlags := 18, nameIndex := 82, descriptorIndex := 64, attributes := #[] }, { accessFlags := 4122, nameIndex := 42, descriptorIndex := 43, attributes := #[] }])
  fields := #[{ name := "SINT", type := (.object "com/example/rungsight/rungsight/types/IntegerType"), accessFlags := 16409, slot := 0, constantValue := 0 }, { name := "INT", type := (.object "com/example/rungsight/rungsight/types/IntegerType"), accessFlags := 16409, slot := 1, constantValue := 0 }, { name := "DINT", type := (.object "com/example/rungsight/rungsight/types/IntegerType"), accessFlags := 16409, slot := 2, constantValue := 0 }, { name := "LINT", type := (.object "com/example/rungsight/rungsight/types/IntegerType"), accessFlags := 16409, slot := 3, constantValue := 0 }, { name := "USINT", type := (.object "com/example/rungsight/rungsight/types/IntegerType"), accessFlags := 16409, slot := 4, constantValue := 0 }, { name := "UINT", type := (.object "com/example/rungsight/rungsight/types/IntegerType"), accessFlags := 16409, slot := 5, constantValue := 0 }, { name := "UDINT", type := (.object "com/example/rungsight/rungsight/types/IntegerType"), accessFlags := 16409, slot := 6, constantValue := 0 }, { name := "ULINT", type := (.object "com/example/rungsight/rungsight/types/IntegerType"), accessFlags := 16409, slot := 7, constantValue := 0 }, { name := "BYTE", type := (.object "com/example/rungsight/rungsight/types/IntegerType"), accessFlags := 16409, slot := 8, constantValue := 0 }, { name := "WORD", type := (.object "com/example/rungsight/rungsight/types/IntegerType"), accessFlags := 16409, slot := 9, constantValue := 0 }, { name := "DWORD", type := (.object "com/example/rungsight/rungsight/types/IntegerType"), accessFlags := 16409, slot := 10, constantValue := 0 }, { name := "LWORD", type := (.object "com/example/rungsight/rungsight/types/IntegerType"), accessFlags := 16409, slot := 11, constantValue := 0 }, { name := "BY_NAME", type := (.object "java/util/Map"), accessFlags := 26, slot := 12, constantValue := 0 }, { name := "min", type := (.object "java/math/BigInteger"), accessFlags := 18, slot := 3, constantValue := 0 }, { name := "max", type := (.object "java/math/BigInteger"), accessFlags := 18, slot := 4, constantValue := 0 }, { name := "$VALUES", type := (.array (.object "com/example/rungsight/rungsight/types/IntegerType")), accessFlags := 4122, slot := 13, constantValue := 0 }]
  methods := #[]
  instanceTypes := #[(.object "java/lang/String"), .int, .int, (.object "java/math/BigInteger"), (.object "java/math/BigInteger")]
  staticTypes := #[(.object "com/example/rungsight/rungsight/types/IntegerType"), (.object "com/example/rungsight/rungsight/types/IntegerType"), (.object "com/example/rungsight/rungsight/types/IntegerType"), (.object "com/example/rungsight/rungsight/types/IntegerType"), (.object "com/example/rungsight/rungsight/types/IntegerType"), (.object "com/example/rungsight/rungsight/types/IntegerType"), (.object "com/example/rungsight/rungsight/types/IntegerType"), (.object "com/example/rungsight/rungsight/types/IntegerType"), (.object "com/example/rungsight/rungsight/types/IntegerType"), (.object "com/example/rungsight/rungsight/types/IntegerType"), (.object "com/example/rungsight/rungsight/types/IntegerType"), (.object "com/example/rungsight/rungsight/types/IntegerType"), (.object "java/util/Map"), (.array (.object "com/example/rungsight/rungsight/types/IntegerType"))]
  resolved := Array.replicate 175 none
  statics := some 0 }

def pool8 : Array CpInfo := pool [(1, .class_ 2), (0, u "com/example/rungsight/rungsight/flow/Variable$Origin"), (2, u "DECLARED"), (0, u "Lcom/example/rungsight/rungsight/flow/Variable$Origin;"), (2, u "RESULT"), (2, u "INSTANCE"), (2, u "GLOBAL"), (2, u "CURRENT_RESULT"), (2, u "$VALUES"), (0, u "[Lcom/example/rungsight/rungsight/flow/Variable$Origin;"), (6, .class_ 31), (1, u "java/lang/Enum"), (28, .class_ 61), (0, u "com/example/rungsight/rungsight/flow/Variable")] 2

/-- com/example/rungsight/rungsight/flow/Variable$Origin -/
def k8 : Class := { plain "com/example/rungsight/rungsight/flow/Variable$Origin" (some 6) with
  accessFlags := 16433
  interfaces := #[]
  cf := some (fileOf pool8 1 #[.nestHost 60] #[] 16433 29 #[] #[{ accessFlags := 16409, nameIndex := 5, descriptorIndex := 6, attributes := #[] }, { accessFlags := 16409, nameIndex := 9, descriptorIndex := 6, attributes := #[] }, { accessFlags := 16409, nameIndex := 12, descriptorIndex := 6, attributes := #[] }, { accessFlags := 16409, nameIndex := 15, descriptorIndex := 6, attributes := #[] }, { accessFlags := 16409, nameIndex := 18, descriptorIndex := 6, attributes := #[] }, { accessFlags := 4122, nameIndex := 21, descriptorIndex := 22, attributes := #[] }])
  fields := #[{ name := "DECLARED", type := (.object "com/example/rungsight/rungsight/flow/Variable$Origin"), accessFlags := 16409, slot := 0, constantValue := 0 }, { name := "RESULT", type := (.object "com/example/rungsight/rungsight/flow/Variable$Origin"), accessFlags := 16409, slot := 1, constantValue := 0 }, { name := "INSTANCE", type := (.object "com/example/rungsight/rungsight/flow/Variable$Origin"), accessFlags := 16409, slot := 2, constantValue := 0 }, { name := "GLOBAL", type := (.object "com/example/rungsight/rungsight/flow/Variable$Origin"), accessFlags := 16409, slot := 3, constantValue := 0 }, { name := "CURRENT_RESULT", type := (.object "com/example/rungsight/rungsight/flow/Variable$Origin"), accessFlags := 16409, slot := 4, constantValue := 0 }, { name := "$VALUES", type := (.array (.object "com/example/rungsight/rungsight/flow/Variable$Origin")), accessFlags := 4122, slot := 5, constantValue := 0 }]
  methods := #[]
  instanceTypes := #[(.object "java/lang/String"), .int, .int]
  staticTypes := #[(.object "com/example/rungsight/rungsight/flow/Variable$Origin"), (.object "com/example/rungsight/rungsight/flow/Variable$Origin"), (.object "com/example/rungsight/rungsight/flow/Variable$Origin"), (.object "com/example/rungsight/rungsight/flow/Variable$Origin"), (.object "com/example/rungsight/rungsight/flow/Variable$Origin"), (.array (.object "com/example/rungsight/rungsight/flow/Variable$Origin"))]
  resolved := Array.replicate 64 none
  statics := some 1 }

def pool9 : Array CpInfo := pool [(1, u "java/lang/Cloneable"), (0, .class_ 1), (0, u "java/lang/Object"), (0, .class_ 3)] 3

/-- java/lang/Cloneable -/
def k9 : Class := { plain "java/lang/Cloneable" (some 0) with
  accessFlags := 1537
  interfaces := #[]
  cf := some (fileOf pool9 2 #[] #[] 1537 4 #[] #[])
  fields := #[]
  methods := #[]
  instanceTypes := #[]
  staticTypes := #[]
  resolved := Array.replicate 8 none
  statics := none }

/-- the primitive byte -/
def k10 : Class := { plain "byte" none with kind := .primitive 'B', accessFlags := 0x411 }
/-- [B -/
def k11 : Class := { plain "[B" (some 0) with kind := .array 10 .byte, interfaces := #[9, 5], accessFlags := 1041 }

/-- the primitive int -/
def k12 : Class := { plain "int" none with kind := .primitive 'I', accessFlags := 0x411 }
/-- [I -/
def k13 : Class := { plain "[I" (some 0) with kind := .array 12 .int, interfaces := #[9, 5], accessFlags := 1041 }

def heap : Heap := #[{ cls := 7, slots := #[.ref 2, .ref 3, .ref 4, .ref 5, .ref 6, .ref 7, .ref 8, .ref 9, .ref 10, .ref 11, .ref 12, .ref 13, .null, .null], vm := .statics 7 },
  { cls := 8, slots := #[.ref 14, .ref 15, .ref 16, .ref 17, .ref 18, .null], vm := .statics 8 },
  { cls := 7, slots := #[.null, .int 0, .int 0, .null, .null], vm := .none },
  { cls := 7, slots := #[.null, .int 1, .int 0, .null, .null], vm := .none },
  { cls := 7, slots := #[.null, .int 2, .int 0, .null, .null], vm := .none },
  { cls := 7, slots := #[.null, .int 3, .int 0, .null, .null], vm := .none },
  { cls := 7, slots := #[.null, .int 4, .int 0, .null, .null], vm := .none },
  { cls := 7, slots := #[.null, .int 5, .int 0, .null, .null], vm := .none },
  { cls := 7, slots := #[.null, .int 6, .int 0, .null, .null], vm := .none },
  { cls := 7, slots := #[.null, .int 7, .int 0, .null, .null], vm := .none },
  { cls := 7, slots := #[.null, .int 8, .int 0, .null, .null], vm := .none },
  { cls := 7, slots := #[.null, .int 9, .int 0, .null, .null], vm := .none },
  { cls := 7, slots := #[.null, .int 10, .int 0, .null, .null], vm := .none },
  { cls := 7, slots := #[.null, .int 11, .int 0, .null, .null], vm := .none },
  { cls := 8, slots := #[.null, .int 0, .int 0], vm := .none },
  { cls := 8, slots := #[.null, .int 1, .int 0], vm := .none },
  { cls := 8, slots := #[.null, .int 2, .int 0], vm := .none },
  { cls := 8, slots := #[.null, .int 3, .int 0], vm := .none },
  { cls := 8, slots := #[.null, .int 4, .int 0], vm := .none }]
def classes : Array Class := #[k0, k1, k2, k3, k4, k5, k6, k7, k8, k9, k10, k11, k12, k13]
def interned : List (Array UInt16 × Addr) := []
def slotsUsed : Nat := 95
def theMethod : MethodId := ⟨1, 3⟩
def args0 : Array Value := #[.int 3, .int 4, .int 5, .int 6, .int 7]
def aboutOver (below : List Frame) : State where
  vm := { classes := classes, interned := interned.toArray }
  heap := heap
  slotsUsed := slotsUsed
  threads := #[{ frames := .invoking theMethod args0 :: below }]
def below0 : List Frame := [.native { method := ⟨0, 0⟩, args := #[] }]
def about1 : State := aboutOver below0
def p0 : Program := .bare "" "" ""
def e0 : Env := launch0.env 0 0 0
theorem w_frames : about1.frames = Frame.invoking theMethod args0 :: below0 := rfl
set_option maxRecDepth 65536 in
theorem w_args : argsFit about1.vm theMethod args0 = true := by decide +kernel
set_option maxRecDepth 65536 in
theorem w_heap : heapFits about1 = true := by decide +kernel
set_option maxRecDepth 65536 in
theorem w_runnable : about1.curStatus? = some .runnable := by decide +kernel
set_option maxRecDepth 65536 in
theorem w_alone : about1.alone = true := by decide +kernel
set_option maxRecDepth 65536 in
theorem w_named : about1.methodNamed? x = some theMethod := by decide +kernel
set_option maxRecDepth 65536 in
theorem w_hears : about1.hears theMethod below0 = true := by decide +kernel
set_option maxRecDepth 65536 in
theorem w_ripe : about1.ripe theMethod args0 below0 = true := by decide +kernel
theorem w_running : about1.status = .running := rfl
set_option maxRecDepth 65536 in
theorem w_room : about1.hasRoom e0.platform room_1 = true :=
  launch0.hasRoom_least _ room_1 (by decide +kernel) (by decide +kernel) (by decide +kernel) (by decide +kernel) (by decide +kernel) (by decide +kernel)
theorem allAtoms_all (ts : List Jvm.Cond) (a : Array Jvm.Value) (st : Jvm.State) : (allAtoms ts).before a st = ts.all (fun c => c.before a st) := by
  induction ts with
  | nil => rfl
  | cons c t ih =>
    show (Jvm.Cond.and c (allAtoms t)).before a st = _
    rw [Jvm.Cond.before_and, ih, List.all_cons]
def words1 : List Jvm.Cond := Jvm.Cond.code x code maxLocals ret :: tables_1
/-- a 'code' word, met by the world's own term for the bytes: nothing is compared byte by byte -/
theorem code_word {y : MethodName} {bytes : ByteArray} {mx : Nat} {rt : Option FieldType} {a : Array Value} {s : State} {m : MethodId} {meth : Method} {c : Code} (h1 : s.methodNamed? y = some m) (h2 : s.vm.method? m = some meth) (h3 : meth.code = some c) (h4 : c.code = bytes)
    (h5 : (c.maxLocals == mx && c.exceptionTable.isEmpty && decide (c.maxStack ≤ mostOperands) && decide (meth.sig.returnType = rt) && !meth.locks && decide (parseMethodDescriptor y.desc = some meth.sig)) = true) : (Jvm.Cond.code y bytes mx rt).before a s = true := by
  simp only [Bool.and_eq_true, beq_iff_eq, Bool.not_eq_true', decide_eq_true_eq] at h5
  obtain ⟨⟨⟨⟨⟨g1, g2⟩, g3⟩, g4⟩, g5⟩, g6⟩ := h5
  simp [Cond.before, Cond.holds, Cond.value, h1, h2, h3, h4, g1, g2, g3, g4, g5, g6]
def isCode : Jvm.Cond → Bool
  | .code _ _ _ _ => true
  | _ => false
theorem all_split {L : List Jvm.Cond} {P : Jvm.Cond → Bool} (h1 : L.all (fun c => isCode c || P c) = true) (h2 : ∀ c ∈ L.filter isCode, P c = true) : L.all P = true := by
  refine List.all_eq_true.mpr fun c hc => ?_
  have h := List.all_eq_true.mp h1 c hc
  rcases Bool.eq_false_or_eq_true (isCode c) with hi | hi
  · exact h2 c (List.mem_filter.mpr ⟨hc, hi⟩)
  · simpa [hi] using h
set_option maxRecDepth 65536 in
theorem w_c0 : (Jvm.Cond.code x code maxLocals ret).before args0 about1 = true := code_word (m := ⟨1, 3⟩) (meth := k1m3) (c := k1c3) (by decide +kernel) rfl rfl rfl (by decide +kernel)
set_option maxRecDepth 65536 in
theorem w_c1 : (Jvm.Cond.code ({ cls := "com/example/rungsight/rungsight/flow/VariableMayAliasPinLaw", name := "type", desc := "(I)Lcom/example/rungsight/rungsight/types/IntegerType;" } : Jvm.MethodName) method_2_code (1 : Nat) (Option.some (Jvm.ClassFile.FieldType.object "com/example/rungsight/rungsight/types/IntegerType"))).before args0 about1 = true := code_word (m := ⟨1, 1⟩) (meth := k1m1) (c := k1c1) (by decide +kernel) rfl rfl rfl (by decide +kernel)
set_option maxRecDepth 65536 in
theorem w_c2 : (Jvm.Cond.code ({ cls := "com/example/rungsight/rungsight/flow/VariableMayAliasPinLaw", name := "origin", desc := "(I)Lcom/example/rungsight/rungsight/flow/Variable$Origin;" } : Jvm.MethodName) method_3_code (2 : Nat) (Option.some (Jvm.ClassFile.FieldType.object "com/example/rungsight/rungsight/flow/Variable$Origin"))).before args0 about1 = true := code_word (m := ⟨1, 2⟩) (meth := k1m2) (c := k1c2) (by decide +kernel) rfl rfl rfl (by decide +kernel)
set_option maxRecDepth 65536 in
theorem w_c3 : (Jvm.Cond.code ({ cls := "com/example/rungsight/rungsight/flow/Variable", name := "<init>", desc := site_173.desc } : Jvm.MethodName) prog_38_method_1_code (11 : Nat) (Option.none : Option Jvm.ClassFile.FieldType)).before args0 about1 = true := code_word (m := ⟨2, 0⟩) (meth := k2m0) (c := k2c0) (by decide +kernel) rfl rfl rfl (by decide +kernel)
set_option maxRecDepth 65536 in
theorem w_c4 : (Jvm.Cond.code ({ cls := "java/lang/Object", name := "<init>", desc := "()V" } : Jvm.MethodName) object_method_1_code (1 : Nat) (Option.none : Option Jvm.ClassFile.FieldType)).before args0 about1 = true := code_word (m := ⟨0, 0⟩) (meth := k0m0) (c := k0c0) (by decide +kernel) rfl rfl rfl (by decide +kernel)
set_option maxRecDepth 65536 in
theorem w_c5 : (Jvm.Cond.code ({ cls := "com/example/rungsight/rungsight/flow/Variable", name := "mayAlias", desc := "(Lcom/example/rungsight/rungsight/flow/Variable;)Z" } : Jvm.MethodName) prog_38_method_17_code (2 : Nat) (Option.some Jvm.ClassFile.FieldType.boolean)).before args0 about1 = true := code_word (m := ⟨2, 2⟩) (meth := k2m2) (c := k2c2) (by decide +kernel) rfl rfl rfl (by decide +kernel)
set_option maxRecDepth 65536 in
theorem w_c6 : (Jvm.Cond.code ({ cls := "com/example/rungsight/rungsight/flow/Variable", name := "takeAddress", desc := "()V" } : Jvm.MethodName) prog_38_method_10_code (1 : Nat) (Option.none : Option Jvm.ClassFile.FieldType)).before args0 about1 = true := code_word (m := ⟨2, 1⟩) (meth := k2m1) (c := k2c1) (by decide +kernel) rfl rfl rfl (by decide +kernel)
def codes1 : List Jvm.Cond := [Jvm.Cond.code x code maxLocals ret, Jvm.Cond.code ({ cls := "com/example/rungsight/rungsight/flow/VariableMayAliasPinLaw", name := "type", desc := "(I)Lcom/example/rungsight/rungsight/types/IntegerType;" } : Jvm.MethodName) method_2_code (1 : Nat) (Option.some (Jvm.ClassFile.FieldType.object "com/example/rungsight/rungsight/types/IntegerType")), Jvm.Cond.code ({ cls := "com/example/rungsight/rungsight/flow/VariableMayAliasPinLaw", name := "origin", desc := "(I)Lcom/example/rungsight/rungsight/flow/Variable$Origin;" } : Jvm.MethodName) method_3_code (2 : Nat) (Option.some (Jvm.ClassFile.FieldType.object "com/example/rungsight/rungsight/flow/Variable$Origin")), Jvm.Cond.code ({ cls := "com/example/rungsight/rungsight/flow/Variable", name := "<init>", desc := site_173.desc } : Jvm.MethodName) prog_38_method_1_code (11 : Nat) (Option.none : Option Jvm.ClassFile.FieldType), Jvm.Cond.code ({ cls := "java/lang/Object", name := "<init>", desc := "()V" } : Jvm.MethodName) object_method_1_code (1 : Nat) (Option.none : Option Jvm.ClassFile.FieldType), Jvm.Cond.code ({ cls := "com/example/rungsight/rungsight/flow/Variable", name := "mayAlias", desc := "(Lcom/example/rungsight/rungsight/flow/Variable;)Z" } : Jvm.MethodName) prog_38_method_17_code (2 : Nat) (Option.some Jvm.ClassFile.FieldType.boolean), Jvm.Cond.code ({ cls := "com/example/rungsight/rungsight/flow/Variable", name := "takeAddress", desc := "()V" } : Jvm.MethodName) prog_38_method_10_code (1 : Nat) (Option.none : Option Jvm.ClassFile.FieldType)]
set_option maxRecDepth 65536 in
theorem codes_eq : words1.filter isCode = codes1 := rfl
theorem w_codes : ∀ c ∈ words1.filter isCode, c.before args0 about1 = true := by
  rw [codes_eq]
  intro c hc
  simp only [codes1, List.mem_cons, List.not_mem_nil, or_false] at hc
  rcases hc with rfl | rfl | rfl | rfl | rfl | rfl | rfl
  · exact w_c0
  · exact w_c1
  · exact w_c2
  · exact w_c3
  · exact w_c4
  · exact w_c5
  · exact w_c6
set_option maxRecDepth 65536 in
theorem w_t1 : (words1.take 24).all (fun c => isCode c || c.before args0 about1) = true := by decide +kernel
set_option maxRecDepth 65536 in
theorem w_t2 : ((words1.drop 24).take 24).all (fun c => isCode c || c.before args0 about1) = true := by decide +kernel
set_option maxRecDepth 65536 in
theorem w_t3 : (((words1.drop 24).drop 24).take 24).all (fun c => isCode c || c.before args0 about1) = true := by decide +kernel
set_option maxRecDepth 65536 in
theorem w_t4 : (((words1.drop 24).drop 24).drop 24).all (fun c => isCode c || c.before args0 about1) = true := by decide +kernel
theorem w_tables : (allAtoms (Jvm.Cond.code x code maxLocals ret :: tables_1)).before args0 about1 = true := by
  rw [allAtoms_all]
  show words1.all (fun c => c.before args0 about1) = true
  refine all_split ?_ w_codes
  rw [← List.take_append_drop 24 words1, List.all_append, w_t1, ← List.take_append_drop 24 (words1.drop 24), List.all_append, w_t2, ← List.take_append_drop 24 ((words1.drop 24).drop 24), List.all_append, w_t3, w_t4]
  rfl
set_option maxRecDepth 65536 in
theorem w_case : (Jvm.Cond.and given_1 narrow_1).before args0 about1 = true := by decide +kernel
theorem w_applies : (headSpec (Jvm.Cond.code x code maxLocals ret :: tables_1) room_1).applies x e0.platform about1 = true :=
  (Spec.applies_iff w_frames).mpr ⟨w_running, w_runnable, w_alone, w_named, w_hears, w_ripe, w_room, w_tables⟩
theorem atStart : AtStart classFile x code maxLocals ret World_1 tables_1 room_1 Calls_1 rest_1 Pre_1 launch0 p0 e0 about1 theMethod args0 below0 :=
  ⟨lists_1, trivial, launch0.admits_env _ _ _, launch0.least_env, fairChoices_fair.cas, fairChoices_fair.clock, w_frames, w_args, w_heap, w_applies, trivial, trivial, w_case⟩
end start1
theorem witness_1 : WitnessClaimed_1 := ⟨start1.p0, start1.e0, start1.about1, start1.theMethod, start1.args0, start1.below0, start1.atStart⟩
end Jvm.Pilot.@@N@@

