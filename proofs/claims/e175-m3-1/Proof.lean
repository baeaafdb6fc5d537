import JvmDerived
import JvmDerived.Pilot.@@N@@Statement
import JvmDerived.Pilot.@@N@@Code
set_option linter.unusedVariables false
set_option linter.unusedSimpArgs false

namespace Jvm.RoadKit
open Sem ClassFile Op Lib Jvm.Stand Jvm.Free Jvm.LawKit
section OwnKit
variable {p : Program} {l : Launch} {e : Env} {R : Room} {s : State} {m : MethodId} {args : Array Value} {below : List Frame} {meth : Method} {c : Code} {T : State} {locs : List Loc} {cells slots : Nat} {Z : State} {a0 : Array Value} {h : Heap}
/-- one for a truth, nought else -/
def own_bi (q : Prop) [Decidable q] : Int32 := if q then 1 else 0
theorem own_bi_t {q : Prop} [Decidable q] (h : q) : own_bi q = 1 := if_pos h
theorem own_bi_f {q : Prop} [Decidable q] (h : ¬ q) : own_bi q = 0 := if_neg h
theorem own_bi_01 (q : Prop) [Decidable q] : own_bi q = 0 ∨ own_bi q = 1 := by unfold own_bi; split <;> simp
theorem own_bi_0 {q : Prop} [Decidable q] : own_bi q = 0 ↔ ¬ q := by unfold own_bi; split <;> simp_all
theorem own_bi_1 {q : Prop} [Decidable q] : own_bi q = 1 ↔ q := by unfold own_bi; split <;> simp_all
theorem own_bi_eq {q r : Prop} [Decidable q] [Decidable r] : own_bi q = own_bi r ↔ (q ↔ r) := by unfold own_bi; split <;> split <;> simp_all
theorem own_bi_fits (q : Prop) [Decidable q] : fits .boolean (.int (own_bi q)) = true := by unfold own_bi; split <;> rfl
theorem own_bi_nar (q : Prop) [Decidable q] : narrow .boolean (.int (own_bi q)) = .int (own_bi q) := by unfold own_bi; split <;> rfl
/-- from U the invocation comes to an end of which Rr holds -/
def Gl (p : Program) (e : Env) (below : List Frame) (Rr : State → Outcome → Prop) (U : State) : Prop := ∃ s₂ o, Steps p.tables e below U s₂ ∧ Rr s₂ o
theorem Gl.st {Rr : State → Outcome → Prop} {U U' : State} (f : ∀ t, Steps p.tables e below U' t → Steps p.tables e below U t) (g : Gl p e below Rr U') : Gl p e below Rr U := by
  obtain ⟨a, b, h1, h2⟩ := g
  exact ⟨a, b, f _ h1, h2⟩
/-- what is asked of the end -/
def Rq (s : State) (below : List Frame) (QQ : Option Value → Heap → List Loc → Prop) (k n : Nat) (s₂ : State) (o : Outcome) : Prop := s₂.status = .running ∧ Ended s₂ below o ∧ ∃ v L, o = .returned v ∧ QQ v s₂.heap L ∧ FrameEnd s o s₂ L k n
theorem Gl.join {Rr : State → Outcome → Prop} {U : State} {α : Type} (P : α → Prop) (f : α → State) (k : (∀ b, P b → Gl p e below Rr (f b)) → Gl p e below Rr U) (j : ∀ b, P b → Gl p e below Rr (f b)) : Gl p e below Rr U := k j
theorem Gl.joinS (X : Stand p l e R s m args below meth c T locs cells slots) {Rr : State → Outcome → Prop} {U : State} {β : Type} (kc ks : Nat) (P : State → List Loc → β → Prop) (f : State → β → State)
    (k : (∀ T' locs' b, Stand p l e R s m args below meth c T' locs' kc ks → P T' locs' b → Gl p e below Rr (f T' b)) → Gl p e below Rr U) (j : ∀ T' locs' b, Stand p l e R s m args below meth c T' locs' kc ks → P T' locs' b → Gl p e below Rr (f T' b)) : Gl p e below Rr U := k j
/-- a cell of the machine's own kind isn't there -/
def own_K (h : Heap) (a : Addr) : Prop := ∃ cell : Cell, h[a]? = some cell ∧ cell.vm ≠ .unknown
theorem own_K_wr {h h' : Heap} {a b : Addr} {sl : Nat} {v : Value} (W : Wr h h' a sl v) (F : own_K h b) : own_K h' b := by
  obtain ⟨cell, h1, h2⟩ := F
  obtain ⟨c', e1, -, e3, -⟩ := wr_at W h1
  exact ⟨c', e1, by rw [e3]; exact h2⟩
theorem own_K_ext {h h' : Heap} {b : Addr} (E : Ext h h') (F : own_K h b) : own_K h' b := by
  obtain ⟨cell, h1, h2⟩ := F
  exact ⟨cell, E.2 _ _ h1, h2⟩
theorem own_K_keep {h h' : Heap} {b : Addr} {ws : List Addr} (K : Keep h h' ws) (F : own_K h b) : own_K h' b := by
  obtain ⟨cell, h1, h2⟩ := F
  obtain ⟨c', q, -, r2, -⟩ := K.2.2 b cell h1
  exact ⟨c', q, by rw [r2]; exact h2⟩
theorem own_K_new {h : Heap} {a : Addr} (F : ∃ cell : Cell, h[a]? = some cell ∧ cell.vm = .none ∧ cell.monitor = {}) : own_K h a := by
  obtain ⟨cell, h1, h2, -⟩ := F
  exact ⟨cell, h1, by rw [h2]; simp⟩
theorem own_K_fld {h : Heap} {a : Addr} {C n d : String} {v : Value} (F : Fld Z h a C n d v) : own_K h a := by
  obtain ⟨cell, _, _, _, _, h1, -, -, h4, -⟩ := F
  exact ⟨cell, h1, h4⟩
/-- the type that a descriptor names -/
def own_ty (d : String) : FieldType := (parseFieldDescriptor d).getD .int
theorem own_ty_eq {d : String} (h : (parseFieldDescriptor d).isSome = true) : parseFieldDescriptor d = some (own_ty d) := by
  unfold own_ty
  cases q : parseFieldDescriptor d with
  | none => rw [q] at h; cases h
  | some t => rfl
theorem own_nn {t : FieldType} : narrow t .null = .null := by cases t <;> rfl
theorem own_lenOf {d : String} {n : Nat} (hd : (parseMethodDescriptor d).map (fun s => s.parameters.length) = some n) {L : List Value} (hl : L.length = n) : ∀ sig, parseMethodDescriptor d = some sig → L.length = sig.parameters.length := fun sig h => by
  rw [h] at hd
  rw [hl]
  exact (Option.some.inj hd).symm
theorem own_nz {z : Int32} (h : z = 0 ∨ z = 1) : narrow .boolean (.int z) = .int z := by rcases h with rfl | rfl <;> rfl
theorem own_fz {z : Int32} (h : z = 0 ∨ z = 1) : fits .boolean (.int z) = true := by rcases h with rfl | rfl <;> rfl
theorem own_nr {v : Value} {C : String} : narrow (.object C) v = v := by cases v <;> rfl
theorem own_fr {v : Value} {C : String} (h : v.isRef = true) : fits (.object C) v = true := by rcases ref_cases h with rfl | ⟨a, rfl⟩ <;> rfl
theorem own_cat1 {v : Value} (h : v.isRef = true) : v.category = 1 := by cases v <;> first | rfl | simp_all [Value.isRef]
theorem Gl.fin (X : Stand p l e R s m args below meth c T locs cells slots) {v : Option Value} (hv : meth.sig.returnType = none → v = none) (hlk : meth.locks = false) {QQ : Option Value → Heap → List Loc → Prop} {k n : Nat} {g : JFrame}
    (hst : ∀ fs, (∀ (f : JFrame) (acts : List Action), f.method = m → f.locked = none → f.entered = [] → (doReturn e (T.setTop f) acts v).1 = T.setFrames fs) → Steps p.tables e below (T.setTop g) (T.setFrames fs))
    (hq : QQ v T.heap locs) (hk : cells ≤ k) (hn : slots ≤ n) : Gl p e below (Rq s below QQ k n) (T.setTop g) := by
  obtain ⟨fs, hr, hrun, hended, hW, hsame⟩ := X.leave (v := v) hv hlk
  exact ⟨_, _, hst fs hr, hrun, hended, v, locs, rfl, hq, ⟨v, rfl⟩, hW, hsame.mono hk hn⟩
theorem Gl.retW (X : Stand p l e R s m args below meth c T locs cells slots) (hx : p.tables.exec = Jvm.exec) {t : FieldType} (hret : meth.sig.returnType = some t) (hlk : meth.locks = false) {pc : Nat} {Ls : Array Slot} {w : Value} {i : Instr} {rest : List Value} (hn : narrow t w = w)
    (hi : (i = .ireturn ∧ (t = .int ∨ t = .boolean ∨ t = .byte ∨ t = .char ∨ t = .short) ∧ ∃ z, w = .int z) ∨ (i = .lreturn ∧ t = .long ∧ ∃ z, w = .long z) ∨ (i = .dreturn ∧ t = .double ∧ ∃ z, w = .double z) ∨ (i = .freturn ∧ t = .float ∧ ∃ z, w = .float z) ∨ (i = .areturn ∧ t.isReference = true ∧ w.isRef = true))
    (hd : decode c.code pc = .ok (i, 1)) {QQ : Option Value → Heap → List Loc → Prop} {k n : Nat} (hq : QQ (some w) T.heap locs) (hk : cells ≤ k) (hs : slots ≤ n) : Gl p e below (Rq s below QQ k n) (T.setTop (mkF m pc Ls (w :: rest))) :=
  Gl.fin X (fun q => by rw [hret] at q; cases q) hlk (fun _ hr => retOut X hx hret hn hi hd hr) hq hk hs
theorem Gl.retZ (X : Stand p l e R s m args below meth c T locs cells slots) (hx : p.tables.exec = Jvm.exec) (hret : meth.sig.returnType = some .boolean) (hlk : meth.locks = false) {pc : Nat} {Ls : Array Slot} {z : Int32} {rest : List Value}
    (hd : decode c.code pc = .ok (.ireturn, 1)) (hz : z = 0 ∨ z = 1) {QQ : Option Value → Heap → List Loc → Prop} {k n : Nat} (hq : QQ (some (.int z)) T.heap locs) (hk : cells ≤ k) (hs : slots ≤ n) : Gl p e below (Rq s below QQ k n) (T.setTop (mkF m pc Ls (.int z :: rest))) :=
  Gl.retW X hx hret hlk (by rcases hz with rfl | rfl <;> rfl) (Or.inl ⟨rfl, by simp, z, rfl⟩) hd hq hk hs
theorem Gl.retI (X : Stand p l e R s m args below meth c T locs cells slots) (hx : p.tables.exec = Jvm.exec) (hret : meth.sig.returnType = some .int) (hlk : meth.locks = false) {pc : Nat} {Ls : Array Slot} {z : Int32} {rest : List Value}
    (hd : decode c.code pc = .ok (.ireturn, 1)) {QQ : Option Value → Heap → List Loc → Prop} {k n : Nat} (hq : QQ (some (.int z)) T.heap locs) (hk : cells ≤ k) (hs : slots ≤ n) : Gl p e below (Rq s below QQ k n) (T.setTop (mkF m pc Ls (.int z :: rest))) :=
  Gl.retW X hx hret hlk rfl (Or.inl ⟨rfl, by simp, z, rfl⟩) hd hq hk hs
theorem Gl.retJ (X : Stand p l e R s m args below meth c T locs cells slots) (hx : p.tables.exec = Jvm.exec) (hret : meth.sig.returnType = some .long) (hlk : meth.locks = false) {pc : Nat} {Ls : Array Slot} {z : Int64} {rest : List Value}
    (hd : decode c.code pc = .ok (.lreturn, 1)) {QQ : Option Value → Heap → List Loc → Prop} {k n : Nat} (hq : QQ (some (.long z)) T.heap locs) (hk : cells ≤ k) (hs : slots ≤ n) : Gl p e below (Rq s below QQ k n) (T.setTop (mkF m pc Ls (.long z :: rest))) :=
  Gl.retW X hx hret hlk rfl (Or.inr (Or.inl ⟨rfl, rfl, z, rfl⟩)) hd hq hk hs
theorem Gl.retA (X : Stand p l e R s m args below meth c T locs cells slots) (hx : p.tables.exec = Jvm.exec) {t : FieldType} (hret : meth.sig.returnType = some t) (ht : t.isReference = true) (hlk : meth.locks = false) {pc : Nat} {Ls : Array Slot} {w : Value} {rest : List Value} (hw : w.isRef = true)
    (hd : decode c.code pc = .ok (.areturn, 1)) {QQ : Option Value → Heap → List Loc → Prop} {k n : Nat} (hq : QQ (some w) T.heap locs) (hk : cells ≤ k) (hs : slots ≤ n) : Gl p e below (Rq s below QQ k n) (T.setTop (mkF m pc Ls (w :: rest))) :=
  Gl.retW X hx hret hlk (by cases t <;> first | rfl | cases ht) (Or.inr (Or.inr (Or.inr (Or.inr ⟨rfl, ht, hw⟩)))) hd hq hk hs
theorem Gl.retV (X : Stand p l e R s m args below meth c T locs cells slots) (hx : p.tables.exec = Jvm.exec) (hret : meth.sig.returnType = none) (hlk : meth.locks = false) {pc : Nat} {Ls : Array Slot}
    (hd : decode c.code pc = .ok (.return_, 1)) {QQ : Option Value → Heap → List Loc → Prop} {k n : Nat} (hq : QQ none T.heap locs) (hk : cells ≤ k) (hs : slots ≤ n) : Gl p e below (Rq s below QQ k n) (T.setTop (mkF m pc Ls [])) :=
  Gl.fin X (fun _ => rfl) hlk (fun _ hr => X.returnOut hx hret hd hr) hq hk hs
/-- what a body does from the heap h0 with these arguments -/
def Con (ws : List Cond) (l : Launch) (Z : State) (y : MethodName) (bytes : ByteArray) (maxL : Nat) (ret : Option FieldType) (rm : Room) (as' : Array Value) (h0 : Heap) (QQ : Option Value → Heap → List Loc → Prop) : Prop :=
  MetFree l y (head1 (Cond.code y bytes maxL ret :: ws) rm) (fun a U => a = as' ∧ Z.Warmed39 U.vm ∧ U.heap = h0) (fun _ _ _ _ _ => True) (fun _ U o U' => ∃ v L, o = .returned v ∧ QQ v U'.heap L ∧ FrameEnd U o U' L rm.cells rm.slots)
theorem Con.of {ws : List Cond} {l : Launch} {Z : State} {y : MethodName} {bytes : ByteArray} {maxL : Nat} {ret : Option FieldType} {rm : Room} {as' : Array Value} {h0 : Heap} {QQ : Option Value → Heap → List Loc → Prop} {Ls : Array Slot}
    (hp : plainFor y = true) (ef : ∀ m : MethodId, entryFrame m as' maxL = mkF m 0 Ls [])
    (body : ∀ (p : Program) (e : Env) (s : State) (m : MethodId) (below : List Frame) (meth : Method) (c : Code) (T : State), p.tables.exec = Jvm.exec → c.code = bytes → c.maxLocals = maxL → s.vm.findClass y.cls = some m.cls → meth.name = y.name → meth.sig.returnType = ret → meth.locks = false → Z.Warmed39 s.vm → T.heap = h0 → Stand p l e rm s m as' below meth c T [] 0 0 →
      Gl p e below (Rq s below QQ rm.cells rm.slots) (T.setTop (mkF m 0 Ls []))) : Con ws l Z y bytes maxL ret rm as' h0 QQ := by
  refine MetFree.of_bodySF hp hisR ?_
  intro p e s m args below meth c s₁ Bd hml0 hP hK
  obtain ⟨rfl, hZ, hh⟩ := hP
  obtain ⟨s₂, o, h1, h2, h3, h4⟩ := body p e s m below meth c s₁ Bd.exec Bd.bytes hml0 (findClass_of_methodNamed Bd.named) (name_of_methodNamed Bd.named Bd.method).1 Bd.returns Bd.notSynchronized hZ (by rw [← hh, Bd.state]; rfl) (Stand.of_body Bd)
  exact ⟨s₂, o, castTop (ef m) h1, h2, h3, h4⟩
theorem gCallS (X : Stand p l e R s m args below meth c T locs cells slots) (hx : p.tables.exec = Jvm.exec) (hZ : Z.Warmed39 s.vm) {own : String} {index : Nat} {y : MethodName} {bytes : ByteArray} {maxL : Nat} {ret : Option FieldType} (hown : s.vm.findClass own = some m.cls)
    (w1 : (Cond.methodLink own index y).before a0 Z = true) (w2 : (Cond.static y).before a0 Z = true) (w3 : (Cond.initialized y.cls).before a0 Z = true) (w4 : (Cond.code y bytes maxL ret).before a0 Z = true) (hy : y.cls ≠ "java/lang/invoke/MethodHandle" ∧ y.cls ≠ "java/lang/invoke/VarHandle")
    {rm : Room} {as' : Array Value} {QQ : Option Value → Heap → List Loc → Prop} (hC : Con [] l Z y bytes maxL ret rm as' h QQ) (eT : T.heap = h) (hf : rm.frames + 1 ≤ R.frames) {W : Nat} (hl : W + (maxL + 11) + rm.locals ≤ R.locals) (hc : cells + rm.cells ≤ R.cells) (hs : slots + rm.slots ≤ R.slots)
    {g : JFrame} (hg : g.method = m) (hsize : g.locals.size = c.maxLocals) {argsL rest : List Value} (hlen : ∀ sig, parseMethodDescriptor y.desc = some sig → argsL.length = sig.parameters.length) (hstack : g.stack = argsL.reverse ++ rest) (has : argsL.toArray = as') (hW : 2 * g.monitorRoom + (rest.map fun v => v.category).sum ≤ W) (hd : decode c.code g.pc = .ok (.invokestatic index, 3))
    {Rr : State → Outcome → Prop} (k : ∀ (v : Option Value) (T' : State) (L : List Loc), Stand p l e R s m args below meth c T' (locs ++ L) (cells + rm.cells) (slots + rm.slots) → QQ v T'.heap L → Gl p e below Rr (T'.setTop { g with pc := g.pc + 3, stack := v.toList ++ rest })) : Gl p e below Rr (T.setTop g) := by
  obtain ⟨v, vm₁, ⟨T', L', c', n'⟩, -, X', ⟨L, hQ, q1, q2, q3⟩, st⟩ := Jvm.LawKit.callS X hx (y := y) hown (mvT hZ w1) (mvT hZ w2) (mvT hZ w3) (mvT hZ w4) hy (backOf (W := W) hC hZ w4 w3 hf hl) hg hsize hlen hstack hW hd (fun _ _ => ⟨has, eT, hc, hs⟩)
  dsimp only [Pt.U, Pt.locs, Pt.cells, Pt.slots] at X' q1 q2 q3 st hQ
  subst q1 q2 q3
  exact Gl.st st (k v T' L X' hQ)
theorem gCallI (X : Stand p l e R s m args below meth c T locs cells slots) (hx : p.tables.exec = Jvm.exec) (hZ : Z.Warmed39 s.vm) {own : String} {index : Nat} {y : MethodName} {bytes : ByteArray} {maxL : Nat} (hy1 : y.name = "<init>") (hown : s.vm.findClass own = some m.cls)
    (w1 : (Cond.methodLink own index y).before a0 Z = true) (w2 : (Cond.instanceMethod y).before a0 Z = true) (w3 : (Cond.initialized y.cls).before a0 Z = true) (w4 : (Cond.code y bytes maxL none).before a0 Z = true) (hy : y.cls ≠ "java/lang/invoke/MethodHandle" ∧ y.cls ≠ "java/lang/invoke/VarHandle")
    {rm : Room} {as' : Array Value} {QQ : Option Value → Heap → List Loc → Prop} (hC : Con [] l Z y bytes maxL none rm as' h QQ) (eT : T.heap = h) (hf : rm.frames + 1 ≤ R.frames) {W : Nat} (hl : W + (maxL + 11) + rm.locals ≤ R.locals) (hc : cells + rm.cells ≤ R.cells) (hs : slots + rm.slots ≤ R.slots)
    {g : JFrame} (hg : g.method = m) (hsize : g.locals.size = c.maxLocals) {a : Addr} {argsL rest : List Value} (hlen : ∀ sig, parseMethodDescriptor y.desc = some sig → argsL.length = sig.parameters.length) (hstack : g.stack = argsL.reverse ++ .ref a :: rest) (has : (.ref a :: argsL).toArray = as') (hW : 2 * g.monitorRoom + (rest.map fun v => v.category).sum ≤ W) (hd : decode c.code g.pc = .ok (.invokespecial index, 3))
    {Rr : State → Outcome → Prop} (k : ∀ (v : Option Value) (T' : State) (L : List Loc), Stand p l e R s m args below meth c T' (locs ++ L) (cells + rm.cells) (slots + rm.slots) → QQ v T'.heap L → Gl p e below Rr (T'.setTop { g with pc := g.pc + 3, stack := v.toList ++ rest })) : Gl p e below Rr (T.setTop g) := by
  obtain ⟨v, vm₁, ⟨T', L', c', n'⟩, -, X', ⟨L, hQ, q1, q2, q3⟩, st⟩ := X.specialBack hx (y := y) hy1 hown (mvT hZ w1) (mvT hZ w2) (mvT hZ w4) hy (backOf (W := W) hC hZ w4 w3 hf hl) hg hsize (Steps.refl _) hlen hstack hW hd (fun _ _ => ⟨has, eT, hc, hs⟩)
  dsimp only [Pt.U, Pt.locs, Pt.cells, Pt.slots] at X' q1 q2 q3 st hQ
  subst q1 q2 q3
  exact Gl.st (fun _ kk => st.trans kk) (k v T' L X' hQ)
/-- a constructor, paid by a Back of the shape that backOf and the pasted String laws have -/
theorem gBackI (X : Stand p l e R s m args below meth c T locs cells slots) (hx : p.tables.exec = Jvm.exec) (hZ : Z.Warmed39 s.vm) {own : String} {index : Nat} {y : MethodName} {bytes : ByteArray} {maxL : Nat} (hy1 : y.name = "<init>") (hown : s.vm.findClass own = some m.cls)
    (w1 : (Cond.methodLink own index y).before a0 Z = true) (w2 : (Cond.instanceMethod y).before a0 Z = true) (w4 : (Cond.code y bytes maxL none).before a0 Z = true) (hy : y.cls ≠ "java/lang/invoke/MethodHandle" ∧ y.cls ≠ "java/lang/invoke/VarHandle")
    {kc ks W : Nat} {as' : Array Value} {QQ : Option Value → Heap → List Loc → Prop} (hK : Back l R p e below s args y 3 W (fun A a => a = as' ∧ A.U.heap = h ∧ A.cells + kc ≤ R.cells ∧ A.slots + ks ≤ R.slots) (fun A _ v B => ∃ L, QQ v B.U.heap L ∧ B.locs = A.locs ++ L ∧ B.cells = A.cells + kc ∧ B.slots = A.slots + ks)) (eT : T.heap = h) (hc : cells + kc ≤ R.cells) (hs : slots + ks ≤ R.slots)
    {g : JFrame} (hg : g.method = m) (hsize : g.locals.size = c.maxLocals) {a : Addr} {argsL rest : List Value} (hlen : ∀ sig, parseMethodDescriptor y.desc = some sig → argsL.length = sig.parameters.length) (hstack : g.stack = argsL.reverse ++ .ref a :: rest) (has : (.ref a :: argsL).toArray = as') (hW : 2 * g.monitorRoom + (rest.map fun v => v.category).sum ≤ W) (hd : decode c.code g.pc = .ok (.invokespecial index, 3))
    {Rr : State → Outcome → Prop} (k : ∀ (v : Option Value) (T' : State) (L : List Loc), Stand p l e R s m args below meth c T' (locs ++ L) (cells + kc) (slots + ks) → QQ v T'.heap L → Gl p e below Rr (T'.setTop { g with pc := g.pc + 3, stack := v.toList ++ rest })) : Gl p e below Rr (T.setTop g) := by
  obtain ⟨v, vm₁, ⟨T', L', c', n'⟩, -, X', ⟨L, hQ, q1, q2, q3⟩, st⟩ := X.specialBack hx (y := y) hy1 hown (mvT hZ w1) (mvT hZ w2) (mvT hZ w4) hy hK hg hsize (Steps.refl _) hlen hstack hW hd (fun _ _ => ⟨has, eT, hc, hs⟩)
  dsimp only [Pt.U, Pt.locs, Pt.cells, Pt.slots] at X' q1 q2 q3 st hQ
  subst q1 q2 q3
  exact Gl.st (fun _ kk => st.trans kk) (k v T' L X' hQ)
/-- the class of y is no interface: some call lands in a method of hers -/
theorem own_nf {s : State} {args : Array Value} {y x' z' : MethodName} {C' : String} (w : (Cond.selects C' x' z').before args s = true) (hc : z'.cls = y.cls) : NotFace s y := fun r0 h0 => by
  obtain ⟨c2, r2, m2, -, -, q3, -, kP, hkP, hkPi⟩ := Cond.selects_spec w
  have h1 := findClass_of_methodNamed h0
  have h2 := findClass_of_methodNamed q3
  rw [hc] at h2
  have q := Option.some.inj (h1.symm.trans h2)
  exact ⟨kP, by rw [q]; exact hkP, hkPi⟩
theorem gCallV (X : Stand p l e R s m args below meth c T locs cells slots) (hx : p.tables.exec = Jvm.exec) (hZ : Z.Warmed39 s.vm) {own C : String} {index : Nat} {y z : MethodName} {bytes : ByteArray} {maxL : Nat} {ret : Option FieldType} (hown : s.vm.findClass own = some m.cls)
    (w1 : (Cond.methodLink own index y).before a0 Z = true) (w2 : (Cond.declares y).before a0 Z = true) (w3 : (Cond.selects C y z).before a0 Z = true) (hnf : NotFace s y) (w4 : (Cond.instanceMethod z).before a0 Z = true) (w5 : (Cond.initialized z.cls).before a0 Z = true) (w6 : (Cond.code z bytes maxL ret).before a0 Z = true) (hy : y.cls ≠ "java/lang/invoke/MethodHandle" ∧ y.cls ≠ "java/lang/invoke/VarHandle")
    {rm : Room} {as' : Array Value} {QQ : Option Value → Heap → List Loc → Prop} (hC : Con [] l Z z bytes maxL ret rm as' h QQ) (eT : T.heap = h) {a : Addr} (E : Exa Z h a C) (hf : rm.frames + 1 ≤ R.frames) {W : Nat} (hl : W + (maxL + 11) + rm.locals ≤ R.locals) (hc : cells + rm.cells ≤ R.cells) (hs : slots + rm.slots ≤ R.slots)
    {g : JFrame} (hg : g.method = m) (hsize : g.locals.size = c.maxLocals) {argsL rest : List Value} (hlen : ∀ sig, parseMethodDescriptor y.desc = some sig → argsL.length = sig.parameters.length) (hstack : g.stack = argsL.reverse ++ .ref a :: rest) (has : (.ref a :: argsL).toArray = as') (hW : 2 * g.monitorRoom + (rest.map fun v => v.category).sum ≤ W) (hd : decode c.code g.pc = .ok (.invokevirtual index, 3))
    {Rr : State → Outcome → Prop} (k : ∀ (v : Option Value) (T' : State) (L : List Loc), Stand p l e R s m args below meth c T' (locs ++ L) (cells + rm.cells) (slots + rm.slots) → QQ v T'.heap L → Gl p e below Rr (T'.setTop { g with pc := g.pc + 3, stack := v.toList ++ rest })) : Gl p e below Rr (T.setTop g) := by
  obtain ⟨cq, kq, q34a, q34b, q34c⟩ := isOf hZ eT E
  obtain ⟨v, vm₁, ⟨T', L', c', n'⟩, -, X', ⟨L, hQ, q1, q2, q3⟩, st⟩ := X.virtualBack hx (y := y) (z := z) hown (mvT hZ w1) (mvT hZ w2) hnf (mvT hZ w3) (mvT hZ w4) hy (backOf (W := W) hC hZ w6 w5 hf hl) q34a q34c hg hsize (Steps.refl _) hlen hstack hW hd (fun _ _ => ⟨has, eT, hc, hs⟩)
  dsimp only [Pt.U, Pt.locs, Pt.cells, Pt.slots] at X' q1 q2 q3 st hQ
  subst q1 q2 q3
  exact Gl.st (fun _ kk => st.trans kk) (k v T' L X' hQ)
theorem gCallU (X : Stand p l e R s m args below meth c T locs cells slots) (hx : p.tables.exec = Jvm.exec) (hZ : Z.Warmed39 s.vm) {own C owner : String} {index : Nat} {y z : MethodName} {bytes : ByteArray} {maxL : Nat} {ret : Option FieldType} (hown : s.vm.findClass own = some m.cls)
    (w1 : (Cond.methodLink own index y).before a0 Z = true) (w0 : (Cond.sameMethod y.cls owner y.name y.desc).before a0 Z = true) (w2 : (Cond.declares ⟨owner, y.name, y.desc⟩).before a0 Z = true) (w3 : (Cond.selects C y z).before a0 Z = true) (w4 : (Cond.instanceMethod z).before a0 Z = true) (w5 : (Cond.initialized z.cls).before a0 Z = true) (w6 : (Cond.code z bytes maxL ret).before a0 Z = true) (hy : owner ≠ "java/lang/invoke/MethodHandle" ∧ owner ≠ "java/lang/invoke/VarHandle")
    {rm : Room} {as' : Array Value} {QQ : Option Value → Heap → List Loc → Prop} (hC : Con [] l Z z bytes maxL ret rm as' h QQ) (eT : T.heap = h) {a : Addr} (E : Exa Z h a C) (hf : rm.frames + 1 ≤ R.frames) {W : Nat} (hl : W + (maxL + 11) + rm.locals ≤ R.locals) (hc : cells + rm.cells ≤ R.cells) (hs : slots + rm.slots ≤ R.slots)
    {g : JFrame} (hg : g.method = m) (hsize : g.locals.size = c.maxLocals) {argsL rest : List Value} (hlen : ∀ sig, parseMethodDescriptor y.desc = some sig → argsL.length = sig.parameters.length) (hstack : g.stack = argsL.reverse ++ .ref a :: rest) (has : (.ref a :: argsL).toArray = as') (hW : 2 * g.monitorRoom + (rest.map fun v => v.category).sum ≤ W) (hd : decode c.code g.pc = .ok (.invokevirtual index, 3))
    {Rr : State → Outcome → Prop} (k : ∀ (v : Option Value) (T' : State) (L : List Loc), Stand p l e R s m args below meth c T' (locs ++ L) (cells + rm.cells) (slots + rm.slots) → QQ v T'.heap L → Gl p e below Rr (T'.setTop { g with pc := g.pc + 3, stack := v.toList ++ rest })) : Gl p e below Rr (T.setTop g) := by
  obtain ⟨cq, kq, q34a, q34b, q34c⟩ := isOf hZ eT E
  obtain ⟨v, vm₁, ⟨T', L', c', n'⟩, -, X', ⟨L, hQ, q1, q2, q3⟩, st⟩ := X.virtualBackUp hx (x := y) (y := z) hown (mvT hZ w1) (mvT hZ w0) (mvT hZ w2) hy (mvT hZ w3) (mvT hZ w4) (backOf (W := W) hC hZ w6 w5 hf hl) q34a q34c hg hsize (Steps.refl _) hlen hstack hW hd (fun _ _ => ⟨has, eT, hc, hs⟩)
  dsimp only [Pt.U, Pt.locs, Pt.cells, Pt.slots] at X' q1 q2 q3 st hQ
  subst q1 q2 q3
  exact Gl.st (fun _ kk => st.trans kk) (k v T' L X' hQ)
/-- C is no K: the chain of superclasses doesn't meet it; K by her word 'instantiable' -/
theorem own_NS_root {O K : String} {n : Nat} (w : (Cond.noSuperclass O).before a0 Z = true) (wk : (Cond.instantiable K n).before a0 Z = true) (hn : O ≠ K) : NS Z O K := by
  obtain ⟨c, k, h1, h2, h3, -, -⟩ := Cond.noSuperclass_spec w
  obtain ⟨t, kt, g1, -⟩ := Cond.instantiable_spec wk
  have ne := ids_ne h1 g1 hn
  refine ⟨c, t, h1, g1, fun fuel => ?_⟩
  cases fuel with
  | zero => rfl
  | succ f => simp [Vm.isSubclassAux, ne, h2, h3]
theorem own_NS_no {C S K : String} {n : Nat} (w : (Cond.superclass C S).before a0 Z = true) (wk : (Cond.instantiable K n).before a0 Z = true) (N : NS Z C K) (hn : C ≠ K) : ∃ c t, Z.vm.findClass C = some c ∧ Z.vm.findClass K = some t ∧ Z.vm.assignable c t = false := by
  obtain ⟨c, t, h0, g0, n3⟩ := N
  obtain ⟨pp, k, kp, h1, h2, h3, h4, h5, -, h7⟩ := Cond.superclass_spec h0 w
  obtain ⟨t', kt, g1, g2, g3, g4, -⟩ := Cond.instantiable_spec wk
  cases g0.symm.trans g1
  have gi : kt.isInterface = false := by
    rcases Bool.or_eq_false_iff.mp g4 with ⟨q, -⟩
    exact q
  have ne := ids_ne h0 g0 hn
  refine ⟨c, t, h0, g0, ?_⟩
  show Z.vm.assignableAux (255 + 1) c t = false
  simp [Vm.assignableAux, ne, h2, g2, h5, g3, gi, Vm.isSubclass, n3]
theorem own_gcls (X : Stand p l e R s m args below meth c T locs cells slots) (hx : p.tables.exec = Jvm.exec) (hZ : Z.Warmed39 s.vm) {own C : String} {index : Nat} (hown : s.vm.findClass own = some m.cls)
    (w1 : (Cond.methodLink own index ⟨"java/lang/Object", "getClass", "()Ljava/lang/Class;"⟩).before a0 Z = true) (w2 : (Cond.declares ⟨"java/lang/Object", "getClass", "()Ljava/lang/Class;"⟩).before a0 Z = true) (w3 : (Cond.noSuperclass "java/lang/Object").before a0 Z = true) (w4 : (Cond.selects C ⟨"java/lang/Object", "getClass", "()Ljava/lang/Class;"⟩ ⟨"java/lang/Object", "getClass", "()Ljava/lang/Class;"⟩).before a0 Z = true)
    (w5 : (Cond.instanceMethod ⟨"java/lang/Object", "getClass", "()Ljava/lang/Class;"⟩).before a0 Z = true) (w6 : (Cond.native ⟨"java/lang/Object", "getClass", "()Ljava/lang/Class;"⟩).before a0 Z = true) (eT : T.heap = h) {a : Addr} (E : Exa Z h a C) {mr : Addr} {cc : ClassId} {kc : Class} (m1 : Z.vm.findClass C = some cc) (m2 : Z.vm.classes[cc]? = some kc) (m3 : kc.mirror = some mr)
    {g : JFrame} (hg : g.method = m) (hsize : g.locals.size = c.maxLocals) {rest : List Value} (hs : g.stack = .ref a :: rest) (hd : decode c.code g.pc = .ok (.invokevirtual index, 3)) (hf : 1 ≤ R.frames) {W : Nat} (hW : 2 * g.monitorRoom + (rest.map fun v => v.category).sum ≤ W) (hl : W + (nativeFrameWords "java/lang/Object" "getClass" 1 + 11) ≤ R.locals) :
    ∃ T', Stand p l e R s m args below meth c T' locs cells slots ∧ T'.heap = h ∧ ∀ target, Steps p.tables e below (T'.setTop { g with pc := g.pc + 3, stack := .ref mr :: rest }) target → Steps p.tables e below (T.setTop g) target := by
  obtain ⟨cB, kB, i1, i2, i3⟩ := isOf hZ eT E
  have i1' := i1
  rw [hZ.alike.findClass] at i1'
  cases i1'.symm.trans m1
  obtain ⟨k', q, ek⟩ := hZ.alike.2.2 _ _ m2
  obtain ⟨vm', X', st⟩ := X.getClassOf hx hown (mvT hZ w1) (mvT hZ w2) (nf_top (args := #[]) (mvT hZ w3)) (mvT hZ w4) (mvT hZ w5) (mvT hZ w6) i1 i3 q (by rw [ek]; exact m3) hg hsize hs hd hf (by omega)
  exact ⟨_, X', eT, st⟩
theorem own_len {t : Term} {cl : Cell} {ty : FieldType} {a : Addr} {n : Int32} {aa : Array Value} (ev : t.eval aa Z none [] Z = some (.ref a)) (A : Arr Z Z.heap a cl ty) (hh : (Term.length t).eval aa Z none [] Z = some (.int n)) : cl.slots.size < 2 ^ 31 ∧ cl.slots.size.toInt32 = n := by
  have q := A.fin (Vm.Alike.refl _)
  by_cases z : cl.slots.size < 2 ^ 31
  · rw [len_f ev q z] at hh
    exact ⟨z, Value.int.inj (Option.some.inj hh)⟩
  · simp [Term.eval, ev, q, z] at hh
end OwnKit
end Jvm.RoadKit

namespace Jvm.Pilot.@@N@@
open Jvm Jvm.ClassFile Sem Op Lib Jvm.Free Jvm.Stand Jvm.LawKit Jvm.RoadKit Bundle Jvm.Pilot.@@N@@.Jvm.D

def own_pick (w0 w1 w2 w3 w4 w5 w6 w7 w8 w9 w10 w11 : Addr) (k : Int32) : Addr := if k = 0 then w0 else if k = 1 then w1 else if k = 2 then w2 else if k = 3 then w3 else if k = 4 then w4 else if k = 5 then w5 else if k = 6 then w6 else if k = 7 then w7 else if k = 8 then w8 else if k = 9 then w9 else if k = 10 then w10 else w11
def own_S (Z : State) (h : Heap) (w0 w1 w2 w3 w4 w5 w6 w7 w8 w9 w10 w11 : Addr) : Prop := Sta Z h "com/example/greywood/greywood/lua/runtime/ArithmeticOperator" "ADD" "Lcom/example/greywood/greywood/lua/runtime/ArithmeticOperator;" (.ref w0) ∧ Sta Z h "com/example/greywood/greywood/lua/runtime/ArithmeticOperator" "SUBTRACT" "Lcom/example/greywood/greywood/lua/runtime/ArithmeticOperator;" (.ref w1) ∧ Sta Z h "com/example/greywood/greywood/lua/runtime/ArithmeticOperator" "MULTIPLY" "Lcom/example/greywood/greywood/lua/runtime/ArithmeticOperator;" (.ref w2) ∧ Sta Z h "com/example/greywood/greywood/lua/runtime/ArithmeticOperator" "DIVIDE" "Lcom/example/greywood/greywood/lua/runtime/ArithmeticOperator;" (.ref w3) ∧ Sta Z h "com/example/greywood/greywood/lua/runtime/ArithmeticOperator" "FLOOR_DIVIDE" "Lcom/example/greywood/greywood/lua/runtime/ArithmeticOperator;" (.ref w4) ∧ Sta Z h "com/example/greywood/greywood/lua/runtime/ArithmeticOperator" "MODULO" "Lcom/example/greywood/greywood/lua/runtime/ArithmeticOperator;" (.ref w5) ∧ Sta Z h "com/example/greywood/greywood/lua/runtime/ArithmeticOperator" "POWER" "Lcom/example/greywood/greywood/lua/runtime/ArithmeticOperator;" (.ref w6) ∧ Sta Z h "com/example/greywood/greywood/lua/runtime/ArithmeticOperator" "BITWISE_AND" "Lcom/example/greywood/greywood/lua/runtime/ArithmeticOperator;" (.ref w7) ∧ Sta Z h "com/example/greywood/greywood/lua/runtime/ArithmeticOperator" "BITWISE_OR" "Lcom/example/greywood/greywood/lua/runtime/ArithmeticOperator;" (.ref w8) ∧ Sta Z h "com/example/greywood/greywood/lua/runtime/ArithmeticOperator" "BITWISE_XOR" "Lcom/example/greywood/greywood/lua/runtime/ArithmeticOperator;" (.ref w9) ∧ Sta Z h "com/example/greywood/greywood/lua/runtime/ArithmeticOperator" "SHIFT_LEFT" "Lcom/example/greywood/greywood/lua/runtime/ArithmeticOperator;" (.ref w10) ∧ Sta Z h "com/example/greywood/greywood/lua/runtime/ArithmeticOperator" "SHIFT_RIGHT" "Lcom/example/greywood/greywood/lua/runtime/ArithmeticOperator;" (.ref w11)
def own_E (Z : State) (h : Heap) (w0 w1 w2 w3 w4 w5 w6 w7 w8 w9 w10 w11 : Addr) : Prop := Exa Z h w0 "com/example/greywood/greywood/lua/runtime/ArithmeticOperator$1" ∧ Exa Z h w1 "com/example/greywood/greywood/lua/runtime/ArithmeticOperator$2" ∧ Exa Z h w2 "com/example/greywood/greywood/lua/runtime/ArithmeticOperator$3" ∧ Exa Z h w3 "com/example/greywood/greywood/lua/runtime/ArithmeticOperator$4" ∧ Exa Z h w4 "com/example/greywood/greywood/lua/runtime/ArithmeticOperator$5" ∧ Exa Z h w5 "com/example/greywood/greywood/lua/runtime/ArithmeticOperator$6" ∧ Exa Z h w6 "com/example/greywood/greywood/lua/runtime/ArithmeticOperator$7" ∧ Exa Z h w7 "com/example/greywood/greywood/lua/runtime/ArithmeticOperator$8" ∧ Exa Z h w8 "com/example/greywood/greywood/lua/runtime/ArithmeticOperator$9" ∧ Exa Z h w9 "com/example/greywood/greywood/lua/runtime/ArithmeticOperator$10" ∧ Exa Z h w10 "com/example/greywood/greywood/lua/runtime/ArithmeticOperator$11" ∧ Exa Z h w11 "com/example/greywood/greywood/lua/runtime/ArithmeticOperator$12"
theorem d1_0 : decode method_2_code 0 = .ok (.iload_n 0, 1) := by decide +kernel
theorem d1_1 : decode method_2_code 1 = .ok (.ifCond .ne 10, 3) := by decide +kernel
theorem d1_4 : decode method_2_code 4 = .ok (.getstatic 7, 3) := by decide +kernel
theorem d1_7 : decode method_2_code 7 = .ok (.astore_n 1, 1) := by decide +kernel
theorem d1_8 : decode method_2_code 8 = .ok (.goto 132, 3) := by decide +kernel
theorem d1_11 : decode method_2_code 11 = .ok (.iload_n 0, 1) := by decide +kernel
theorem d1_12 : decode method_2_code 12 = .ok (.iconst 1, 1) := by decide +kernel
theorem d1_13 : decode method_2_code 13 = .ok (.if_icmp .ne 10, 3) := by decide +kernel
theorem d1_16 : decode method_2_code 16 = .ok (.getstatic 13, 3) := by decide +kernel
theorem d1_19 : decode method_2_code 19 = .ok (.astore_n 1, 1) := by decide +kernel
theorem d1_20 : decode method_2_code 20 = .ok (.goto 120, 3) := by decide +kernel
theorem d1_23 : decode method_2_code 23 = .ok (.iload_n 0, 1) := by decide +kernel
theorem d1_24 : decode method_2_code 24 = .ok (.iconst 2, 1) := by decide +kernel
theorem d1_25 : decode method_2_code 25 = .ok (.if_icmp .ne 10, 3) := by decide +kernel
theorem d1_28 : decode method_2_code 28 = .ok (.getstatic 16, 3) := by decide +kernel
theorem d1_31 : decode method_2_code 31 = .ok (.astore_n 1, 1) := by decide +kernel
theorem d1_32 : decode method_2_code 32 = .ok (.goto 108, 3) := by decide +kernel
theorem d1_35 : decode method_2_code 35 = .ok (.iload_n 0, 1) := by decide +kernel
theorem d1_36 : decode method_2_code 36 = .ok (.iconst 3, 1) := by decide +kernel
theorem d1_37 : decode method_2_code 37 = .ok (.if_icmp .ne 10, 3) := by decide +kernel
theorem d1_40 : decode method_2_code 40 = .ok (.getstatic 19, 3) := by decide +kernel
theorem d1_43 : decode method_2_code 43 = .ok (.astore_n 1, 1) := by decide +kernel
theorem d1_44 : decode method_2_code 44 = .ok (.goto 96, 3) := by decide +kernel
theorem d1_47 : decode method_2_code 47 = .ok (.iload_n 0, 1) := by decide +kernel
theorem d1_48 : decode method_2_code 48 = .ok (.iconst 4, 1) := by decide +kernel
theorem d1_49 : decode method_2_code 49 = .ok (.if_icmp .ne 10, 3) := by decide +kernel
theorem d1_52 : decode method_2_code 52 = .ok (.getstatic 22, 3) := by decide +kernel
theorem d1_55 : decode method_2_code 55 = .ok (.astore_n 1, 1) := by decide +kernel
theorem d1_56 : decode method_2_code 56 = .ok (.goto 84, 3) := by decide +kernel
theorem d1_59 : decode method_2_code 59 = .ok (.iload_n 0, 1) := by decide +kernel
theorem d1_60 : decode method_2_code 60 = .ok (.iconst 5, 1) := by decide +kernel
theorem d1_61 : decode method_2_code 61 = .ok (.if_icmp .ne 10, 3) := by decide +kernel
theorem d1_64 : decode method_2_code 64 = .ok (.getstatic 25, 3) := by decide +kernel
theorem d1_67 : decode method_2_code 67 = .ok (.astore_n 1, 1) := by decide +kernel
theorem d1_68 : decode method_2_code 68 = .ok (.goto 72, 3) := by decide +kernel
theorem d1_71 : decode method_2_code 71 = .ok (.iload_n 0, 1) := by decide +kernel
theorem d1_72 : decode method_2_code 72 = .ok (.bipush 6, 2) := by decide +kernel
theorem d1_74 : decode method_2_code 74 = .ok (.if_icmp .ne 10, 3) := by decide +kernel
theorem d1_77 : decode method_2_code 77 = .ok (.getstatic 28, 3) := by decide +kernel
theorem d1_80 : decode method_2_code 80 = .ok (.astore_n 1, 1) := by decide +kernel
theorem d1_81 : decode method_2_code 81 = .ok (.goto 59, 3) := by decide +kernel
theorem d1_84 : decode method_2_code 84 = .ok (.iload_n 0, 1) := by decide +kernel
theorem d1_85 : decode method_2_code 85 = .ok (.bipush 7, 2) := by decide +kernel
theorem d1_87 : decode method_2_code 87 = .ok (.if_icmp .ne 10, 3) := by decide +kernel
theorem d1_90 : decode method_2_code 90 = .ok (.getstatic 31, 3) := by decide +kernel
theorem d1_93 : decode method_2_code 93 = .ok (.astore_n 1, 1) := by decide +kernel
theorem d1_94 : decode method_2_code 94 = .ok (.goto 46, 3) := by decide +kernel
theorem d1_97 : decode method_2_code 97 = .ok (.iload_n 0, 1) := by decide +kernel
theorem d1_98 : decode method_2_code 98 = .ok (.bipush 8, 2) := by decide +kernel
theorem d1_100 : decode method_2_code 100 = .ok (.if_icmp .ne 10, 3) := by decide +kernel
theorem d1_103 : decode method_2_code 103 = .ok (.getstatic 34, 3) := by decide +kernel
theorem d1_106 : decode method_2_code 106 = .ok (.astore_n 1, 1) := by decide +kernel
theorem d1_107 : decode method_2_code 107 = .ok (.goto 33, 3) := by decide +kernel
theorem d1_110 : decode method_2_code 110 = .ok (.iload_n 0, 1) := by decide +kernel
theorem d1_111 : decode method_2_code 111 = .ok (.bipush 9, 2) := by decide +kernel
theorem d1_113 : decode method_2_code 113 = .ok (.if_icmp .ne 10, 3) := by decide +kernel
theorem d1_116 : decode method_2_code 116 = .ok (.getstatic 37, 3) := by decide +kernel
theorem d1_119 : decode method_2_code 119 = .ok (.astore_n 1, 1) := by decide +kernel
theorem d1_120 : decode method_2_code 120 = .ok (.goto 20, 3) := by decide +kernel
theorem d1_123 : decode method_2_code 123 = .ok (.iload_n 0, 1) := by decide +kernel
theorem d1_124 : decode method_2_code 124 = .ok (.bipush 10, 2) := by decide +kernel
theorem d1_126 : decode method_2_code 126 = .ok (.if_icmp .ne 10, 3) := by decide +kernel
theorem d1_129 : decode method_2_code 129 = .ok (.getstatic 40, 3) := by decide +kernel
theorem d1_132 : decode method_2_code 132 = .ok (.astore_n 1, 1) := by decide +kernel
theorem d1_133 : decode method_2_code 133 = .ok (.goto 7, 3) := by decide +kernel
theorem d1_136 : decode method_2_code 136 = .ok (.getstatic 43, 3) := by decide +kernel
theorem d1_139 : decode method_2_code 139 = .ok (.astore_n 1, 1) := by decide +kernel
theorem d1_140 : decode method_2_code 140 = .ok (.aload_n 1, 1) := by decide +kernel
theorem d1_141 : decode method_2_code 141 = .ok (.areturn, 1) := by decide +kernel
set_option maxRecDepth 65536 in
set_option maxHeartbeats 40000000 in
theorem own_pick_con (l : Launch) (Z : State) (a0 : Array Value) (hw : ∀ d ∈ tables_1, d.before a0 Z = true) (h0 : Heap) (w0 w1 w2 w3 w4 w5 w6 w7 w8 w9 w10 w11 : Addr) (hS : own_S Z h0 w0 w1 w2 w3 w4 w5 w6 w7 w8 w9 w10 w11) (k : Int32) :
    Con [] l Z (⟨"com/example/greywood/greywood/lua/runtime/ArithmeticOperatorDividesByPinLaw", "pick", "(I)Lcom/example/greywood/greywood/lua/runtime/ArithmeticOperator;"⟩ : MethodName) method_2_code 2 (Option.some (Jvm.ClassFile.FieldType.object "com/example/greywood/greywood/lua/runtime/ArithmeticOperator")) ({ frames := 0, cells := 0, slots := 0, locals := 0 } : Room) #[(.int k)] h0 (fun v h L => v = some (.ref (own_pick w0 w1 w2 w3 w4 w5 w6 w7 w8 w9 w10 w11 k)) ∧ L = [] ∧ h = h0) := by
  refine Con.of (Ls := #[.val (.int k), .unset]) (by first | exact plainFor_of_name (by first | (simp [plainName, overriddenIn]; done) | decide +kernel) | decide +kernel) (fun m => by first | rfl | (simp [entryFrame, mkF, argsToLocals, Value.category]; done)) ?_
  intro p e s m below meth c T0 hx hby hml hown hnm hret hlk hZ e0 X0
  obtain ⟨S0, S1, S2, S3, S4, S5, S6, S7, S8, S9, S10, S11⟩ := hS
  refine Gl.st (U' := (T0.setTop (mkF m 1 #[.val (.int k), .unset] [(.int k)]))) (fun _ zz => XS.iloadN X0.here hx rfl (hb hby d1_0) rfl zz) ?_
  by_cases q0 : k = (0 : Int32)
  · refine Gl.st (U' := (T0.setTop (mkF m 4 #[.val (.int k), .unset] []))) (fun _ zz => XS.ifNo X0.here hx rfl (hb hby d1_1) rfl ((if0 _ _).trans (teq q0).2) zz) ?_
    obtain ⟨Tt1, Xt1, et1, stt1⟩ := getS2 X0 hx hZ hown (host := "") (Or.inl (hw _ (List.mem_of_getElem? (i := 5) rfl))) Via.refl e0 S0 (g := (mkF m 4 #[.val (.int k), .unset] [])) rfl (hb hby d1_4)
    refine Gl.st (U' := (Tt1.setTop (mkF m 7 #[.val (.int k), .unset] [(.ref w0)]))) stt1 ?_
    refine Gl.st (U' := (Tt1.setTop (mkF m 8 #[.val (.int k), .val (.ref w0)] []))) (fun _ zz => XS.astoreN Xt1.here hx rfl (hb hby d1_7) rfl rfl (l' := #[.val (.int k), .val (.ref w0)]) rfl zz) ?_
    refine Gl.st (U' := (Tt1.setTop (mkF m 140 #[.val (.int k), .val (.ref w0)] []))) (fun _ zz => XS.goto Xt1.here hx rfl (pc0 := 8) (pc' := 140) rfl (hb hby d1_8) (by decide) (by decide) zz) ?_
    refine Gl.st (U' := (Tt1.setTop (mkF m 141 #[.val (.int k), .val (.ref w0)] [(.ref w0)]))) (fun _ zz => XS.aloadN Xt1.here hx rfl (hb hby d1_140) rfl rfl zz) ?_
    exact Gl.retA Xt1 hx hret rfl hlk rfl (hb hby d1_141) ⟨by unfold own_pick; rw [if_pos q0], rfl, et1⟩ (by decide) (by decide)
  · refine Gl.st (U' := (T0.setTop (mkF m 11 #[.val (.int k), .unset] []))) (fun _ zz => XS.ifYes X0.here hx rfl (pc0 := 1) (pc' := 11) rfl (hb hby d1_1) rfl ((if0 _ _).trans (feq q0).2) (by decide) (by decide) zz) ?_
    refine Gl.st (U' := (T0.setTop (mkF m 12 #[.val (.int k), .unset] [(.int k)]))) (fun _ zz => XS.iloadN X0.here hx rfl (hb hby d1_11) rfl zz) ?_
    refine Gl.st (U' := (T0.setTop (mkF m 13 #[.val (.int k), .unset] [(.int (1 : Int32)), (.int k)]))) (fun _ zz => XS.iconst X0.here hx rfl (hb hby d1_12) zz) ?_
    by_cases q1 : k = (1 : Int32)
    · refine Gl.st (U' := (T0.setTop (mkF m 16 #[.val (.int k), .unset] []))) (fun _ zz => XS.icmpNo X0.here hx rfl (hb hby d1_13) rfl (teq q1).2 zz) ?_
      obtain ⟨Tt2, Xt2, et2, stt2⟩ := getS2 X0 hx hZ hown (host := "") (Or.inl (hw _ (List.mem_of_getElem? (i := 35) rfl))) Via.refl e0 S1 (g := (mkF m 16 #[.val (.int k), .unset] [])) rfl (hb hby d1_16)
      refine Gl.st (U' := (Tt2.setTop (mkF m 19 #[.val (.int k), .unset] [(.ref w1)]))) stt2 ?_
      refine Gl.st (U' := (Tt2.setTop (mkF m 20 #[.val (.int k), .val (.ref w1)] []))) (fun _ zz => XS.astoreN Xt2.here hx rfl (hb hby d1_19) rfl rfl (l' := #[.val (.int k), .val (.ref w1)]) rfl zz) ?_
      refine Gl.st (U' := (Tt2.setTop (mkF m 140 #[.val (.int k), .val (.ref w1)] []))) (fun _ zz => XS.goto Xt2.here hx rfl (pc0 := 20) (pc' := 140) rfl (hb hby d1_20) (by decide) (by decide) zz) ?_
      refine Gl.st (U' := (Tt2.setTop (mkF m 141 #[.val (.int k), .val (.ref w1)] [(.ref w1)]))) (fun _ zz => XS.aloadN Xt2.here hx rfl (hb hby d1_140) rfl rfl zz) ?_
      exact Gl.retA Xt2 hx hret rfl hlk rfl (hb hby d1_141) ⟨by unfold own_pick; rw [if_neg q0, if_pos q1], rfl, et2⟩ (by decide) (by decide)
    · refine Gl.st (U' := (T0.setTop (mkF m 23 #[.val (.int k), .unset] []))) (fun _ zz => XS.icmpYes X0.here hx rfl (pc0 := 13) (pc' := 23) rfl (hb hby d1_13) rfl (feq q1).2 (by decide) (by decide) zz) ?_
      refine Gl.st (U' := (T0.setTop (mkF m 24 #[.val (.int k), .unset] [(.int k)]))) (fun _ zz => XS.iloadN X0.here hx rfl (hb hby d1_23) rfl zz) ?_
      refine Gl.st (U' := (T0.setTop (mkF m 25 #[.val (.int k), .unset] [(.int (2 : Int32)), (.int k)]))) (fun _ zz => XS.iconst X0.here hx rfl (hb hby d1_24) zz) ?_
      by_cases q2 : k = (2 : Int32)
      · refine Gl.st (U' := (T0.setTop (mkF m 28 #[.val (.int k), .unset] []))) (fun _ zz => XS.icmpNo X0.here hx rfl (hb hby d1_25) rfl (teq q2).2 zz) ?_
        obtain ⟨Tt3, Xt3, et3, stt3⟩ := getS2 X0 hx hZ hown (host := "") (Or.inl (hw _ (List.mem_of_getElem? (i := 21) rfl))) Via.refl e0 S2 (g := (mkF m 28 #[.val (.int k), .unset] [])) rfl (hb hby d1_28)
        refine Gl.st (U' := (Tt3.setTop (mkF m 31 #[.val (.int k), .unset] [(.ref w2)]))) stt3 ?_
        refine Gl.st (U' := (Tt3.setTop (mkF m 32 #[.val (.int k), .val (.ref w2)] []))) (fun _ zz => XS.astoreN Xt3.here hx rfl (hb hby d1_31) rfl rfl (l' := #[.val (.int k), .val (.ref w2)]) rfl zz) ?_
        refine Gl.st (U' := (Tt3.setTop (mkF m 140 #[.val (.int k), .val (.ref w2)] []))) (fun _ zz => XS.goto Xt3.here hx rfl (pc0 := 32) (pc' := 140) rfl (hb hby d1_32) (by decide) (by decide) zz) ?_
        refine Gl.st (U' := (Tt3.setTop (mkF m 141 #[.val (.int k), .val (.ref w2)] [(.ref w2)]))) (fun _ zz => XS.aloadN Xt3.here hx rfl (hb hby d1_140) rfl rfl zz) ?_
        exact Gl.retA Xt3 hx hret rfl hlk rfl (hb hby d1_141) ⟨by unfold own_pick; rw [if_neg q0, if_neg q1, if_pos q2], rfl, et3⟩ (by decide) (by decide)
      · refine Gl.st (U' := (T0.setTop (mkF m 35 #[.val (.int k), .unset] []))) (fun _ zz => XS.icmpYes X0.here hx rfl (pc0 := 25) (pc' := 35) rfl (hb hby d1_25) rfl (feq q2).2 (by decide) (by decide) zz) ?_
        refine Gl.st (U' := (T0.setTop (mkF m 36 #[.val (.int k), .unset] [(.int k)]))) (fun _ zz => XS.iloadN X0.here hx rfl (hb hby d1_35) rfl zz) ?_
        refine Gl.st (U' := (T0.setTop (mkF m 37 #[.val (.int k), .unset] [(.int (3 : Int32)), (.int k)]))) (fun _ zz => XS.iconst X0.here hx rfl (hb hby d1_36) zz) ?_
        by_cases q3 : k = (3 : Int32)
        · refine Gl.st (U' := (T0.setTop (mkF m 40 #[.val (.int k), .unset] []))) (fun _ zz => XS.icmpNo X0.here hx rfl (hb hby d1_37) rfl (teq q3).2 zz) ?_
          obtain ⟨Tt4, Xt4, et4, stt4⟩ := getS2 X0 hx hZ hown (host := "") (Or.inl (hw _ (List.mem_of_getElem? (i := 19) rfl))) Via.refl e0 S3 (g := (mkF m 40 #[.val (.int k), .unset] [])) rfl (hb hby d1_40)
          refine Gl.st (U' := (Tt4.setTop (mkF m 43 #[.val (.int k), .unset] [(.ref w3)]))) stt4 ?_
          refine Gl.st (U' := (Tt4.setTop (mkF m 44 #[.val (.int k), .val (.ref w3)] []))) (fun _ zz => XS.astoreN Xt4.here hx rfl (hb hby d1_43) rfl rfl (l' := #[.val (.int k), .val (.ref w3)]) rfl zz) ?_
          refine Gl.st (U' := (Tt4.setTop (mkF m 140 #[.val (.int k), .val (.ref w3)] []))) (fun _ zz => XS.goto Xt4.here hx rfl (pc0 := 44) (pc' := 140) rfl (hb hby d1_44) (by decide) (by decide) zz) ?_
          refine Gl.st (U' := (Tt4.setTop (mkF m 141 #[.val (.int k), .val (.ref w3)] [(.ref w3)]))) (fun _ zz => XS.aloadN Xt4.here hx rfl (hb hby d1_140) rfl rfl zz) ?_
          exact Gl.retA Xt4 hx hret rfl hlk rfl (hb hby d1_141) ⟨by unfold own_pick; rw [if_neg q0, if_neg q1, if_neg q2, if_pos q3], rfl, et4⟩ (by decide) (by decide)
        · refine Gl.st (U' := (T0.setTop (mkF m 47 #[.val (.int k), .unset] []))) (fun _ zz => XS.icmpYes X0.here hx rfl (pc0 := 37) (pc' := 47) rfl (hb hby d1_37) rfl (feq q3).2 (by decide) (by decide) zz) ?_
          refine Gl.st (U' := (T0.setTop (mkF m 48 #[.val (.int k), .unset] [(.int k)]))) (fun _ zz => XS.iloadN X0.here hx rfl (hb hby d1_47) rfl zz) ?_
          refine Gl.st (U' := (T0.setTop (mkF m 49 #[.val (.int k), .unset] [(.int (4 : Int32)), (.int k)]))) (fun _ zz => XS.iconst X0.here hx rfl (hb hby d1_48) zz) ?_
          by_cases q4 : k = (4 : Int32)
          · refine Gl.st (U' := (T0.setTop (mkF m 52 #[.val (.int k), .unset] []))) (fun _ zz => XS.icmpNo X0.here hx rfl (hb hby d1_49) rfl (teq q4).2 zz) ?_
            obtain ⟨Tt5, Xt5, et5, stt5⟩ := getS2 X0 hx hZ hown (host := "") (Or.inl (hw _ (List.mem_of_getElem? (i := 30) rfl))) Via.refl e0 S4 (g := (mkF m 52 #[.val (.int k), .unset] [])) rfl (hb hby d1_52)
            refine Gl.st (U' := (Tt5.setTop (mkF m 55 #[.val (.int k), .unset] [(.ref w4)]))) stt5 ?_
            refine Gl.st (U' := (Tt5.setTop (mkF m 56 #[.val (.int k), .val (.ref w4)] []))) (fun _ zz => XS.astoreN Xt5.here hx rfl (hb hby d1_55) rfl rfl (l' := #[.val (.int k), .val (.ref w4)]) rfl zz) ?_
            refine Gl.st (U' := (Tt5.setTop (mkF m 140 #[.val (.int k), .val (.ref w4)] []))) (fun _ zz => XS.goto Xt5.here hx rfl (pc0 := 56) (pc' := 140) rfl (hb hby d1_56) (by decide) (by decide) zz) ?_
            refine Gl.st (U' := (Tt5.setTop (mkF m 141 #[.val (.int k), .val (.ref w4)] [(.ref w4)]))) (fun _ zz => XS.aloadN Xt5.here hx rfl (hb hby d1_140) rfl rfl zz) ?_
            exact Gl.retA Xt5 hx hret rfl hlk rfl (hb hby d1_141) ⟨by unfold own_pick; rw [if_neg q0, if_neg q1, if_neg q2, if_neg q3, if_pos q4], rfl, et5⟩ (by decide) (by decide)
          · refine Gl.st (U' := (T0.setTop (mkF m 59 #[.val (.int k), .unset] []))) (fun _ zz => XS.icmpYes X0.here hx rfl (pc0 := 49) (pc' := 59) rfl (hb hby d1_49) rfl (feq q4).2 (by decide) (by decide) zz) ?_
            refine Gl.st (U' := (T0.setTop (mkF m 60 #[.val (.int k), .unset] [(.int k)]))) (fun _ zz => XS.iloadN X0.here hx rfl (hb hby d1_59) rfl zz) ?_
            refine Gl.st (U' := (T0.setTop (mkF m 61 #[.val (.int k), .unset] [(.int (5 : Int32)), (.int k)]))) (fun _ zz => XS.iconst X0.here hx rfl (hb hby d1_60) zz) ?_
            by_cases q5 : k = (5 : Int32)
            · refine Gl.st (U' := (T0.setTop (mkF m 64 #[.val (.int k), .unset] []))) (fun _ zz => XS.icmpNo X0.here hx rfl (hb hby d1_61) rfl (teq q5).2 zz) ?_
              obtain ⟨Tt6, Xt6, et6, stt6⟩ := getS2 X0 hx hZ hown (host := "") (Or.inl (hw _ (List.mem_of_getElem? (i := 47) rfl))) Via.refl e0 S5 (g := (mkF m 64 #[.val (.int k), .unset] [])) rfl (hb hby d1_64)
              refine Gl.st (U' := (Tt6.setTop (mkF m 67 #[.val (.int k), .unset] [(.ref w5)]))) stt6 ?_
              refine Gl.st (U' := (Tt6.setTop (mkF m 68 #[.val (.int k), .val (.ref w5)] []))) (fun _ zz => XS.astoreN Xt6.here hx rfl (hb hby d1_67) rfl rfl (l' := #[.val (.int k), .val (.ref w5)]) rfl zz) ?_
              refine Gl.st (U' := (Tt6.setTop (mkF m 140 #[.val (.int k), .val (.ref w5)] []))) (fun _ zz => XS.goto Xt6.here hx rfl (pc0 := 68) (pc' := 140) rfl (hb hby d1_68) (by decide) (by decide) zz) ?_
              refine Gl.st (U' := (Tt6.setTop (mkF m 141 #[.val (.int k), .val (.ref w5)] [(.ref w5)]))) (fun _ zz => XS.aloadN Xt6.here hx rfl (hb hby d1_140) rfl rfl zz) ?_
              exact Gl.retA Xt6 hx hret rfl hlk rfl (hb hby d1_141) ⟨by unfold own_pick; rw [if_neg q0, if_neg q1, if_neg q2, if_neg q3, if_neg q4, if_pos q5], rfl, et6⟩ (by decide) (by decide)
            · refine Gl.st (U' := (T0.setTop (mkF m 71 #[.val (.int k), .unset] []))) (fun _ zz => XS.icmpYes X0.here hx rfl (pc0 := 61) (pc' := 71) rfl (hb hby d1_61) rfl (feq q5).2 (by decide) (by decide) zz) ?_
              refine Gl.st (U' := (T0.setTop (mkF m 72 #[.val (.int k), .unset] [(.int k)]))) (fun _ zz => XS.iloadN X0.here hx rfl (hb hby d1_71) rfl zz) ?_
              refine Gl.st (U' := (T0.setTop (mkF m 74 #[.val (.int k), .unset] [(.int (6 : Int32)), (.int k)]))) (fun _ zz => XS.bipush X0.here hx rfl (hb hby d1_72) zz) ?_
              by_cases q6 : k = (6 : Int32)
              · refine Gl.st (U' := (T0.setTop (mkF m 77 #[.val (.int k), .unset] []))) (fun _ zz => XS.icmpNo X0.here hx rfl (hb hby d1_74) rfl (teq q6).2 zz) ?_
                obtain ⟨Tt7, Xt7, et7, stt7⟩ := getS2 X0 hx hZ hown (host := "") (Or.inl (hw _ (List.mem_of_getElem? (i := 44) rfl))) Via.refl e0 S6 (g := (mkF m 77 #[.val (.int k), .unset] [])) rfl (hb hby d1_77)
                refine Gl.st (U' := (Tt7.setTop (mkF m 80 #[.val (.int k), .unset] [(.ref w6)]))) stt7 ?_
                refine Gl.st (U' := (Tt7.setTop (mkF m 81 #[.val (.int k), .val (.ref w6)] []))) (fun _ zz => XS.astoreN Xt7.here hx rfl (hb hby d1_80) rfl rfl (l' := #[.val (.int k), .val (.ref w6)]) rfl zz) ?_
                refine Gl.st (U' := (Tt7.setTop (mkF m 140 #[.val (.int k), .val (.ref w6)] []))) (fun _ zz => XS.goto Xt7.here hx rfl (pc0 := 81) (pc' := 140) rfl (hb hby d1_81) (by decide) (by decide) zz) ?_
                refine Gl.st (U' := (Tt7.setTop (mkF m 141 #[.val (.int k), .val (.ref w6)] [(.ref w6)]))) (fun _ zz => XS.aloadN Xt7.here hx rfl (hb hby d1_140) rfl rfl zz) ?_
                exact Gl.retA Xt7 hx hret rfl hlk rfl (hb hby d1_141) ⟨by unfold own_pick; rw [if_neg q0, if_neg q1, if_neg q2, if_neg q3, if_neg q4, if_neg q5, if_pos q6], rfl, et7⟩ (by decide) (by decide)
              · refine Gl.st (U' := (T0.setTop (mkF m 84 #[.val (.int k), .unset] []))) (fun _ zz => XS.icmpYes X0.here hx rfl (pc0 := 74) (pc' := 84) rfl (hb hby d1_74) rfl (feq q6).2 (by decide) (by decide) zz) ?_
                refine Gl.st (U' := (T0.setTop (mkF m 85 #[.val (.int k), .unset] [(.int k)]))) (fun _ zz => XS.iloadN X0.here hx rfl (hb hby d1_84) rfl zz) ?_
                refine Gl.st (U' := (T0.setTop (mkF m 87 #[.val (.int k), .unset] [(.int (7 : Int32)), (.int k)]))) (fun _ zz => XS.bipush X0.here hx rfl (hb hby d1_85) zz) ?_
                by_cases q7 : k = (7 : Int32)
                · refine Gl.st (U' := (T0.setTop (mkF m 90 #[.val (.int k), .unset] []))) (fun _ zz => XS.icmpNo X0.here hx rfl (hb hby d1_87) rfl (teq q7).2 zz) ?_
                  obtain ⟨Tt8, Xt8, et8, stt8⟩ := getS2 X0 hx hZ hown (host := "") (Or.inl (hw _ (List.mem_of_getElem? (i := 24) rfl))) Via.refl e0 S7 (g := (mkF m 90 #[.val (.int k), .unset] [])) rfl (hb hby d1_90)
                  refine Gl.st (U' := (Tt8.setTop (mkF m 93 #[.val (.int k), .unset] [(.ref w7)]))) stt8 ?_
                  refine Gl.st (U' := (Tt8.setTop (mkF m 94 #[.val (.int k), .val (.ref w7)] []))) (fun _ zz => XS.astoreN Xt8.here hx rfl (hb hby d1_93) rfl rfl (l' := #[.val (.int k), .val (.ref w7)]) rfl zz) ?_
                  refine Gl.st (U' := (Tt8.setTop (mkF m 140 #[.val (.int k), .val (.ref w7)] []))) (fun _ zz => XS.goto Xt8.here hx rfl (pc0 := 94) (pc' := 140) rfl (hb hby d1_94) (by decide) (by decide) zz) ?_
                  refine Gl.st (U' := (Tt8.setTop (mkF m 141 #[.val (.int k), .val (.ref w7)] [(.ref w7)]))) (fun _ zz => XS.aloadN Xt8.here hx rfl (hb hby d1_140) rfl rfl zz) ?_
                  exact Gl.retA Xt8 hx hret rfl hlk rfl (hb hby d1_141) ⟨by unfold own_pick; rw [if_neg q0, if_neg q1, if_neg q2, if_neg q3, if_neg q4, if_neg q5, if_neg q6, if_pos q7], rfl, et8⟩ (by decide) (by decide)
                · refine Gl.st (U' := (T0.setTop (mkF m 97 #[.val (.int k), .unset] []))) (fun _ zz => XS.icmpYes X0.here hx rfl (pc0 := 87) (pc' := 97) rfl (hb hby d1_87) rfl (feq q7).2 (by decide) (by decide) zz) ?_
                  refine Gl.st (U' := (T0.setTop (mkF m 98 #[.val (.int k), .unset] [(.int k)]))) (fun _ zz => XS.iloadN X0.here hx rfl (hb hby d1_97) rfl zz) ?_
                  refine Gl.st (U' := (T0.setTop (mkF m 100 #[.val (.int k), .unset] [(.int (8 : Int32)), (.int k)]))) (fun _ zz => XS.bipush X0.here hx rfl (hb hby d1_98) zz) ?_
                  by_cases q8 : k = (8 : Int32)
                  · refine Gl.st (U' := (T0.setTop (mkF m 103 #[.val (.int k), .unset] []))) (fun _ zz => XS.icmpNo X0.here hx rfl (hb hby d1_100) rfl (teq q8).2 zz) ?_
                    obtain ⟨Tt9, Xt9, et9, stt9⟩ := getS2 X0 hx hZ hown (host := "") (Or.inl (hw _ (List.mem_of_getElem? (i := 32) rfl))) Via.refl e0 S8 (g := (mkF m 103 #[.val (.int k), .unset] [])) rfl (hb hby d1_103)
                    refine Gl.st (U' := (Tt9.setTop (mkF m 106 #[.val (.int k), .unset] [(.ref w8)]))) stt9 ?_
                    refine Gl.st (U' := (Tt9.setTop (mkF m 107 #[.val (.int k), .val (.ref w8)] []))) (fun _ zz => XS.astoreN Xt9.here hx rfl (hb hby d1_106) rfl rfl (l' := #[.val (.int k), .val (.ref w8)]) rfl zz) ?_
                    refine Gl.st (U' := (Tt9.setTop (mkF m 140 #[.val (.int k), .val (.ref w8)] []))) (fun _ zz => XS.goto Xt9.here hx rfl (pc0 := 107) (pc' := 140) rfl (hb hby d1_107) (by decide) (by decide) zz) ?_
                    refine Gl.st (U' := (Tt9.setTop (mkF m 141 #[.val (.int k), .val (.ref w8)] [(.ref w8)]))) (fun _ zz => XS.aloadN Xt9.here hx rfl (hb hby d1_140) rfl rfl zz) ?_
                    exact Gl.retA Xt9 hx hret rfl hlk rfl (hb hby d1_141) ⟨by unfold own_pick; rw [if_neg q0, if_neg q1, if_neg q2, if_neg q3, if_neg q4, if_neg q5, if_neg q6, if_neg q7, if_pos q8], rfl, et9⟩ (by decide) (by decide)
                  · refine Gl.st (U' := (T0.setTop (mkF m 110 #[.val (.int k), .unset] []))) (fun _ zz => XS.icmpYes X0.here hx rfl (pc0 := 100) (pc' := 110) rfl (hb hby d1_100) rfl (feq q8).2 (by decide) (by decide) zz) ?_
                    refine Gl.st (U' := (T0.setTop (mkF m 111 #[.val (.int k), .unset] [(.int k)]))) (fun _ zz => XS.iloadN X0.here hx rfl (hb hby d1_110) rfl zz) ?_
                    refine Gl.st (U' := (T0.setTop (mkF m 113 #[.val (.int k), .unset] [(.int (9 : Int32)), (.int k)]))) (fun _ zz => XS.bipush X0.here hx rfl (hb hby d1_111) zz) ?_
                    by_cases q9 : k = (9 : Int32)
                    · refine Gl.st (U' := (T0.setTop (mkF m 116 #[.val (.int k), .unset] []))) (fun _ zz => XS.icmpNo X0.here hx rfl (hb hby d1_113) rfl (teq q9).2 zz) ?_
                      obtain ⟨Tt10, Xt10, et10, stt10⟩ := getS2 X0 hx hZ hown (host := "") (Or.inl (hw _ (List.mem_of_getElem? (i := 41) rfl))) Via.refl e0 S9 (g := (mkF m 116 #[.val (.int k), .unset] [])) rfl (hb hby d1_116)
                      refine Gl.st (U' := (Tt10.setTop (mkF m 119 #[.val (.int k), .unset] [(.ref w9)]))) stt10 ?_
                      refine Gl.st (U' := (Tt10.setTop (mkF m 120 #[.val (.int k), .val (.ref w9)] []))) (fun _ zz => XS.astoreN Xt10.here hx rfl (hb hby d1_119) rfl rfl (l' := #[.val (.int k), .val (.ref w9)]) rfl zz) ?_
                      refine Gl.st (U' := (Tt10.setTop (mkF m 140 #[.val (.int k), .val (.ref w9)] []))) (fun _ zz => XS.goto Xt10.here hx rfl (pc0 := 120) (pc' := 140) rfl (hb hby d1_120) (by decide) (by decide) zz) ?_
                      refine Gl.st (U' := (Tt10.setTop (mkF m 141 #[.val (.int k), .val (.ref w9)] [(.ref w9)]))) (fun _ zz => XS.aloadN Xt10.here hx rfl (hb hby d1_140) rfl rfl zz) ?_
                      exact Gl.retA Xt10 hx hret rfl hlk rfl (hb hby d1_141) ⟨by unfold own_pick; rw [if_neg q0, if_neg q1, if_neg q2, if_neg q3, if_neg q4, if_neg q5, if_neg q6, if_neg q7, if_neg q8, if_pos q9], rfl, et10⟩ (by decide) (by decide)
                    · refine Gl.st (U' := (T0.setTop (mkF m 123 #[.val (.int k), .unset] []))) (fun _ zz => XS.icmpYes X0.here hx rfl (pc0 := 113) (pc' := 123) rfl (hb hby d1_113) rfl (feq q9).2 (by decide) (by decide) zz) ?_
                      refine Gl.st (U' := (T0.setTop (mkF m 124 #[.val (.int k), .unset] [(.int k)]))) (fun _ zz => XS.iloadN X0.here hx rfl (hb hby d1_123) rfl zz) ?_
                      refine Gl.st (U' := (T0.setTop (mkF m 126 #[.val (.int k), .unset] [(.int (10 : Int32)), (.int k)]))) (fun _ zz => XS.bipush X0.here hx rfl (hb hby d1_124) zz) ?_
                      by_cases q10 : k = (10 : Int32)
                      · refine Gl.st (U' := (T0.setTop (mkF m 129 #[.val (.int k), .unset] []))) (fun _ zz => XS.icmpNo X0.here hx rfl (hb hby d1_126) rfl (teq q10).2 zz) ?_
                        obtain ⟨Tt11, Xt11, et11, stt11⟩ := getS2 X0 hx hZ hown (host := "") (Or.inl (hw _ (List.mem_of_getElem? (i := 38) rfl))) Via.refl e0 S10 (g := (mkF m 129 #[.val (.int k), .unset] [])) rfl (hb hby d1_129)
                        refine Gl.st (U' := (Tt11.setTop (mkF m 132 #[.val (.int k), .unset] [(.ref w10)]))) stt11 ?_
                        refine Gl.st (U' := (Tt11.setTop (mkF m 133 #[.val (.int k), .val (.ref w10)] []))) (fun _ zz => XS.astoreN Xt11.here hx rfl (hb hby d1_132) rfl rfl (l' := #[.val (.int k), .val (.ref w10)]) rfl zz) ?_
                        refine Gl.st (U' := (Tt11.setTop (mkF m 140 #[.val (.int k), .val (.ref w10)] []))) (fun _ zz => XS.goto Xt11.here hx rfl (pc0 := 133) (pc' := 140) rfl (hb hby d1_133) (by decide) (by decide) zz) ?_
                        refine Gl.st (U' := (Tt11.setTop (mkF m 141 #[.val (.int k), .val (.ref w10)] [(.ref w10)]))) (fun _ zz => XS.aloadN Xt11.here hx rfl (hb hby d1_140) rfl rfl zz) ?_
                        exact Gl.retA Xt11 hx hret rfl hlk rfl (hb hby d1_141) ⟨by unfold own_pick; rw [if_neg q0, if_neg q1, if_neg q2, if_neg q3, if_neg q4, if_neg q5, if_neg q6, if_neg q7, if_neg q8, if_neg q9, if_pos q10], rfl, et11⟩ (by decide) (by decide)
                      · refine Gl.st (U' := (T0.setTop (mkF m 136 #[.val (.int k), .unset] []))) (fun _ zz => XS.icmpYes X0.here hx rfl (pc0 := 126) (pc' := 136) rfl (hb hby d1_126) rfl (feq q10).2 (by decide) (by decide) zz) ?_
                        obtain ⟨Tt12, Xt12, et12, stt12⟩ := getS2 X0 hx hZ hown (host := "") (Or.inl (hw _ (List.mem_of_getElem? (i := 27) rfl))) Via.refl e0 S11 (g := (mkF m 136 #[.val (.int k), .unset] [])) rfl (hb hby d1_136)
                        refine Gl.st (U' := (Tt12.setTop (mkF m 139 #[.val (.int k), .unset] [(.ref w11)]))) stt12 ?_
                        refine Gl.st (U' := (Tt12.setTop (mkF m 140 #[.val (.int k), .val (.ref w11)] []))) (fun _ zz => XS.astoreN Xt12.here hx rfl (hb hby d1_139) rfl rfl (l' := #[.val (.int k), .val (.ref w11)]) rfl zz) ?_
                        refine Gl.st (U' := (Tt12.setTop (mkF m 141 #[.val (.int k), .val (.ref w11)] [(.ref w11)]))) (fun _ zz => XS.aloadN Xt12.here hx rfl (hb hby d1_140) rfl rfl zz) ?_
                        exact Gl.retA Xt12 hx hret rfl hlk rfl (hb hby d1_141) ⟨by unfold own_pick; rw [if_neg q0, if_neg q1, if_neg q2, if_neg q3, if_neg q4, if_neg q5, if_neg q6, if_neg q7, if_neg q8, if_neg q9, if_neg q10], rfl, et12⟩ (by decide) (by decide)
theorem d2_0 : decode prog_126_method_8_code 0 = .ok (.aload_n 0, 1) := by decide +kernel
theorem d2_1 : decode prog_126_method_8_code 1 = .ok (.getstatic 13, 3) := by decide +kernel
theorem d2_4 : decode prog_126_method_8_code 4 = .ok (.if_acmp .eq 17, 3) := by decide +kernel
theorem d2_7 : decode prog_126_method_8_code 7 = .ok (.aload_n 0, 1) := by decide +kernel
theorem d2_8 : decode prog_126_method_8_code 8 = .ok (.getstatic 16, 3) := by decide +kernel
theorem d2_11 : decode prog_126_method_8_code 11 = .ok (.if_acmp .eq 10, 3) := by decide +kernel
theorem d2_14 : decode prog_126_method_8_code 14 = .ok (.aload_n 0, 1) := by decide +kernel
theorem d2_15 : decode prog_126_method_8_code 15 = .ok (.getstatic 19, 3) := by decide +kernel
theorem d2_18 : decode prog_126_method_8_code 18 = .ok (.if_acmp .ne 7, 3) := by decide +kernel
theorem d2_21 : decode prog_126_method_8_code 21 = .ok (.iconst 1, 1) := by decide +kernel
theorem d2_22 : decode prog_126_method_8_code 22 = .ok (.goto 4, 3) := by decide +kernel
theorem d2_25 : decode prog_126_method_8_code 25 = .ok (.iconst 0, 1) := by decide +kernel
theorem d2_26 : decode prog_126_method_8_code 26 = .ok (.ireturn, 1) := by decide +kernel
set_option maxRecDepth 65536 in
set_option maxHeartbeats 40000000 in
theorem own_div_con (l : Launch) (Z : State) (a0 : Array Value) (hw : ∀ d ∈ tables_1, d.before a0 Z = true) (h0 : Heap) (w0 w1 w2 w3 w4 w5 w6 w7 w8 w9 w10 w11 : Addr) (hS : own_S Z h0 w0 w1 w2 w3 w4 w5 w6 w7 w8 w9 w10 w11) (a : Addr) :
    Con [] l Z (⟨"com/example/greywood/greywood/lua/runtime/ArithmeticOperator", "dividesBy", "()Z"⟩ : MethodName) prog_126_method_8_code 1 (Option.some Jvm.ClassFile.FieldType.boolean) ({ frames := 0, cells := 0, slots := 0, locals := 0 } : Room) #[(.ref a)] h0 (fun v h L => v = some (.int (own_bi (a = w3 ∨ a = w4 ∨ a = w5))) ∧ L = [] ∧ h = h0) := by
  refine Con.of (Ls := #[.val (.ref a)]) (by first | exact plainFor_of_name (by first | (simp [plainName, overriddenIn]; done) | decide +kernel) | decide +kernel) (fun m => by first | rfl | (simp [entryFrame, mkF, argsToLocals, Value.category]; done)) ?_
  intro p e s m below meth c T0 hx hby hml hown hnm hret hlk hZ e0 X0
  obtain ⟨S0, S1, S2, S3, S4, S5, S6, S7, S8, S9, S10, S11⟩ := hS
  refine Gl.st (U' := (T0.setTop (mkF m 1 #[.val (.ref a)] [(.ref a)]))) (fun _ zz => XS.aloadN X0.here hx rfl (hb hby d2_0) rfl rfl zz) ?_
  obtain ⟨Tt13, Xt13, et13, stt13⟩ := getS2 X0 hx hZ hown (host := "") (Or.inl (hw _ (List.mem_of_getElem? (i := 13) rfl))) Via.refl e0 S3 (g := (mkF m 1 #[.val (.ref a)] [(.ref a)])) rfl (hb hby d2_1)
  refine Gl.st (U' := (Tt13.setTop (mkF m 4 #[.val (.ref a)] [(.ref w3), (.ref a)]))) stt13 ?_
  by_cases q3 : a = w3
  · refine Gl.st (U' := (Tt13.setTop (mkF m 21 #[.val (.ref a)] []))) (fun _ zz => Jvm.RoadKit.acmp (g := (mkF m 4 #[.val (.ref a)] [(.ref w3), (.ref a)])) Xt13 hx rfl rfl rfl (pc0 := 4) (pc' := 21) (same := true) rfl (hb hby d2_4) rfl (decide_eq_true (congrArg Value.ref q3)) (by decide) (by decide) zz) ?_
    refine Gl.st (U' := (Tt13.setTop (mkF m 22 #[.val (.ref a)] [(.int (1 : Int32))]))) (fun _ zz => XS.iconst Xt13.here hx rfl (hb hby d2_21) zz) ?_
    refine Gl.st (U' := (Tt13.setTop (mkF m 26 #[.val (.ref a)] [(.int (1 : Int32))]))) (fun _ zz => XS.goto Xt13.here hx rfl (pc0 := 22) (pc' := 26) rfl (hb hby d2_22) (by decide) (by decide) zz) ?_
    exact Gl.retZ Xt13 hx hret hlk (hb hby d2_26) (Or.inr rfl) ⟨by rw [own_bi_t (Or.inl q3)], rfl, et13⟩ (by decide) (by decide)
  · refine Gl.st (U' := (Tt13.setTop (mkF m 7 #[.val (.ref a)] []))) (fun _ zz => Jvm.RoadKit.acmp (g := (mkF m 4 #[.val (.ref a)] [(.ref w3), (.ref a)])) Xt13 hx rfl rfl rfl (pc0 := 4) (pc' := 7) (same := false) rfl (hb hby d2_4) rfl (decide_eq_false fun q => q3 (Value.ref.inj q)) (by decide) (by decide) zz) ?_
    refine Gl.st (U' := (Tt13.setTop (mkF m 8 #[.val (.ref a)] [(.ref a)]))) (fun _ zz => XS.aloadN Xt13.here hx rfl (hb hby d2_7) rfl rfl zz) ?_
    obtain ⟨Tt14, Xt14, et14, stt14⟩ := getS2 Xt13 hx hZ hown (host := "") (Or.inl (hw _ (List.mem_of_getElem? (i := 15) rfl))) Via.refl et13 S4 (g := (mkF m 8 #[.val (.ref a)] [(.ref a)])) rfl (hb hby d2_8)
    refine Gl.st (U' := (Tt14.setTop (mkF m 11 #[.val (.ref a)] [(.ref w4), (.ref a)]))) stt14 ?_
    by_cases q4 : a = w4
    · refine Gl.st (U' := (Tt14.setTop (mkF m 21 #[.val (.ref a)] []))) (fun _ zz => Jvm.RoadKit.acmp (g := (mkF m 11 #[.val (.ref a)] [(.ref w4), (.ref a)])) Xt14 hx rfl rfl rfl (pc0 := 11) (pc' := 21) (same := true) rfl (hb hby d2_11) rfl (decide_eq_true (congrArg Value.ref q4)) (by decide) (by decide) zz) ?_
      refine Gl.st (U' := (Tt14.setTop (mkF m 22 #[.val (.ref a)] [(.int (1 : Int32))]))) (fun _ zz => XS.iconst Xt14.here hx rfl (hb hby d2_21) zz) ?_
      refine Gl.st (U' := (Tt14.setTop (mkF m 26 #[.val (.ref a)] [(.int (1 : Int32))]))) (fun _ zz => XS.goto Xt14.here hx rfl (pc0 := 22) (pc' := 26) rfl (hb hby d2_22) (by decide) (by decide) zz) ?_
      exact Gl.retZ Xt14 hx hret hlk (hb hby d2_26) (Or.inr rfl) ⟨by rw [own_bi_t (Or.inr (Or.inl q4))], rfl, et14⟩ (by decide) (by decide)
    · refine Gl.st (U' := (Tt14.setTop (mkF m 14 #[.val (.ref a)] []))) (fun _ zz => Jvm.RoadKit.acmp (g := (mkF m 11 #[.val (.ref a)] [(.ref w4), (.ref a)])) Xt14 hx rfl rfl rfl (pc0 := 11) (pc' := 14) (same := false) rfl (hb hby d2_11) rfl (decide_eq_false fun q => q4 (Value.ref.inj q)) (by decide) (by decide) zz) ?_
      refine Gl.st (U' := (Tt14.setTop (mkF m 15 #[.val (.ref a)] [(.ref a)]))) (fun _ zz => XS.aloadN Xt14.here hx rfl (hb hby d2_14) rfl rfl zz) ?_
      obtain ⟨Tt15, Xt15, et15, stt15⟩ := getS2 Xt14 hx hZ hown (host := "") (Or.inl (hw _ (List.mem_of_getElem? (i := 17) rfl))) Via.refl et14 S5 (g := (mkF m 15 #[.val (.ref a)] [(.ref a)])) rfl (hb hby d2_15)
      refine Gl.st (U' := (Tt15.setTop (mkF m 18 #[.val (.ref a)] [(.ref w5), (.ref a)]))) stt15 ?_
      by_cases q5 : a = w5
      · refine Gl.st (U' := (Tt15.setTop (mkF m 21 #[.val (.ref a)] []))) (fun _ zz => Jvm.RoadKit.acmp (g := (mkF m 18 #[.val (.ref a)] [(.ref w5), (.ref a)])) Xt15 hx rfl rfl rfl (pc0 := 18) (pc' := 21) (same := true) rfl (hb hby d2_18) rfl (decide_eq_true (congrArg Value.ref q5)) (by decide) (by decide) zz) ?_
        refine Gl.st (U' := (Tt15.setTop (mkF m 22 #[.val (.ref a)] [(.int (1 : Int32))]))) (fun _ zz => XS.iconst Xt15.here hx rfl (hb hby d2_21) zz) ?_
        refine Gl.st (U' := (Tt15.setTop (mkF m 26 #[.val (.ref a)] [(.int (1 : Int32))]))) (fun _ zz => XS.goto Xt15.here hx rfl (pc0 := 22) (pc' := 26) rfl (hb hby d2_22) (by decide) (by decide) zz) ?_
        exact Gl.retZ Xt15 hx hret hlk (hb hby d2_26) (Or.inr rfl) ⟨by rw [own_bi_t (Or.inr (Or.inr q5))], rfl, et15⟩ (by decide) (by decide)
      · refine Gl.st (U' := (Tt15.setTop (mkF m 25 #[.val (.ref a)] []))) (fun _ zz => Jvm.RoadKit.acmp (g := (mkF m 18 #[.val (.ref a)] [(.ref w5), (.ref a)])) Xt15 hx rfl rfl rfl (pc0 := 18) (pc' := 25) (same := false) rfl (hb hby d2_18) rfl (decide_eq_false fun q => q5 (Value.ref.inj q)) (by decide) (by decide) zz) ?_
        refine Gl.st (U' := (Tt15.setTop (mkF m 26 #[.val (.ref a)] [(.int (0 : Int32))]))) (fun _ zz => XS.iconst Xt15.here hx rfl (hb hby d2_25) zz) ?_
        exact Gl.retZ Xt15 hx hret hlk (hb hby d2_26) (Or.inl rfl) ⟨by rw [own_bi_f (fun q => q.elim q3 (fun q => q.elim q4 q5))], rfl, et15⟩ (by decide) (by decide)
theorem own_sel (Z : State) (a0 : Array Value) (hw : ∀ d ∈ tables_1, d.before a0 Z = true) (h : Heap) (w0 w1 w2 w3 w4 w5 w6 w7 w8 w9 w10 w11 : Addr) (hE : own_E Z h w0 w1 w2 w3 w4 w5 w6 w7 w8 w9 w10 w11) (k : Int32) : ∃ C, Exa Z h (own_pick w0 w1 w2 w3 w4 w5 w6 w7 w8 w9 w10 w11 k) C ∧ (Jvm.Cond.selects C (⟨"com/example/greywood/greywood/lua/runtime/ArithmeticOperator", "dividesBy", "()Z"⟩ : MethodName) (⟨"com/example/greywood/greywood/lua/runtime/ArithmeticOperator", "dividesBy", "()Z"⟩ : MethodName)).before a0 Z = true := by
  obtain ⟨E0, E1, E2, E3, E4, E5, E6, E7, E8, E9, E10, E11⟩ := hE
  unfold own_pick
  by_cases q0 : k = 0
  · rw [if_pos q0]
    exact ⟨_, E0, (hw _ (List.mem_of_getElem? (i := 11) rfl))⟩
  rw [if_neg q0]
  by_cases q1 : k = 1
  · rw [if_pos q1]
    exact ⟨_, E1, (hw _ (List.mem_of_getElem? (i := 37) rfl))⟩
  rw [if_neg q1]
  by_cases q2 : k = 2
  · rw [if_pos q2]
    exact ⟨_, E2, (hw _ (List.mem_of_getElem? (i := 23) rfl))⟩
  rw [if_neg q2]
  by_cases q3 : k = 3
  · rw [if_pos q3]
    exact ⟨_, E3, (hw _ (List.mem_of_getElem? (i := 20) rfl))⟩
  rw [if_neg q3]
  by_cases q4 : k = 4
  · rw [if_pos q4]
    exact ⟨_, E4, (hw _ (List.mem_of_getElem? (i := 31) rfl))⟩
  rw [if_neg q4]
  by_cases q5 : k = 5
  · rw [if_pos q5]
    exact ⟨_, E5, (hw _ (List.mem_of_getElem? (i := 48) rfl))⟩
  rw [if_neg q5]
  by_cases q6 : k = 6
  · rw [if_pos q6]
    exact ⟨_, E6, (hw _ (List.mem_of_getElem? (i := 46) rfl))⟩
  rw [if_neg q6]
  by_cases q7 : k = 7
  · rw [if_pos q7]
    exact ⟨_, E7, (hw _ (List.mem_of_getElem? (i := 26) rfl))⟩
  rw [if_neg q7]
  by_cases q8 : k = 8
  · rw [if_pos q8]
    exact ⟨_, E8, (hw _ (List.mem_of_getElem? (i := 34) rfl))⟩
  rw [if_neg q8]
  by_cases q9 : k = 9
  · rw [if_pos q9]
    exact ⟨_, E9, (hw _ (List.mem_of_getElem? (i := 43) rfl))⟩
  rw [if_neg q9]
  by_cases q10 : k = 10
  · rw [if_pos q10]
    exact ⟨_, E10, (hw _ (List.mem_of_getElem? (i := 40) rfl))⟩
  rw [if_neg q10]
  exact ⟨_, E11, (hw _ (List.mem_of_getElem? (i := 29) rfl))⟩
theorem own_div (Z : State) (h : Heap) (w0 w1 w2 w3 w4 w5 w6 w7 w8 w9 w10 w11 : Addr) (hE : own_E Z h w0 w1 w2 w3 w4 w5 w6 w7 w8 w9 w10 w11) (k : Int32) : (own_pick w0 w1 w2 w3 w4 w5 w6 w7 w8 w9 w10 w11 k = w3 ∨ own_pick w0 w1 w2 w3 w4 w5 w6 w7 w8 w9 w10 w11 k = w4 ∨ own_pick w0 w1 w2 w3 w4 w5 w6 w7 w8 w9 w10 w11 k = w5) ↔ (k = 3 ∨ k = 4 ∨ k = 5) := by
  obtain ⟨E0, E1, E2, E3, E4, E5, E6, E7, E8, E9, E10, E11⟩ := hE
  unfold own_pick
  by_cases q0 : k = 0
  · simp only [if_pos q0]
    subst q0
    exact ⟨fun h => by rcases h with h | h | h <;> first | exact absurd h (ne_exa E0 E3 (by decide)) | exact absurd h (ne_exa E0 E4 (by decide)) | exact absurd h (ne_exa E0 E5 (by decide)), fun h => absurd h (by decide)⟩
  simp only [if_neg q0]
  by_cases q1 : k = 1
  · simp only [if_pos q1]
    subst q1
    exact ⟨fun h => by rcases h with h | h | h <;> first | exact absurd h (ne_exa E1 E3 (by decide)) | exact absurd h (ne_exa E1 E4 (by decide)) | exact absurd h (ne_exa E1 E5 (by decide)), fun h => absurd h (by decide)⟩
  simp only [if_neg q1]
  by_cases q2 : k = 2
  · simp only [if_pos q2]
    subst q2
    exact ⟨fun h => by rcases h with h | h | h <;> first | exact absurd h (ne_exa E2 E3 (by decide)) | exact absurd h (ne_exa E2 E4 (by decide)) | exact absurd h (ne_exa E2 E5 (by decide)), fun h => absurd h (by decide)⟩
  simp only [if_neg q2]
  by_cases q3 : k = 3
  · simp only [if_pos q3]
    subst q3
    exact ⟨fun _ => by decide, fun _ => by simp⟩
  simp only [if_neg q3]
  by_cases q4 : k = 4
  · simp only [if_pos q4]
    subst q4
    exact ⟨fun _ => by decide, fun _ => by simp⟩
  simp only [if_neg q4]
  by_cases q5 : k = 5
  · simp only [if_pos q5]
    subst q5
    exact ⟨fun _ => by decide, fun _ => by simp⟩
  simp only [if_neg q5]
  by_cases q6 : k = 6
  · simp only [if_pos q6]
    subst q6
    exact ⟨fun h => by rcases h with h | h | h <;> first | exact absurd h (ne_exa E6 E3 (by decide)) | exact absurd h (ne_exa E6 E4 (by decide)) | exact absurd h (ne_exa E6 E5 (by decide)), fun h => absurd h (by decide)⟩
  simp only [if_neg q6]
  by_cases q7 : k = 7
  · simp only [if_pos q7]
    subst q7
    exact ⟨fun h => by rcases h with h | h | h <;> first | exact absurd h (ne_exa E7 E3 (by decide)) | exact absurd h (ne_exa E7 E4 (by decide)) | exact absurd h (ne_exa E7 E5 (by decide)), fun h => absurd h (by decide)⟩
  simp only [if_neg q7]
  by_cases q8 : k = 8
  · simp only [if_pos q8]
    subst q8
    exact ⟨fun h => by rcases h with h | h | h <;> first | exact absurd h (ne_exa E8 E3 (by decide)) | exact absurd h (ne_exa E8 E4 (by decide)) | exact absurd h (ne_exa E8 E5 (by decide)), fun h => absurd h (by decide)⟩
  simp only [if_neg q8]
  by_cases q9 : k = 9
  · simp only [if_pos q9]
    subst q9
    exact ⟨fun h => by rcases h with h | h | h <;> first | exact absurd h (ne_exa E9 E3 (by decide)) | exact absurd h (ne_exa E9 E4 (by decide)) | exact absurd h (ne_exa E9 E5 (by decide)), fun h => absurd h (by decide)⟩
  simp only [if_neg q9]
  by_cases q10 : k = 10
  · simp only [if_pos q10]
    subst q10
    exact ⟨fun h => by rcases h with h | h | h <;> first | exact absurd h (ne_exa E10 E3 (by decide)) | exact absurd h (ne_exa E10 E4 (by decide)) | exact absurd h (ne_exa E10 E5 (by decide)), fun h => absurd h (by decide)⟩
  simp only [if_neg q10]
  exact ⟨fun h => by rcases h with h | h | h <;> first | exact absurd h (ne_exa E11 E3 (by decide)) | exact absurd h (ne_exa E11 E4 (by decide)) | exact absurd h (ne_exa E11 E5 (by decide)), fun h => by rcases h with h | h | h; exact absurd h q3; exact absurd h q4; exact absurd h q5⟩
theorem own_pd1 : parseMethodDescriptor "(I)Lcom/example/greywood/greywood/lua/runtime/ArithmeticOperator;" = some ⟨[.int], some (.object "com/example/greywood/greywood/lua/runtime/ArithmeticOperator")⟩ := by decide +kernel
theorem own_pd2 : parseMethodDescriptor "()Z" = some ⟨[], some .boolean⟩ := by decide +kernel
set_option maxRecDepth 65536 in
set_option maxHeartbeats 40000000 in
theorem own_law (l : Launch) (Z : State) (a0 : Array Value) (hw : ∀ d ∈ tables_1, d.before a0 Z = true) (h0 : Heap) (n0 : Nat) (w0 w1 w2 w3 w4 w5 w6 w7 w8 w9 w10 w11 : Addr) (hS : own_S Z h0 w0 w1 w2 w3 w4 w5 w6 w7 w8 w9 w10 w11) (hE : own_E Z h0 w0 w1 w2 w3 w4 w5 w6 w7 w8 w9 w10 w11) (p1 : Int32) :
    Con tables_1 l Z x code maxLocals ret room_1 #[(.int p1)] h0 (fun v h L => v = some (.int 1) ∧ Fr n0 L) := by
  refine Con.of (Ls := #[.val (.int p1), .unset, .unset, .unset]) (by first | exact plainFor_of_name (by first | (simp [plainName, overriddenIn]; done) | decide +kernel) | decide +kernel) (fun m => by first | rfl | (simp [entryFrame, mkF, argsToLocals, Value.category]; done)) ?_
  intro p e s m below meth c T0 hx hby hml hown hnm hret hlk hZ e0 X0
  have hml : c.maxLocals = 4 := hml
  refine Gl.st (U' := (T0.setTop (mkF m 1 #[.val (.int p1), .unset, .unset, .unset] [(.int p1)]))) (fun _ zz => XS.iloadN X0.here hx rfl (hb hby at_0) rfl zz) ?_
  refine Gl.st (U' := (T0.setTop (mkF m 3 #[.val (.int p1), .unset, .unset, .unset] [(.int (2147483647 : Int32)), (.int p1)]))) (fun _ zz => Jvm.Stand.ldcI (g := (mkF m 1 #[.val (.int p1), .unset, .unset, .unset] [(.int p1)])) X0 hx hown (mvT hZ (hw _ (List.mem_of_getElem? (i := 0) rfl))) rfl (hb hby at_1) zz) ?_
  refine Gl.st (U' := (T0.setTop (mkF m 4 #[.val (.int p1), .unset, .unset, .unset] [(.int (p1 &&& (2147483647 : Int32)))]))) (fun _ zz => XS.iand X0.here hx rfl (hb hby at_3) rfl zz) ?_
  refine Gl.st (U' := (T0.setTop (mkF m 6 #[.val (.int p1), .unset, .unset, .unset] [(.int (12 : Int32)), (.int (p1 &&& (2147483647 : Int32)))]))) (fun _ zz => XS.bipush X0.here hx rfl (hb hby at_4) zz) ?_
  refine Gl.st (U' := (T0.setTop (mkF m 7 #[.val (.int p1), .unset, .unset, .unset] [(.int ((p1 &&& (2147483647 : Int32)) % (12 : Int32)))]))) (fun _ zz => iremM (g := (mkF m 6 #[.val (.int p1), .unset, .unset, .unset] [(.int (12 : Int32)), (.int (p1 &&& (2147483647 : Int32)))])) X0 hx rfl (hb hby at_6) rfl (by decide) zz) ?_
  refine Gl.st (U' := (T0.setTop (mkF m 8 #[.val (.int p1), .val (.int ((p1 &&& (2147483647 : Int32)) % (12 : Int32))), .unset, .unset] []))) (fun _ zz => XS.istoreN X0.here hx rfl (hb hby at_7) rfl (l' := #[.val (.int p1), .val (.int ((p1 &&& (2147483647 : Int32)) % (12 : Int32))), .unset, .unset]) rfl zz) ?_
  refine Gl.st (U' := (T0.setTop (mkF m 9 #[.val (.int p1), .val (.int ((p1 &&& (2147483647 : Int32)) % (12 : Int32))), .unset, .unset] [(.int ((p1 &&& (2147483647 : Int32)) % (12 : Int32)))]))) (fun _ zz => XS.iloadN X0.here hx rfl (hb hby at_8) rfl zz) ?_
  generalize ((p1 &&& (2147483647 : Int32)) % (12 : Int32)) = k
  refine gCallS X0 hx hZ (y := (⟨"com/example/greywood/greywood/lua/runtime/ArithmeticOperatorDividesByPinLaw", "pick", "(I)Lcom/example/greywood/greywood/lua/runtime/ArithmeticOperator;"⟩ : MethodName)) hown (hw _ (List.mem_of_getElem? (i := 1) rfl)) (hw _ (List.mem_of_getElem? (i := 2) rfl)) (hw _ (List.mem_of_getElem? (i := 3) rfl)) (hw _ (List.mem_of_getElem? (i := 4) rfl)) (by decide) (own_pick_con l Z a0 hw h0 w0 w1 w2 w3 w4 w5 w6 w7 w8 w9 w10 w11 hS k) e0 (by decide) (W := 0) (by decide) (by decide) (by decide) (g := (mkF m 9 #[.val (.int p1), .val (.int k), .unset, .unset] [(.int k)])) rfl (by rw [hml]; rfl) (argsL := [(.int k)]) (rest := []) (lenOf own_pd1 rfl) rfl rfl (by show 2 * 0 + _ ≤ _; exact Nat.le_of_eq rfl) (hb hby at_9) ?_
  rintro _ Tt16 Lt16 Xt16 ⟨rfl, rfl, et16⟩
  show Gl p e below _ (Tt16.setTop (mkF m 12 #[.val (.int p1), .val (.int k), .unset, .unset] [(.ref (own_pick w0 w1 w2 w3 w4 w5 w6 w7 w8 w9 w10 w11 k))]))
  refine Gl.st (U' := (Tt16.setTop (mkF m 13 #[.val (.int p1), .val (.int k), .val (.ref (own_pick w0 w1 w2 w3 w4 w5 w6 w7 w8 w9 w10 w11 k)), .unset] []))) (fun _ zz => XS.astoreN Xt16.here hx rfl (hb hby at_12) rfl rfl (l' := #[.val (.int p1), .val (.int k), .val (.ref (own_pick w0 w1 w2 w3 w4 w5 w6 w7 w8 w9 w10 w11 k)), .unset]) rfl zz) ?_
  refine Gl.st (U' := (Tt16.setTop (mkF m 14 #[.val (.int p1), .val (.int k), .val (.ref (own_pick w0 w1 w2 w3 w4 w5 w6 w7 w8 w9 w10 w11 k)), .unset] [(.int k)]))) (fun _ zz => XS.iloadN Xt16.here hx rfl (hb hby at_13) rfl zz) ?_
  refine Gl.st (U' := (Tt16.setTop (mkF m 15 #[.val (.int p1), .val (.int k), .val (.ref (own_pick w0 w1 w2 w3 w4 w5 w6 w7 w8 w9 w10 w11 k)), .unset] [(.int (3 : Int32)), (.int k)]))) (fun _ zz => XS.iconst Xt16.here hx rfl (hb hby at_14) zz) ?_
  refine Gl.join (α := Int32) (P := fun b0 => b0 = own_bi (k = 3 ∨ k = 4 ∨ k = 5)) (f := fun b0 => (Tt16.setTop (mkF m 33 #[.val (.int p1), .val (.int k), .val (.ref (own_pick w0 w1 w2 w3 w4 w5 w6 w7 w8 w9 w10 w11 k)), .unset] [(.int b0)]))) ?_ ?_
  · intro Jb0
    by_cases q3 : k = (3 : Int32)
    · refine Gl.st (U' := (Tt16.setTop (mkF m 28 #[.val (.int p1), .val (.int k), .val (.ref (own_pick w0 w1 w2 w3 w4 w5 w6 w7 w8 w9 w10 w11 k)), .unset] []))) (fun _ zz => XS.icmpYes Xt16.here hx rfl (pc0 := 15) (pc' := 28) rfl (hb hby at_15) rfl (teq q3).1 (by decide) (by decide) zz) ?_
      refine Gl.st (U' := (Tt16.setTop (mkF m 29 #[.val (.int p1), .val (.int k), .val (.ref (own_pick w0 w1 w2 w3 w4 w5 w6 w7 w8 w9 w10 w11 k)), .unset] [(.int (1 : Int32))]))) (fun _ zz => XS.iconst Xt16.here hx rfl (hb hby at_28) zz) ?_
      refine Gl.st (U' := (Tt16.setTop (mkF m 33 #[.val (.int p1), .val (.int k), .val (.ref (own_pick w0 w1 w2 w3 w4 w5 w6 w7 w8 w9 w10 w11 k)), .unset] [(.int (1 : Int32))]))) (fun _ zz => XS.goto Xt16.here hx rfl (pc0 := 29) (pc' := 33) rfl (hb hby at_29) (by decide) (by decide) zz) ?_
      exact Jb0 1 (own_bi_t (Or.inl q3)).symm
    · refine Gl.st (U' := (Tt16.setTop (mkF m 18 #[.val (.int p1), .val (.int k), .val (.ref (own_pick w0 w1 w2 w3 w4 w5 w6 w7 w8 w9 w10 w11 k)), .unset] []))) (fun _ zz => XS.icmpNo Xt16.here hx rfl (hb hby at_15) rfl (feq q3).1 zz) ?_
      refine Gl.st (U' := (Tt16.setTop (mkF m 19 #[.val (.int p1), .val (.int k), .val (.ref (own_pick w0 w1 w2 w3 w4 w5 w6 w7 w8 w9 w10 w11 k)), .unset] [(.int k)]))) (fun _ zz => XS.iloadN Xt16.here hx rfl (hb hby at_18) rfl zz) ?_
      refine Gl.st (U' := (Tt16.setTop (mkF m 20 #[.val (.int p1), .val (.int k), .val (.ref (own_pick w0 w1 w2 w3 w4 w5 w6 w7 w8 w9 w10 w11 k)), .unset] [(.int (4 : Int32)), (.int k)]))) (fun _ zz => XS.iconst Xt16.here hx rfl (hb hby at_19) zz) ?_
      by_cases q4 : k = (4 : Int32)
      · refine Gl.st (U' := (Tt16.setTop (mkF m 28 #[.val (.int p1), .val (.int k), .val (.ref (own_pick w0 w1 w2 w3 w4 w5 w6 w7 w8 w9 w10 w11 k)), .unset] []))) (fun _ zz => XS.icmpYes Xt16.here hx rfl (pc0 := 20) (pc' := 28) rfl (hb hby at_20) rfl (teq q4).1 (by decide) (by decide) zz) ?_
        refine Gl.st (U' := (Tt16.setTop (mkF m 29 #[.val (.int p1), .val (.int k), .val (.ref (own_pick w0 w1 w2 w3 w4 w5 w6 w7 w8 w9 w10 w11 k)), .unset] [(.int (1 : Int32))]))) (fun _ zz => XS.iconst Xt16.here hx rfl (hb hby at_28) zz) ?_
        refine Gl.st (U' := (Tt16.setTop (mkF m 33 #[.val (.int p1), .val (.int k), .val (.ref (own_pick w0 w1 w2 w3 w4 w5 w6 w7 w8 w9 w10 w11 k)), .unset] [(.int (1 : Int32))]))) (fun _ zz => XS.goto Xt16.here hx rfl (pc0 := 29) (pc' := 33) rfl (hb hby at_29) (by decide) (by decide) zz) ?_
        exact Jb0 1 (own_bi_t (Or.inr (Or.inl q4))).symm
      · refine Gl.st (U' := (Tt16.setTop (mkF m 23 #[.val (.int p1), .val (.int k), .val (.ref (own_pick w0 w1 w2 w3 w4 w5 w6 w7 w8 w9 w10 w11 k)), .unset] []))) (fun _ zz => XS.icmpNo Xt16.here hx rfl (hb hby at_20) rfl (feq q4).1 zz) ?_
        refine Gl.st (U' := (Tt16.setTop (mkF m 24 #[.val (.int p1), .val (.int k), .val (.ref (own_pick w0 w1 w2 w3 w4 w5 w6 w7 w8 w9 w10 w11 k)), .unset] [(.int k)]))) (fun _ zz => XS.iloadN Xt16.here hx rfl (hb hby at_23) rfl zz) ?_
        refine Gl.st (U' := (Tt16.setTop (mkF m 25 #[.val (.int p1), .val (.int k), .val (.ref (own_pick w0 w1 w2 w3 w4 w5 w6 w7 w8 w9 w10 w11 k)), .unset] [(.int (5 : Int32)), (.int k)]))) (fun _ zz => XS.iconst Xt16.here hx rfl (hb hby at_24) zz) ?_
        by_cases q5 : k = (5 : Int32)
        · refine Gl.st (U' := (Tt16.setTop (mkF m 28 #[.val (.int p1), .val (.int k), .val (.ref (own_pick w0 w1 w2 w3 w4 w5 w6 w7 w8 w9 w10 w11 k)), .unset] []))) (fun _ zz => XS.icmpNo Xt16.here hx rfl (hb hby at_25) rfl (teq q5).2 zz) ?_
          refine Gl.st (U' := (Tt16.setTop (mkF m 29 #[.val (.int p1), .val (.int k), .val (.ref (own_pick w0 w1 w2 w3 w4 w5 w6 w7 w8 w9 w10 w11 k)), .unset] [(.int (1 : Int32))]))) (fun _ zz => XS.iconst Xt16.here hx rfl (hb hby at_28) zz) ?_
          refine Gl.st (U' := (Tt16.setTop (mkF m 33 #[.val (.int p1), .val (.int k), .val (.ref (own_pick w0 w1 w2 w3 w4 w5 w6 w7 w8 w9 w10 w11 k)), .unset] [(.int (1 : Int32))]))) (fun _ zz => XS.goto Xt16.here hx rfl (pc0 := 29) (pc' := 33) rfl (hb hby at_29) (by decide) (by decide) zz) ?_
          exact Jb0 1 (own_bi_t (Or.inr (Or.inr q5))).symm
        · refine Gl.st (U' := (Tt16.setTop (mkF m 32 #[.val (.int p1), .val (.int k), .val (.ref (own_pick w0 w1 w2 w3 w4 w5 w6 w7 w8 w9 w10 w11 k)), .unset] []))) (fun _ zz => XS.icmpYes Xt16.here hx rfl (pc0 := 25) (pc' := 32) rfl (hb hby at_25) rfl (feq q5).2 (by decide) (by decide) zz) ?_
          refine Gl.st (U' := (Tt16.setTop (mkF m 33 #[.val (.int p1), .val (.int k), .val (.ref (own_pick w0 w1 w2 w3 w4 w5 w6 w7 w8 w9 w10 w11 k)), .unset] [(.int (0 : Int32))]))) (fun _ zz => XS.iconst Xt16.here hx rfl (hb hby at_32) zz) ?_
          exact Jb0 0 (own_bi_f (fun q => q.elim q3 (fun q => q.elim q4 q5))).symm
  intro b0 hb0
  show Gl p e below _ (Tt16.setTop (mkF m 33 #[.val (.int p1), .val (.int k), .val (.ref (own_pick w0 w1 w2 w3 w4 w5 w6 w7 w8 w9 w10 w11 k)), .unset] [(.int b0)]))
  refine Gl.st (U' := (Tt16.setTop (mkF m 34 #[.val (.int p1), .val (.int k), .val (.ref (own_pick w0 w1 w2 w3 w4 w5 w6 w7 w8 w9 w10 w11 k)), .val (.int b0)] []))) (fun _ zz => XS.istoreN Xt16.here hx rfl (hb hby at_33) rfl (l' := #[.val (.int p1), .val (.int k), .val (.ref (own_pick w0 w1 w2 w3 w4 w5 w6 w7 w8 w9 w10 w11 k)), .val (.int b0)]) rfl zz) ?_
  refine Gl.st (U' := (Tt16.setTop (mkF m 35 #[.val (.int p1), .val (.int k), .val (.ref (own_pick w0 w1 w2 w3 w4 w5 w6 w7 w8 w9 w10 w11 k)), .val (.int b0)] [(.ref (own_pick w0 w1 w2 w3 w4 w5 w6 w7 w8 w9 w10 w11 k))]))) (fun _ zz => XS.aloadN Xt16.here hx rfl (hb hby at_34) rfl rfl zz) ?_
  obtain ⟨C, EC, wsel⟩ := own_sel Z a0 hw h0 w0 w1 w2 w3 w4 w5 w6 w7 w8 w9 w10 w11 hE k
  refine gCallV Xt16 hx hZ (y := (⟨"com/example/greywood/greywood/lua/runtime/ArithmeticOperator", "dividesBy", "()Z"⟩ : MethodName)) (z := (⟨"com/example/greywood/greywood/lua/runtime/ArithmeticOperator", "dividesBy", "()Z"⟩ : MethodName)) hown (hw _ (List.mem_of_getElem? (i := 8) rfl)) (hw _ (List.mem_of_getElem? (i := 9) rfl)) wsel (own_nf (args := #[]) (mvT hZ (hw _ (List.mem_of_getElem? (i := 11) rfl))) rfl) (hw _ (List.mem_of_getElem? (i := 10) rfl)) (hw _ (List.mem_of_getElem? (i := 6) rfl)) (hw _ (List.mem_of_getElem? (i := 12) rfl)) (by decide) (own_div_con l Z a0 hw h0 w0 w1 w2 w3 w4 w5 w6 w7 w8 w9 w10 w11 hS (own_pick w0 w1 w2 w3 w4 w5 w6 w7 w8 w9 w10 w11 k)) et16 EC (by decide) (W := 0) (by decide) (by decide) (by decide) (g := (mkF m 35 #[.val (.int p1), .val (.int k), .val (.ref (own_pick w0 w1 w2 w3 w4 w5 w6 w7 w8 w9 w10 w11 k)), .val (.int b0)] [(.ref (own_pick w0 w1 w2 w3 w4 w5 w6 w7 w8 w9 w10 w11 k))])) rfl (by rw [hml]; rfl) (argsL := []) (rest := []) (lenOf own_pd2 rfl) rfl rfl (by show 2 * 0 + _ ≤ _; exact Nat.le_of_eq rfl) (hb hby at_35) ?_
  rintro _ Tt17 Lt17 Xt17 ⟨rfl, rfl, et17⟩
  show Gl p e below _ (Tt17.setTop (mkF m 38 #[.val (.int p1), .val (.int k), .val (.ref (own_pick w0 w1 w2 w3 w4 w5 w6 w7 w8 w9 w10 w11 k)), .val (.int b0)] [(.int (own_bi (own_pick w0 w1 w2 w3 w4 w5 w6 w7 w8 w9 w10 w11 k = w3 ∨ own_pick w0 w1 w2 w3 w4 w5 w6 w7 w8 w9 w10 w11 k = w4 ∨ own_pick w0 w1 w2 w3 w4 w5 w6 w7 w8 w9 w10 w11 k = w5)))]))
  refine Gl.st (U' := (Tt17.setTop (mkF m 39 #[.val (.int p1), .val (.int k), .val (.ref (own_pick w0 w1 w2 w3 w4 w5 w6 w7 w8 w9 w10 w11 k)), .val (.int b0)] [(.int b0), (.int (own_bi (own_pick w0 w1 w2 w3 w4 w5 w6 w7 w8 w9 w10 w11 k = w3 ∨ own_pick w0 w1 w2 w3 w4 w5 w6 w7 w8 w9 w10 w11 k = w4 ∨ own_pick w0 w1 w2 w3 w4 w5 w6 w7 w8 w9 w10 w11 k = w5)))]))) (fun _ zz => XS.iloadN Xt17.here hx rfl (hb hby at_38) rfl zz) ?_
  have hq : (own_bi (own_pick w0 w1 w2 w3 w4 w5 w6 w7 w8 w9 w10 w11 k = w3 ∨ own_pick w0 w1 w2 w3 w4 w5 w6 w7 w8 w9 w10 w11 k = w4 ∨ own_pick w0 w1 w2 w3 w4 w5 w6 w7 w8 w9 w10 w11 k = w5)) = b0 := by rw [hb0]; exact own_bi_eq.mpr (own_div Z h0 w0 w1 w2 w3 w4 w5 w6 w7 w8 w9 w10 w11 hE k)
  refine Gl.st (U' := (Tt17.setTop (mkF m 42 #[.val (.int p1), .val (.int k), .val (.ref (own_pick w0 w1 w2 w3 w4 w5 w6 w7 w8 w9 w10 w11 k)), .val (.int b0)] []))) (fun _ zz => XS.icmpNo Xt17.here hx rfl (hb hby at_39) rfl (teq hq).2 zz) ?_
  refine Gl.st (U' := (Tt17.setTop (mkF m 43 #[.val (.int p1), .val (.int k), .val (.ref (own_pick w0 w1 w2 w3 w4 w5 w6 w7 w8 w9 w10 w11 k)), .val (.int b0)] [(.int (1 : Int32))]))) (fun _ zz => XS.iconst Xt17.here hx rfl (hb hby at_42) zz) ?_
  refine Gl.st (U' := (Tt17.setTop (mkF m 47 #[.val (.int p1), .val (.int k), .val (.ref (own_pick w0 w1 w2 w3 w4 w5 w6 w7 w8 w9 w10 w11 k)), .val (.int b0)] [(.int (1 : Int32))]))) (fun _ zz => XS.goto Xt17.here hx rfl (pc0 := 43) (pc' := 47) rfl (hb hby at_43) (by decide) (by decide) zz) ?_
  exact Gl.retZ Xt17 hx hret hlk (hb hby at_47) (Or.inr rfl) ⟨rfl, Fr.nil n0⟩ (by decide) (by decide)
set_option maxRecDepth 65536 in
set_option maxHeartbeats 40000000 in
theorem comes_1 {Post : Tables → Env → Array Value → State → Outcome → State → Prop} (hpost : ∀ tb e args s v u, (limb_1_1.after args s (.returned v) u = true ∧ limb_1_2.after args s (.returned v) u = true ∧ True) → FrameEnd s (.returned v) u (Jvm.fieldLocs frame_1_writes args s ++ Jvm.arrayLocs frame_1_arrays args s ++ Jvm.staticLocs frame_1_statics s) 0 0 → Post tb e args s (.returned v) u) :
    ArmFor flags0 classFile x code maxLocals ret World_1 tables_1 room_1 Calls_1 rest_1 Pre_1 Post := by
  intro l hfl _ _ p e ha hc hk s m args below hf hA hF happ hP
  obtain ⟨hcalls, hrest, hpre⟩ := hP
  obtain ⟨-, -, -, hnamed, -, -, -, hat⟩ := (Spec.applies_iff hf).mp happ
  obtain ⟨hg, hn⟩ := and_e (Cond.before_iff.mp (show (Jvm.Cond.and given_1 narrow_1).before args s = true from hpre))
  obtain ⟨hcount, hg⟩ := and_e hg
  have hg0 := hg
  obtain ⟨w0, rfl⟩ : ∃ w0 : Value, args = #[w0] := by
    have hs : args.size = 1 := by simpa [Cond.value, given_1] using hcount
    obtain ⟨L⟩ := args
    match L, hs with
    | [w0], _ => exact ⟨w0, rfl⟩
  have hw := fun d (hd : d ∈ tables_1) => atoms_spec (ws := Jvm.Cond.code x code maxLocals ret :: tables_1) hat d (List.mem_cons_of_mem _ hd)
  have hfit : Fit s := fun {y c} hc i hi => by
    obtain ⟨ha, rfl⟩ := Array.getElem?_eq_some_iff.mp hc
    have q := List.all_eq_true.mp ((Array.all_eq_true_iff_forall_mem.mp hF) _ (Array.getElem_mem ha)) i (List.mem_range.mpr hi)
    simpa [Array.getElem?_eq_getElem hi] using q
  obtain ⟨i0, ev0⟩ := is_v hg0
  obtain rfl : w0 = (.int i0) := Option.some.inj ev0
  obtain ⟨hn0, hn⟩ := and_e hn
  obtain ⟨hn1, hn⟩ := and_e hn
  obtain ⟨hn2, hn⟩ := and_e hn
  obtain ⟨hn3, hn⟩ := and_e hn
  obtain ⟨hn4, hn⟩ := and_e hn
  obtain ⟨hn5, hn⟩ := and_e hn
  obtain ⟨hn6, hn⟩ := and_e hn
  obtain ⟨hn7, hn⟩ := and_e hn
  obtain ⟨hn8, hn⟩ := and_e hn
  obtain ⟨hn9, hn⟩ := and_e hn
  obtain ⟨hn10, hn⟩ := and_e hn
  have hn11 := hn
  obtain ⟨v0, ex0⟩ := exa_v hn0
  have E0 := Exa.start ex0 hn0
  have S0 := Sta.start ex0 (Or.inr ⟨(hw _ (List.mem_of_getElem? (i := 6) rfl)), (hw _ (List.mem_of_getElem? (i := 7) rfl))⟩)
  obtain ⟨v3, ex3⟩ := exa_v hn1
  have E3 := Exa.start ex3 hn1
  have S3 := Sta.start ex3 (Or.inr ⟨(hw _ (List.mem_of_getElem? (i := 6) rfl)), (hw _ (List.mem_of_getElem? (i := 14) rfl))⟩)
  obtain ⟨v4, ex4⟩ := exa_v hn2
  have E4 := Exa.start ex4 hn2
  have S4 := Sta.start ex4 (Or.inr ⟨(hw _ (List.mem_of_getElem? (i := 6) rfl)), (hw _ (List.mem_of_getElem? (i := 16) rfl))⟩)
  obtain ⟨v5, ex5⟩ := exa_v hn3
  have E5 := Exa.start ex5 hn3
  have S5 := Sta.start ex5 (Or.inr ⟨(hw _ (List.mem_of_getElem? (i := 6) rfl)), (hw _ (List.mem_of_getElem? (i := 18) rfl))⟩)
  obtain ⟨v2, ex2⟩ := exa_v hn4
  have E2 := Exa.start ex2 hn4
  have S2 := Sta.start ex2 (Or.inr ⟨(hw _ (List.mem_of_getElem? (i := 6) rfl)), (hw _ (List.mem_of_getElem? (i := 22) rfl))⟩)
  obtain ⟨v7, ex7⟩ := exa_v hn5
  have E7 := Exa.start ex7 hn5
  have S7 := Sta.start ex7 (Or.inr ⟨(hw _ (List.mem_of_getElem? (i := 6) rfl)), (hw _ (List.mem_of_getElem? (i := 25) rfl))⟩)
  obtain ⟨v11, ex11⟩ := exa_v hn6
  have E11 := Exa.start ex11 hn6
  have S11 := Sta.start ex11 (Or.inr ⟨(hw _ (List.mem_of_getElem? (i := 6) rfl)), (hw _ (List.mem_of_getElem? (i := 28) rfl))⟩)
  obtain ⟨v8, ex8⟩ := exa_v hn7
  have E8 := Exa.start ex8 hn7
  have S8 := Sta.start ex8 (Or.inr ⟨(hw _ (List.mem_of_getElem? (i := 6) rfl)), (hw _ (List.mem_of_getElem? (i := 33) rfl))⟩)
  obtain ⟨v1, ex1⟩ := exa_v hn8
  have E1 := Exa.start ex1 hn8
  have S1 := Sta.start ex1 (Or.inr ⟨(hw _ (List.mem_of_getElem? (i := 6) rfl)), (hw _ (List.mem_of_getElem? (i := 36) rfl))⟩)
  obtain ⟨v10, ex10⟩ := exa_v hn9
  have E10 := Exa.start ex10 hn9
  have S10 := Sta.start ex10 (Or.inr ⟨(hw _ (List.mem_of_getElem? (i := 6) rfl)), (hw _ (List.mem_of_getElem? (i := 39) rfl))⟩)
  obtain ⟨v9, ex9⟩ := exa_v hn10
  have E9 := Exa.start ex9 hn10
  have S9 := Sta.start ex9 (Or.inr ⟨(hw _ (List.mem_of_getElem? (i := 6) rfl)), (hw _ (List.mem_of_getElem? (i := 42) rfl))⟩)
  obtain ⟨v6, ex6⟩ := exa_v hn11
  have E6 := Exa.start ex6 hn11
  have S6 := Sta.start ex6 (Or.inr ⟨(hw _ (List.mem_of_getElem? (i := 6) rfl)), (hw _ (List.mem_of_getElem? (i := 45) rfl))⟩)
  obtain ⟨n, o, h1, h2, h3, _, L, rfl, ⟨rfl, N⟩, hq⟩ := own_law l s _ hw s.heap s.heap.size v0 v1 v2 v3 v4 v5 v6 v7 v8 v9 v10 v11 ⟨S0, S1, S2, S3, S4, S5, S6, S7, S8, S9, S10, S11⟩ ⟨E0, E1, E2, E3, E4, E5, E6, E7, E8, E9, E10, E11⟩ i0 p e ha hc hk s m _ below hf ((Spec.applies_iff_loose hf).mp happ).1 ⟨rfl, State.Warmed39.refl s, rfl⟩ trivial
  refine ⟨n, _, h1, h2, h3, hpost _ _ _ _ _ _ ⟨Cond.after_iff.mpr rfl, Cond.after_iff.mpr (eq_i res_at (Term.int_eval (1)) rfl), trivial⟩ ⟨hq.1, hq.2.1, (hq.2.2.sift fun y hy => Or.inr (N y hy)).mono (by decide) (by decide)⟩⟩
theorem main_1_1 : Claimed_1_1 := comes_1 fun _ _ _ _ _ _ h hF => ⟨h.1, hF⟩
theorem main_1_2 : Claimed_1_2 := comes_1 fun _ _ _ _ _ _ h hF => ⟨h.2.1, hF⟩
end Jvm.Pilot.@@N@@
namespace Jvm.Pilot.@@N@@
open Jvm Jvm.ClassFile Sem Op Lib Jvm.Free Jvm.Stand Jvm.Pilot.@@N@@.Jvm.D
/-! MADE BY PROGRAM (witnessworld.py) out of the Statement's table words and the real class files: 24 classes; the members and pool entries that the words name. The judged class is class 1, her method 2. -/
namespace start1
open Jvm.ClassFile
def u (s : String) : CpInfo := .utf8 (stringToUtf16 s)
/-- a pool by its gaps: so many unusable entries, then the entry; so many at the end -/
def gap : Nat → List CpInfo → List CpInfo
  | 0, r => r
  | n + 1, r => .unusable :: gap n r
def poolList (es : List (Nat × CpInfo)) (last : Nat) : List CpInfo := es.foldr (fun e r => gap e.1 (e.2 :: r)) (gap last [])
def pool (es : List (Nat × CpInfo)) (last : Nat) : Array CpInfo := ⟨poolList es last⟩
def fileOf (pool : Array CpInfo) (this : Nat) (attrs : Array Attribute := #[]) (ms : Array MethodInfo := #[]) (fl : Nat := 33) (sup : Nat := 0) (ifs : Array Nat := #[]) (fds : Array FieldInfo := #[]) : ClassFile where
  minorVersion := 0
  majorVersion := 65
  constantPool := pool
  accessFlags := fl
  thisClass := this
  superClass := sup
  interfaces := ifs
  fields := fds
  methods := ms
  attributes := attrs
def plain (name : String) (sup : Option ClassId) : Class where
  name := name
  kind := .ordinary
  loader := none
  accessFlags := 33
  super := sup
  interfaces := #[]
  cf := none
  fields := #[]
  methods := #[]
  instanceTypes := #[]
  staticTypes := #[]
  resolved := #[]
  callSites := []
  init := .initialized
  statics := none
  mirror := none

def pool0 : Array CpInfo := pool [(5, u "<init>"), (0, u "()V"), (1, .class_ 10), (1, u "java/lang/Object")] 113

def k0m0 : Method := { name := "<init>", desc := "()V", sig := { parameters := [], returnType := none }, accessFlags := 1, code := none }
/-- java/lang/Object -/
def k0 : Class := { plain "java/lang/Object" none with
  accessFlags := 33
  interfaces := #[]
  cf := some (fileOf pool0 8 #[] #[{ accessFlags := 1, nameIndex := 5, descriptorIndex := 6, attributes := #[] }] 33 0 #[] #[])
  fields := #[]
  methods := #[k0m0]
  instanceTypes := #[]
  staticTypes := #[]
  resolved := Array.replicate 124 none
  statics := none }

def pool1 : Array CpInfo := pool [(2, .class_ 4), (1, u "java/lang/Object"), (0, u "<init>"), (0, u "()V"), (0, .fieldref 8 9), (0, .class_ 10), (0, .nameAndType 11 12), (0, u "com/example/greywood/greywood/lua/runtime/ArithmeticOperator"), (0, u "ADD"), (0, u "Lcom/example/greywood/greywood/lua/runtime/ArithmeticOperator;"), (0, .fieldref 8 14), (0, .nameAndType 15 12), (0, u "SUBTRACT"), (0, .fieldref 8 17), (0, .nameAndType 18 12), (0, u "MULTIPLY"), (0, .fieldref 8 20), (0, .nameAndType 21 12), (0, u "DIVIDE"), (0, .fieldref 8 23), (0, .nameAndType 24 12), (0, u "FLOOR_DIVIDE"), (0, .fieldref 8 26), (0, .nameAndType 27 12), (0, u "MODULO"), (0, .fieldref 8 29), (0, .nameAndType 30 12), (0, u "POWER"), (0, .fieldref 8 32), (0, .nameAndType 33 12), (0, u "BITWISE_AND"), (0, .fieldref 8 35), (0, .nameAndType 36 12), (0, u "BITWISE_OR"), (0, .fieldref 8 38), (0, .nameAndType 39 12), (0, u "BITWISE_XOR"), (0, .fieldref 8 41), (0, .nameAndType 42 12), (0, u "SHIFT_LEFT"), (0, .fieldref 8 44), (0, .nameAndType 45 12), (0, u "SHIFT_RIGHT"), (0, .integer 2147483647), (0, .methodref 48 49), (0, .class_ 50), (0, .nameAndType 51 52), (0, u "com/example/greywood/greywood/lua/runtime/ArithmeticOperatorDividesByPinLaw"), (0, u "pick"), (0, u "(I)Lcom/example/greywood/greywood/lua/runtime/ArithmeticOperator;"), (0, .methodref 8 54), (0, .nameAndType 55 56), (0, u "dividesBy"), (0, u "()Z"), (3, u "law"), (0, u "(I)Z")] 2

def k1m0 : Method := { name := "<init>", desc := "()V", sig := { parameters := [], returnType := none }, accessFlags := 2, code := none }
def k1c1 : Code := { maxStack := 2, maxLocals := 2, code := method_2_code, exceptionTable := #[], attributes := #[] }
def k1m1 : Method := { name := "pick", desc := "(I)Lcom/example/greywood/greywood/lua/runtime/ArithmeticOperator;", sig := { parameters := [.int], returnType := some (.object "com/example/greywood/greywood/lua/runtime/ArithmeticOperator") }, accessFlags := 10, code := some k1c1 }
def k1c2 : Code := { maxStack := 2, maxLocals := 4, code := code, exceptionTable := #[], attributes := #[] }
def k1m2 : Method := { name := "law", desc := "(I)Z", sig := { parameters := [.int], returnType := some .boolean }, accessFlags := 9, code := some k1c2 }
/-- com/example/greywood/greywood/lua/runtime/ArithmeticOperatorDividesByPinLaw -/
def k1 : Class := { plain "com/example/greywood/greywood/lua/runtime/ArithmeticOperatorDividesByPinLaw" (some 0) with
  accessFlags := 49
  interfaces := #[]
  cf := some (fileOf pool1 48 #[] #[{ accessFlags := 2, nameIndex := 5, descriptorIndex := 6, attributes := #[] }, { accessFlags := 10, nameIndex := 51, descriptorIndex := 52, attributes := #[] }, { accessFlags := 9, nameIndex := 60, descriptorIndex := 61, attributes := #[] }] 49 2 #[] #[])
  fields := #[]
  methods := #[k1m0, k1m1, k1m2]
  instanceTypes := #[]
  staticTypes := #[]
  resolved := Array.replicate 64 none
  statics := none }

def pool2 : Array CpInfo := pool [(1, .class_ 2), (0, u "java/lang/constant/Constable"), (0, .class_ 4), (0, u "java/lang/Object")] 6

/-- java/lang/constant/Constable -/
def k2 : Class := { plain "java/lang/constant/Constable" (some 0) with
  accessFlags := 1537
  interfaces := #[]
  cf := some (fileOf pool2 1 #[] #[] 1537 3 #[] #[])
  fields := #[]
  methods := #[]
  instanceTypes := #[]
  staticTypes := #[]
  resolved := Array.replicate 11 none
  statics := none }

def pool3 : Array CpInfo := pool [(1, .class_ 2), (0, u "java/lang/Comparable"), (0, .class_ 4), (0, u "java/lang/Object")] 7

/-- java/lang/Comparable -/
def k3 : Class := { plain "java/lang/Comparable" (some 0) with
  accessFlags := 1537
  interfaces := #[]
  cf := some (fileOf pool3 1 #[] #[] 1537 3 #[] #[])
  fields := #[]
  methods := #[]
  instanceTypes := #[]
  staticTypes := #[]
  resolved := Array.replicate 12 none
  statics := none }

def pool4 : Array CpInfo := pool [(1, .class_ 2), (0, u "java/io/Serializable"), (0, .class_ 4), (0, u "java/lang/Object")] 2

/-- java/io/Serializable -/
def k4 : Class := { plain "java/io/Serializable" (some 0) with
  accessFlags := 1537
  interfaces := #[]
  cf := some (fileOf pool4 1 #[] #[] 1537 3 #[] #[])
  fields := #[]
  methods := #[]
  instanceTypes := #[]
  staticTypes := #[]
  resolved := Array.replicate 7 none
  statics := none }

def pool5 : Array CpInfo := pool [(2, .class_ 4), (1, u "java/lang/Enum"), (0, u "name"), (0, u "Ljava/lang/String;"), (2, u "ordinal"), (0, u "I"), (1, .class_ 14), (1, u "java/lang/Object"), (4, u "hash"), (86, .class_ 108), (1, u "java/lang/Enum$EnumDesc"), (2, .class_ 112), (0, u "java/lang/constant/Constable"), (0, .class_ 114), (0, u "java/lang/Comparable"), (0, .class_ 116), (0, u "java/io/Serializable")] 87

/-- java/lang/Enum -/
def k5 : Class := { plain "java/lang/Enum" (some 0) with
  accessFlags := 1057
  interfaces := #[2, 3, 4]
  cf := some (fileOf pool5 2 #[.nestMembers #[106]] #[] 1057 12 #[111, 113, 115] #[{ accessFlags := 18, nameIndex := 5, descriptorIndex := 6, attributes := #[] }, { accessFlags := 18, nameIndex := 9, descriptorIndex := 10, attributes := #[] }, { accessFlags := 2, nameIndex := 19, descriptorIndex := 10, attributes := #[] }])
  fields := #[{ name := "name", type := (.object "java/lang/String"), accessFlags := 18, slot := 0, constantValue := 0 }, { name := "ordinal", type := .int, accessFlags := 18, slot := 1, constantValue := 0 }, { name := "hash", type := .int, accessFlags := 2, slot := 2, constantValue := 0 }]
  methods := #[]
  instanceTypes := #[(.object "java/lang/String"), .int, .int]
  staticTypes := #[]
  resolved := Array.replicate 204 none
  statics := none }

def pool6 : Array CpInfo := pool [(1, .class_ 2), (0, u "com/example/greywood/greywood/lua/runtime/ArithmeticOperator"), (2, u "ADD"), (0, u "Lcom/example/greywood/greywood/lua/runtime/ArithmeticOperator;"), (2, u "SUBTRACT"), (2, u "MULTIPLY"), (0, .fieldref 1 14), (0, .nameAndType 15 6), (0, u "DIVIDE"), (0, .fieldref 1 17), (0, .nameAndType 18 6), (0, u "FLOOR_DIVIDE"), (0, .fieldref 1 20), (0, .nameAndType 21 6), (0, u "MODULO"), (2, u "POWER"), (2, u "BITWISE_AND"), (2, u "BITWISE_OR"), (2, u "BITWISE_XOR"), (2, u "SHIFT_LEFT"), (2, u "SHIFT_RIGHT"), (2, u "$VALUES"), (0, u "[Lcom/example/greywood/greywood/lua/runtime/ArithmeticOperator;"), (6, .class_ 52), (1, u "java/lang/Enum"), (11, u "symbol"), (0, u "Ljava/lang/String;"), (2, u "event"), (6, u "metamethod"), (2, u "bitwise"), (0, u "Z"), (52, u "()Z"), (18, .class_ 152), (0, u "com/example/greywood/greywood/lua/runtime/ArithmeticOperator$1"), (8, .class_ 162), (0, u "com/example/greywood/greywood/lua/runtime/ArithmeticOperator$2"), (6, .class_ 170), (0, u "com/example/greywood/greywood/lua/runtime/ArithmeticOperator$3"), (6, .class_ 178), (0, u "com/example/greywood/greywood/lua/runtime/ArithmeticOperator$4"), (6, .class_ 186), (0, u "com/example/greywood/greywood/lua/runtime/ArithmeticOperator$5"), (6, .class_ 194), (0, u "com/example/greywood/greywood/lua/runtime/ArithmeticOperator$6"), (6, .class_ 202), (0, u "com/example/greywood/greywood/lua/runtime/ArithmeticOperator$7"), (6, .class_ 210), (0, u "com/example/greywood/greywood/lua/runtime/ArithmeticOperator$8"), (6, .class_ 218), (0, u "com/example/greywood/greywood/lua/runtime/ArithmeticOperator$9"), (6, .class_ 226), (0, u "com/example/greywood/greywood/lua/runtime/ArithmeticOperator$10"), (6, .class_ 234), (0, u "com/example/greywood/greywood/lua/runtime/ArithmeticOperator$11"), (6, .class_ 242), (0, u "com/example/greywood/greywood/lua/runtime/ArithmeticOperator$12"), (18, u "dividesBy")] 39

def k6c0 : Code := { maxStack := 2, maxLocals := 1, code := prog_126_method_8_code, exceptionTable := #[], attributes := #[] }
def k6m0 : Method := { name := "dividesBy", desc := "()Z", sig := { parameters := [], returnType := some .boolean }, accessFlags := 1, code := some k6c0 }
/-- com/example/greywood/greywood/lua/runtime/ArithmeticOperator -/
def k6 : Class := { plain "com/example/greywood/greywood/lua/runtime/ArithmeticOperator" (some 5) with
  accessFlags := 16417
  interfaces := #[]
  cf := some (fileOf pool6 1 #[.nestMembers #[241, 233, 225, 217, 209, 201, 193, 185, 177, 169, 161, 151]] #[{ accessFlags := 1, nameIndex := 261, descriptorIndex := 132, attributes := #[] }] 16417 50 #[] #[{ accessFlags := 16409, nameIndex := 5, descriptorIndex := 6, attributes := #[] }, { accessFlags := 16409, nameIndex := 9, descriptorIndex := 6, attributes := #[] }, { accessFlags := 16409, nameIndex := 12, descriptorIndex := 6, attributes := #[] }, { accessFlags := 16409, nameIndex := 15, descriptorIndex := 6, attributes := #[] }, { accessFlags := 16409, nameIndex := 18, descriptorIndex := 6, attributes := #[] }, { accessFlags := 16409, nameIndex := 21, descriptorIndex := 6, attributes := #[] }, { accessFlags := 16409, nameIndex := 24, descriptorIndex := 6, attributes := #[] }, { accessFlags := 16409, nameIndex := 27, descriptorIndex := 6, attributes := #[] }, { accessFlags := 16409, nameIndex := 30, descriptorIndex := 6, attributes := #[] }, { accessFlags := 16409, nameIndex := 33, descriptorIndex := 6, attributes := #[] }, { accessFlags := 16409, nameIndex := 36, descriptorIndex := 6, attributes := #[] }, { accessFlags := 16409, nameIndex := 39, descriptorIndex := 6, attributes := #[] }, { accessFlags := 18, nameIndex := 64, descriptorIndex := 65, attributes := #[] }, { accessFlags := 18, nameIndex := 68, descriptorIndex := 65, attributes := #[] }, { accessFlags := 18, nameIndex := 75, descriptorIndex := 65, attributes := #[] }, { accessFlags := 18, nameIndex := 78, descriptorIndex := 79, attributes := #[] }, { accessFlags := 4122, nameIndex := 42, descriptorIndex := 43, attributes := #[] }])
  fields := #[{ name := "ADD", type := (.object "com/example/greywood/greywood/lua/runtime/ArithmeticOperator"), accessFlags := 16409, slot := 0, constantValue := 0 }, { name := "SUBTRACT", type := (.object "com/example/greywood/greywood/lua/runtime/ArithmeticOperator"), accessFlags := 16409, slot := 1, constantValue := 0 }, { name := "MULTIPLY", type := (.object "com/example/greywood/greywood/lua/runtime/ArithmeticOperator"), accessFlags := 16409, slot := 2, constantValue := 0 }, { name := "DIVIDE", type := (.object "com/example/greywood/greywood/lua/runtime/ArithmeticOperator"), accessFlags := 16409, slot := 3, constantValue := 0 }, { name := "FLOOR_DIVIDE", type := (.object "com/example/greywood/greywood/lua/runtime/ArithmeticOperator"), accessFlags := 16409, slot := 4, constantValue := 0 }, { name := "MODULO", type := (.object "com/example/greywood/greywood/lua/runtime/ArithmeticOperator"), accessFlags := 16409, slot := 5, constantValue := 0 }, { name := "POWER", type := (.object "com/example/greywood/greywood/lua/runtime/ArithmeticOperator"), accessFlags := 16409, slot := 6, constantValue := 0 }, { name := "BITWISE_AND", type := (.object "com/example/greywood/greywood/lua/runtime/ArithmeticOperator"), accessFlags := 16409, slot := 7, constantValue := 0 }, { name := "BITWISE_OR", type := (.object "com/example/greywood/greywood/lua/runtime/ArithmeticOperator"), accessFlags := 16409, slot := 8, constantValue := 0 }, { name := "BITWISE_XOR", type := (.object "com/example/greywood/greywood/lua/runtime/ArithmeticOperator"), accessFlags := 16409, slot := 9, constantValue := 0 }, { name := "SHIFT_LEFT", type := (.object "com/example/greywood/greywood/lua/runtime/ArithmeticOperator"), accessFlags := 16409, slot := 10, constantValue := 0 }, { name := "SHIFT_RIGHT", type := (.object "com/example/greywood/greywood/lua/runtime/ArithmeticOperator"), accessFlags := 16409, slot := 11, constantValue := 0 }, { name := "symbol", type := (.object "java/lang/String"), accessFlags := 18, slot := 3, constantValue := 0 }, { name := "event", type := (.object "java/lang/String"), accessFlags := 18, slot := 4, constantValue := 0 }, { name := "metamethod", type := (.object "java/lang/String"), accessFlags := 18, slot := 5, constantValue := 0 }, { name := "bitwise", type := .boolean, accessFlags := 18, slot := 6, constantValue := 0 }, { name := "$VALUES", type := (.array (.object "com/example/greywood/greywood/lua/runtime/ArithmeticOperator")), accessFlags := 4122, slot := 12, constantValue := 0 }]
  methods := #[k6m0]
  instanceTypes := #[(.object "java/lang/String"), .int, .int, (.object "java/lang/String"), (.object "java/lang/String"), (.object "java/lang/String"), .boolean]
  staticTypes := #[(.object "com/example/greywood/greywood/lua/runtime/ArithmeticOperator"), (.object "com/example/greywood/greywood/lua/runtime/ArithmeticOperator"), (.object "com/example/greywood/greywood/lua/runtime/ArithmeticOperator"), (.object "com/example/greywood/greywood/lua/runtime/ArithmeticOperator"), (.object "com/example/greywood/greywood/lua/runtime/ArithmeticOperator"), (.object "com/example/greywood/greywood/lua/runtime/ArithmeticOperator"), (.object "com/example/greywood/greywood/lua/runtime/ArithmeticOperator"), (.object "com/example/greywood/greywood/lua/runtime/ArithmeticOperator"), (.object "com/example/greywood/greywood/lua/runtime/ArithmeticOperator"), (.object "com/example/greywood/greywood/lua/runtime/ArithmeticOperator"), (.object "com/example/greywood/greywood/lua/runtime/ArithmeticOperator"), (.object "com/example/greywood/greywood/lua/runtime/ArithmeticOperator"), (.array (.object "com/example/greywood/greywood/lua/runtime/ArithmeticOperator"))]
  resolved := Array.replicate 301 none
  statics := some 0 }

def pool7 : Array CpInfo := pool [(2, .class_ 4), (1, u "com/example/greywood/greywood/lua/runtime/ArithmeticOperator"), (8, .class_ 14), (0, u "com/example/greywood/greywood/lua/runtime/ArithmeticOperator$1")] 13

/-- com/example/greywood/greywood/lua/runtime/ArithmeticOperator$1 -/
def k7 : Class := { plain "com/example/greywood/greywood/lua/runtime/ArithmeticOperator$1" (some 6) with
  accessFlags := 16432
  interfaces := #[]
  cf := some (fileOf pool7 13 #[.nestHost 2] #[] 16432 2 #[] #[])
  fields := #[]
  methods := #[]
  instanceTypes := #[(.object "java/lang/String"), .int, .int, (.object "java/lang/String"), (.object "java/lang/String"), (.object "java/lang/String"), .boolean]
  staticTypes := #[]
  resolved := Array.replicate 28 none
  statics := none }

def pool8 : Array CpInfo := pool [(2, .class_ 4), (1, u "com/example/greywood/greywood/lua/runtime/ArithmeticOperator"), (6, .class_ 12), (0, u "com/example/greywood/greywood/lua/runtime/ArithmeticOperator$4")] 9

/-- com/example/greywood/greywood/lua/runtime/ArithmeticOperator$4 -/
def k8 : Class := { plain "com/example/greywood/greywood/lua/runtime/ArithmeticOperator$4" (some 6) with
  accessFlags := 16432
  interfaces := #[]
  cf := some (fileOf pool8 11 #[.nestHost 2] #[] 16432 2 #[] #[])
  fields := #[]
  methods := #[]
  instanceTypes := #[(.object "java/lang/String"), .int, .int, (.object "java/lang/String"), (.object "java/lang/String"), (.object "java/lang/String"), .boolean]
  staticTypes := #[]
  resolved := Array.replicate 22 none
  statics := none }

def pool9 : Array CpInfo := pool [(2, .class_ 4), (1, u "com/example/greywood/greywood/lua/runtime/ArithmeticOperator"), (6, .class_ 12), (0, u "com/example/greywood/greywood/lua/runtime/ArithmeticOperator$3")] 11

/-- com/example/greywood/greywood/lua/runtime/ArithmeticOperator$3 -/
def k9 : Class := { plain "com/example/greywood/greywood/lua/runtime/ArithmeticOperator$3" (some 6) with
  accessFlags := 16432
  interfaces := #[]
  cf := some (fileOf pool9 11 #[.nestHost 2] #[] 16432 2 #[] #[])
  fields := #[]
  methods := #[]
  instanceTypes := #[(.object "java/lang/String"), .int, .int, (.object "java/lang/String"), (.object "java/lang/String"), (.object "java/lang/String"), .boolean]
  staticTypes := #[]
  resolved := Array.replicate 24 none
  statics := none }

def pool10 : Array CpInfo := pool [(2, .class_ 4), (1, u "com/example/greywood/greywood/lua/runtime/ArithmeticOperator"), (2, .class_ 8), (0, u "com/example/greywood/greywood/lua/runtime/ArithmeticOperator$8")] 10

/-- com/example/greywood/greywood/lua/runtime/ArithmeticOperator$8 -/
def k10 : Class := { plain "com/example/greywood/greywood/lua/runtime/ArithmeticOperator$8" (some 6) with
  accessFlags := 16432
  interfaces := #[]
  cf := some (fileOf pool10 7 #[.nestHost 2] #[] 16432 2 #[] #[])
  fields := #[]
  methods := #[]
  instanceTypes := #[(.object "java/lang/String"), .int, .int, (.object "java/lang/String"), (.object "java/lang/String"), (.object "java/lang/String"), .boolean]
  staticTypes := #[]
  resolved := Array.replicate 19 none
  statics := none }

def pool11 : Array CpInfo := pool [(2, .class_ 4), (1, u "com/example/greywood/greywood/lua/runtime/ArithmeticOperator"), (6, .class_ 12), (0, u "com/example/greywood/greywood/lua/runtime/ArithmeticOperator$12")] 9

/-- com/example/greywood/greywood/lua/runtime/ArithmeticOperator$12 -/
def k11 : Class := { plain "com/example/greywood/greywood/lua/runtime/ArithmeticOperator$12" (some 6) with
  accessFlags := 16432
  interfaces := #[]
  cf := some (fileOf pool11 11 #[.nestHost 2] #[] 16432 2 #[] #[])
  fields := #[]
  methods := #[]
  instanceTypes := #[(.object "java/lang/String"), .int, .int, (.object "java/lang/String"), (.object "java/lang/String"), (.object "java/lang/String"), .boolean]
  staticTypes := #[]
  resolved := Array.replicate 22 none
  statics := none }

def pool12 : Array CpInfo := pool [(2, .class_ 4), (1, u "com/example/greywood/greywood/lua/runtime/ArithmeticOperator"), (9, .class_ 16), (1, u "com/example/greywood/greywood/lua/runtime/ArithmeticOperator$5")] 23

/-- com/example/greywood/greywood/lua/runtime/ArithmeticOperator$5 -/
def k12 : Class := { plain "com/example/greywood/greywood/lua/runtime/ArithmeticOperator$5" (some 6) with
  accessFlags := 16432
  interfaces := #[]
  cf := some (fileOf pool12 14 #[.nestHost 2] #[] 16432 2 #[] #[])
  fields := #[]
  methods := #[]
  instanceTypes := #[(.object "java/lang/String"), .int, .int, (.object "java/lang/String"), (.object "java/lang/String"), (.object "java/lang/String"), .boolean]
  staticTypes := #[]
  resolved := Array.replicate 40 none
  statics := none }

def pool13 : Array CpInfo := pool [(2, .class_ 4), (1, u "com/example/greywood/greywood/lua/runtime/ArithmeticOperator"), (2, .class_ 8), (0, u "com/example/greywood/greywood/lua/runtime/ArithmeticOperator$9")] 10

/-- com/example/greywood/greywood/lua/runtime/ArithmeticOperator$9 -/
def k13 : Class := { plain "com/example/greywood/greywood/lua/runtime/ArithmeticOperator$9" (some 6) with
  accessFlags := 16432
  interfaces := #[]
  cf := some (fileOf pool13 7 #[.nestHost 2] #[] 16432 2 #[] #[])
  fields := #[]
  methods := #[]
  instanceTypes := #[(.object "java/lang/String"), .int, .int, (.object "java/lang/String"), (.object "java/lang/String"), (.object "java/lang/String"), .boolean]
  staticTypes := #[]
  resolved := Array.replicate 19 none
  statics := none }

def pool14 : Array CpInfo := pool [(2, .class_ 4), (1, u "com/example/greywood/greywood/lua/runtime/ArithmeticOperator"), (6, .class_ 12), (0, u "com/example/greywood/greywood/lua/runtime/ArithmeticOperator$2")] 11

/-- com/example/greywood/greywood/lua/runtime/ArithmeticOperator$2 -/
def k14 : Class := { plain "com/example/greywood/greywood/lua/runtime/ArithmeticOperator$2" (some 6) with
  accessFlags := 16432
  interfaces := #[]
  cf := some (fileOf pool14 11 #[.nestHost 2] #[] 16432 2 #[] #[])
  fields := #[]
  methods := #[]
  instanceTypes := #[(.object "java/lang/String"), .int, .int, (.object "java/lang/String"), (.object "java/lang/String"), (.object "java/lang/String"), .boolean]
  staticTypes := #[]
  resolved := Array.replicate 24 none
  statics := none }

def pool15 : Array CpInfo := pool [(2, .class_ 4), (1, u "com/example/greywood/greywood/lua/runtime/ArithmeticOperator"), (6, .class_ 12), (0, u "com/example/greywood/greywood/lua/runtime/ArithmeticOperator$11")] 9

/-- com/example/greywood/greywood/lua/runtime/ArithmeticOperator$11 -/
def k15 : Class := { plain "com/example/greywood/greywood/lua/runtime/ArithmeticOperator$11" (some 6) with
  accessFlags := 16432
  interfaces := #[]
  cf := some (fileOf pool15 11 #[.nestHost 2] #[] 16432 2 #[] #[])
  fields := #[]
  methods := #[]
  instanceTypes := #[(.object "java/lang/String"), .int, .int, (.object "java/lang/String"), (.object "java/lang/String"), (.object "java/lang/String"), .boolean]
  staticTypes := #[]
  resolved := Array.replicate 22 none
  statics := none }

def pool16 : Array CpInfo := pool [(2, .class_ 4), (1, u "com/example/greywood/greywood/lua/runtime/ArithmeticOperator"), (2, .class_ 8), (0, u "com/example/greywood/greywood/lua/runtime/ArithmeticOperator$10")] 10

/-- com/example/greywood/greywood/lua/runtime/ArithmeticOperator$10 -/
def k16 : Class := { plain "com/example/greywood/greywood/lua/runtime/ArithmeticOperator$10" (some 6) with
  accessFlags := 16432
  interfaces := #[]
  cf := some (fileOf pool16 7 #[.nestHost 2] #[] 16432 2 #[] #[])
  fields := #[]
  methods := #[]
  instanceTypes := #[(.object "java/lang/String"), .int, .int, (.object "java/lang/String"), (.object "java/lang/String"), (.object "java/lang/String"), .boolean]
  staticTypes := #[]
  resolved := Array.replicate 19 none
  statics := none }

def pool17 : Array CpInfo := pool [(2, .class_ 4), (1, u "com/example/greywood/greywood/lua/runtime/ArithmeticOperator"), (20, .class_ 27), (1, u "com/example/greywood/greywood/lua/runtime/ArithmeticOperator$7")] 31

/-- com/example/greywood/greywood/lua/runtime/ArithmeticOperator$7 -/
def k17 : Class := { plain "com/example/greywood/greywood/lua/runtime/ArithmeticOperator$7" (some 6) with
  accessFlags := 16432
  interfaces := #[]
  cf := some (fileOf pool17 25 #[.nestHost 2] #[] 16432 2 #[] #[])
  fields := #[]
  methods := #[]
  instanceTypes := #[(.object "java/lang/String"), .int, .int, (.object "java/lang/String"), (.object "java/lang/String"), (.object "java/lang/String"), .boolean]
  staticTypes := #[]
  resolved := Array.replicate 59 none
  statics := none }

def pool18 : Array CpInfo := pool [(2, .class_ 4), (1, u "com/example/greywood/greywood/lua/runtime/ArithmeticOperator"), (10, .class_ 16), (0, u "com/example/greywood/greywood/lua/runtime/ArithmeticOperator$6")] 14

/-- com/example/greywood/greywood/lua/runtime/ArithmeticOperator$6 -/
def k18 : Class := { plain "com/example/greywood/greywood/lua/runtime/ArithmeticOperator$6" (some 6) with
  accessFlags := 16432
  interfaces := #[]
  cf := some (fileOf pool18 15 #[.nestHost 2] #[] 16432 2 #[] #[])
  fields := #[]
  methods := #[]
  instanceTypes := #[(.object "java/lang/String"), .int, .int, (.object "java/lang/String"), (.object "java/lang/String"), (.object "java/lang/String"), .boolean]
  staticTypes := #[]
  resolved := Array.replicate 31 none
  statics := none }

def pool19 : Array CpInfo := pool [(1, u "java/lang/Cloneable"), (0, .class_ 1), (0, u "java/lang/Object"), (0, .class_ 3)] 3

/-- java/lang/Cloneable -/
def k19 : Class := { plain "java/lang/Cloneable" (some 0) with
  accessFlags := 1537
  interfaces := #[]
  cf := some (fileOf pool19 2 #[] #[] 1537 4 #[] #[])
  fields := #[]
  methods := #[]
  instanceTypes := #[]
  staticTypes := #[]
  resolved := Array.replicate 8 none
  statics := none }

/-- the primitive byte -/
def k20 : Class := { plain "byte" none with kind := .primitive 'B', accessFlags := 0x411 }
/-- [B -/
def k21 : Class := { plain "[B" (some 0) with kind := .array 20 .byte, interfaces := #[19, 4], accessFlags := 1041 }

/-- the primitive int -/
def k22 : Class := { plain "int" none with kind := .primitive 'I', accessFlags := 0x411 }
/-- [I -/
def k23 : Class := { plain "[I" (some 0) with kind := .array 22 .int, interfaces := #[19, 4], accessFlags := 1041 }

def heap : Heap := #[{ cls := 6, slots := #[.ref 1, .ref 2, .ref 3, .ref 4, .ref 5, .ref 6, .ref 7, .ref 8, .ref 9, .ref 10, .ref 11, .ref 12, .null], vm := .statics 6 },
  { cls := 7, slots := #[.null, .int 0, .int 0, .null, .null, .null, .int 0], vm := .none },
  { cls := 14, slots := #[.null, .int 1, .int 0, .null, .null, .null, .int 0], vm := .none },
  { cls := 9, slots := #[.null, .int 2, .int 0, .null, .null, .null, .int 0], vm := .none },
  { cls := 8, slots := #[.null, .int 3, .int 0, .null, .null, .null, .int 0], vm := .none },
  { cls := 12, slots := #[.null, .int 4, .int 0, .null, .null, .null, .int 0], vm := .none },
  { cls := 18, slots := #[.null, .int 5, .int 0, .null, .null, .null, .int 0], vm := .none },
  { cls := 17, slots := #[.null, .int 6, .int 0, .null, .null, .null, .int 0], vm := .none },
  { cls := 10, slots := #[.null, .int 7, .int 0, .null, .null, .null, .int 0], vm := .none },
  { cls := 13, slots := #[.null, .int 8, .int 0, .null, .null, .null, .int 0], vm := .none },
  { cls := 16, slots := #[.null, .int 9, .int 0, .null, .null, .null, .int 0], vm := .none },
  { cls := 15, slots := #[.null, .int 10, .int 0, .null, .null, .null, .int 0], vm := .none },
  { cls := 11, slots := #[.null, .int 11, .int 0, .null, .null, .null, .int 0], vm := .none }]
def classes : Array Class := #[k0, k1, k2, k3, k4, k5, k6, k7, k8, k9, k10, k11, k12, k13, k14, k15, k16, k17, k18, k19, k20, k21, k22, k23]
def interned : List (Array UInt16 × Addr) := []
def slotsUsed : Nat := 97
def theMethod : MethodId := ⟨1, 2⟩
def args0 : Array Value := #[.int 5]
def aboutOver (below : List Frame) : State where
  vm := { classes := classes, interned := interned.toArray }
  heap := heap
  slotsUsed := slotsUsed
  threads := #[{ frames := .invoking theMethod args0 :: below }]
def below0 : List Frame := [.native { method := ⟨0, 0⟩, args := #[] }]
def about1 : State := aboutOver below0
def p0 : Program := .bare "" "" ""
def e0 : Env := launch0.env 0 0 0
theorem w_frames : about1.frames = Frame.invoking theMethod args0 :: below0 := rfl
set_option maxRecDepth 65536 in
theorem w_args : argsFit about1.vm theMethod args0 = true := by decide +kernel
set_option maxRecDepth 65536 in
theorem w_heap : heapFits about1 = true := by decide +kernel
set_option maxRecDepth 65536 in
theorem w_runnable : about1.curStatus? = some .runnable := by decide +kernel
set_option maxRecDepth 65536 in
theorem w_alone : about1.alone = true := by decide +kernel
set_option maxRecDepth 65536 in
theorem w_named : about1.methodNamed? x = some theMethod := by decide +kernel
set_option maxRecDepth 65536 in
theorem w_hears : about1.hears theMethod below0 = true := by decide +kernel
set_option maxRecDepth 65536 in
theorem w_ripe : about1.ripe theMethod args0 below0 = true := by decide +kernel
theorem w_running : about1.status = .running := rfl
set_option maxRecDepth 65536 in
theorem w_room : about1.hasRoom e0.platform room_1 = true :=
  launch0.hasRoom_least _ room_1 (by decide +kernel) (by decide +kernel) (by decide +kernel) (by decide +kernel) (by decide +kernel) (by decide +kernel)
theorem allAtoms_all (ts : List Jvm.Cond) (a : Array Jvm.Value) (st : Jvm.State) : (allAtoms ts).before a st = ts.all (fun c => c.before a st) := by
  induction ts with
  | nil => rfl
  | cons c t ih =>
    show (Jvm.Cond.and c (allAtoms t)).before a st = _
    rw [Jvm.Cond.before_and, ih, List.all_cons]
def words1 : List Jvm.Cond := Jvm.Cond.code x code maxLocals ret :: tables_1
/-- a 'code' word, met by the world's own term for the bytes: nothing is compared byte by byte -/
theorem code_word {y : MethodName} {bytes : ByteArray} {mx : Nat} {rt : Option FieldType} {a : Array Value} {s : State} {m : MethodId} {meth : Method} {c : Code} (h1 : s.methodNamed? y = some m) (h2 : s.vm.method? m = some meth) (h3 : meth.code = some c) (h4 : c.code = bytes)
    (h5 : (c.maxLocals == mx && c.exceptionTable.isEmpty && decide (c.maxStack ≤ mostOperands) && decide (meth.sig.returnType = rt) && !meth.locks && decide (parseMethodDescriptor y.desc = some meth.sig)) = true) : (Jvm.Cond.code y bytes mx rt).before a s = true := by
  simp only [Bool.and_eq_true, beq_iff_eq, Bool.not_eq_true', decide_eq_true_eq] at h5
  obtain ⟨⟨⟨⟨⟨g1, g2⟩, g3⟩, g4⟩, g5⟩, g6⟩ := h5
  simp [Cond.before, Cond.holds, Cond.value, h1, h2, h3, h4, g1, g2, g3, g4, g5, g6]
def isCode : Jvm.Cond → Bool
  | .code _ _ _ _ => true
  | _ => false
theorem all_split {L : List Jvm.Cond} {P : Jvm.Cond → Bool} (h1 : L.all (fun c => isCode c || P c) = true) (h2 : ∀ c ∈ L.filter isCode, P c = true) : L.all P = true := by
  refine List.all_eq_true.mpr fun c hc => ?_
  have h := List.all_eq_true.mp h1 c hc
  rcases Bool.eq_false_or_eq_true (isCode c) with hi | hi
  · exact h2 c (List.mem_filter.mpr ⟨hc, hi⟩)
  · simpa [hi] using h
set_option maxRecDepth 65536 in
theorem w_c0 : (Jvm.Cond.code x code maxLocals ret).before args0 about1 = true := code_word (m := ⟨1, 2⟩) (meth := k1m2) (c := k1c2) (by decide +kernel) rfl rfl rfl (by decide +kernel)
set_option maxRecDepth 65536 in
theorem w_c1 : (Jvm.Cond.code ({ cls := "com/example/greywood/greywood/lua/runtime/ArithmeticOperatorDividesByPinLaw", name := "pick", desc := "(I)Lcom/example/greywood/greywood/lua/runtime/ArithmeticOperator;" } : Jvm.MethodName) method_2_code (2 : Nat) (Option.some (Jvm.ClassFile.FieldType.object "com/example/greywood/greywood/lua/runtime/ArithmeticOperator"))).before args0 about1 = true := code_word (m := ⟨1, 1⟩) (meth := k1m1) (c := k1c1) (by decide +kernel) rfl rfl rfl (by decide +kernel)
set_option maxRecDepth 65536 in
theorem w_c2 : (Jvm.Cond.code ({ cls := "com/example/greywood/greywood/lua/runtime/ArithmeticOperator", name := "dividesBy", desc := "()Z" } : Jvm.MethodName) prog_126_method_8_code (1 : Nat) (Option.some Jvm.ClassFile.FieldType.boolean)).before args0 about1 = true := code_word (m := ⟨6, 0⟩) (meth := k6m0) (c := k6c0) (by decide +kernel) rfl rfl rfl (by decide +kernel)
def codes1 : List Jvm.Cond := [Jvm.Cond.code x code maxLocals ret, Jvm.Cond.code ({ cls := "com/example/greywood/greywood/lua/runtime/ArithmeticOperatorDividesByPinLaw", name := "pick", desc := "(I)Lcom/example/greywood/greywood/lua/runtime/ArithmeticOperator;" } : Jvm.MethodName) method_2_code (2 : Nat) (Option.some (Jvm.ClassFile.FieldType.object "com/example/greywood/greywood/lua/runtime/ArithmeticOperator")), Jvm.Cond.code ({ cls := "com/example/greywood/greywood/lua/runtime/ArithmeticOperator", name := "dividesBy", desc := "()Z" } : Jvm.MethodName) prog_126_method_8_code (1 : Nat) (Option.some Jvm.ClassFile.FieldType.boolean)]
set_option maxRecDepth 65536 in
theorem codes_eq : words1.filter isCode = codes1 := rfl
theorem w_codes : ∀ c ∈ words1.filter isCode, c.before args0 about1 = true := by
  rw [codes_eq]
  intro c hc
  simp only [codes1, List.mem_cons, List.not_mem_nil, or_false] at hc
  rcases hc with rfl | rfl | rfl
  · exact w_c0
  · exact w_c1
  · exact w_c2
set_option maxRecDepth 65536 in
theorem w_t1 : (words1.take 24).all (fun c => isCode c || c.before args0 about1) = true := by decide +kernel
set_option maxRecDepth 65536 in
theorem w_t2 : ((words1.drop 24).take 24).all (fun c => isCode c || c.before args0 about1) = true := by decide +kernel
set_option maxRecDepth 65536 in
theorem w_t3 : ((words1.drop 24).drop 24).all (fun c => isCode c || c.before args0 about1) = true := by decide +kernel
theorem w_tables : (allAtoms (Jvm.Cond.code x code maxLocals ret :: tables_1)).before args0 about1 = true := by
  rw [allAtoms_all]
  show words1.all (fun c => c.before args0 about1) = true
  refine all_split ?_ w_codes
  rw [← List.take_append_drop 24 words1, List.all_append, w_t1, ← List.take_append_drop 24 (words1.drop 24), List.all_append, w_t2, w_t3]
  rfl
set_option maxRecDepth 65536 in
theorem w_case : (Jvm.Cond.and given_1 narrow_1).before args0 about1 = true := by decide +kernel
theorem w_applies : (headSpec (Jvm.Cond.code x code maxLocals ret :: tables_1) room_1).applies x e0.platform about1 = true :=
  (Spec.applies_iff w_frames).mpr ⟨w_running, w_runnable, w_alone, w_named, w_hears, w_ripe, w_room, w_tables⟩
theorem atStart : AtStart classFile x code maxLocals ret World_1 tables_1 room_1 Calls_1 rest_1 Pre_1 launch0 p0 e0 about1 theMethod args0 below0 :=
  ⟨lists_1, trivial, launch0.admits_env _ _ _, launch0.least_env, fairChoices_fair.cas, fairChoices_fair.clock, w_frames, w_args, w_heap, w_applies, trivial, trivial, w_case⟩
end start1
theorem witness_1 : WitnessClaimed_1 := ⟨start1.p0, start1.e0, start1.about1, start1.theMethod, start1.args0, start1.below0, start1.atStart⟩
end Jvm.Pilot.@@N@@

