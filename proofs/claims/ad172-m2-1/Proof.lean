import JvmDerived
import JvmDerived.Pilot.@@N@@Statement
import JvmDerived.Pilot.@@N@@Code
set_option linter.unusedVariables false
set_option linter.unusedSimpArgs false
namespace Jvm.OwnW
open Sem ClassFile Op Lib Jvm.Free Jvm.Stand Jvm.LawKit Jvm.RoadKit
/-- what stays the same all through one invocation -/
abbrev Ctx : Type := Program × Env × State × MethodId × Array Value × List Frame × Method × Code
abbrev Ctx.p (C : Ctx) : Program := C.1
abbrev Ctx.e (C : Ctx) : Env := C.2.1
abbrev Ctx.s (C : Ctx) : State := C.2.2.1
abbrev Ctx.m (C : Ctx) : MethodId := C.2.2.2.1
abbrev Ctx.args (C : Ctx) : Array Value := C.2.2.2.2.1
abbrev Ctx.below (C : Ctx) : List Frame := C.2.2.2.2.2.1
abbrev Ctx.meth (C : Ctx) : Method := C.2.2.2.2.2.2.1
abbrev Ctx.c (C : Ctx) : Code := C.2.2.2.2.2.2.2
/-- each place of the list lies in a cell of ws, or in one made since -/
def Wok (b : Nat) (ws : List Addr) (L : List Loc) : Prop := ∀ y ∈ L, y.base ∈ ws ∨ b ≤ y.base
theorem Wok.nil (b : Nat) (ws : List Addr) : Wok b ws [] := fun _ q => nomatch q
theorem Wok.app {b : Nat} {ws : List Addr} {L L' : List Loc} (N : Wok b ws L) (N' : Wok b ws L') : Wok b ws (L ++ L') := fun y q => (List.mem_append.mp q).elim (N y) (N' y)
theorem Wok.snoc {b : Nat} {ws : List Addr} {L : List Loc} {a : Addr} {sl : Nat} (N : Wok b ws L) (q : a ∈ ws ∨ b ≤ a) : Wok b ws (L ++ [⟨a, sl⟩]) := N.app fun y hy => by cases List.mem_singleton.mp hy; exact q
theorem keep_of_same {s t : State} {L : List Loc} {ws : List Addr} {k n : Nat} (h : s.sameButNew t L k n) (N : Wok s.heap.size ws L) : Keep s.heap t.heap ws := by
  obtain ⟨-, h2, -, -, -, h6⟩ := h
  refine ⟨h2, fun x c hx hn => ?_, fun x c hx => ?_⟩
  · obtain ⟨c', q1, q2, q3, q4⟩ := h6 x c hx
    have hlt := (Array.getElem?_eq_some_iff.mp hx).1
    have : c'.slots = c.slots := Array.ext_getElem? fun i => q4 i fun hm => (N _ hm).elim hn fun z => absurd hlt (Nat.not_lt.mpr z)
    rw [q1, q2, this]
  · obtain ⟨c', q1, q2, q3, q4⟩ := h6 x c hx
    exact ⟨c', q1, by rw [q2], by rw [q2], q3⟩
theorem eq_of_same {s t : State} {L : List Loc} {n : Nat} (h : s.sameButNew t L 0 n) (N : Wok s.heap.size [] L) : t.heap = s.heap := by
  have K := keep_of_same h N
  obtain ⟨-, h2, h3, -⟩ := h
  refine Array.ext_getElem? fun i => ?_
  cases hi : s.heap[i]? with
  | some c => exact K.2.1 i c hi (fun q => nomatch q)
  | none =>
    rw [Array.getElem?_eq_none_iff] at hi ⊢
    omega
/-- where the run stands: the invocation's state T with heap h; of what is older than the invocation only ws has been written -/
def On (l : Launch) (Z : State) (ws : List Addr) (R : Room) (own nm : String) (bytes : ByteArray) (maxL : Nat) (ret : Option FieldType) (C : Ctx) (T : State) (h : Heap) (cells slots : Nat) : Prop :=
  (C.p.tables.exec = Jvm.exec ∧ Z.Warmed39 C.s.vm ∧ C.c.code = bytes ∧ C.c.maxLocals = maxL ∧ C.s.vm.findClass own = some C.m.cls ∧ C.meth.name = nm ∧ C.meth.sig.returnType = ret ∧ C.meth.locks = false) ∧
  (∃ locs, Stand C.p l C.e R C.s C.m C.args C.below C.meth C.c T locs cells slots ∧ Wok C.s.heap.size ws locs) ∧ T.heap = h
def Post (ws : List Addr) (rc : Nat) (h0 : Heap) (Q : Option Value → Heap → Prop) (v : Option Value) (h : Heap) (L : List Loc) : Prop := Wok h0.size ws L ∧ Keep h0 h ws ∧ (rc = 0 → ws = [] → h = h0) ∧ Q v h
/-- from the state A the invocation comes to its end, with Q of what it returns and of the heap it leaves -/
def Go (C : Ctx) (ws : List Addr) (Q : Option Value → Heap → Prop) (k n : Nat) (A : State) : Prop :=
  ∃ U o, Steps C.p.tables C.e C.below A U ∧ U.status = .running ∧ Ended U C.below o ∧ ∃ v L, o = .returned v ∧ Post ws k C.s.heap Q v U.heap L ∧ FrameEnd C.s o U L k n
def Met (l : Launch) (Z : State) (y : MethodName) (bytes : ByteArray) (maxL : Nat) (ret : Option FieldType) (wds : List Cond) (rm : Room) (as' : Array Value) (ws : List Addr) (h0 : Heap) (Q : Option Value → Heap → Prop) : Prop :=
  MetFree l y (head1 (Cond.code y bytes maxL ret :: wds) rm) (fun a U => a = as' ∧ Z.Warmed39 U.vm ∧ U.heap = h0) (fun _ _ _ _ _ => True) (fun _ U o U' => ∃ v L, o = .returned v ∧ Post ws rm.cells h0 Q v U'.heap L ∧ FrameEnd U o U' L rm.cells rm.slots)
theorem Met.mk {l : Launch} {Z : State} {y : MethodName} {bytes : ByteArray} {maxL : Nat} {ret : Option FieldType} {wds : List Cond} {rm : Room} {as' : Array Value} {ws : List Addr} {h0 : Heap} {Q : Option Value → Heap → Prop} {Ls : Array Slot}
    (hp : plainFor y = true) (ef : ∀ m, entryFrame m as' maxL = mkF m 0 Ls [])
    (H : ∀ (C : Ctx) (T : State), C.s.heap = h0 → On l Z ws rm y.cls y.name bytes maxL ret C T h0 0 0 → Go C ws Q rm.cells rm.slots (T.setTop (mkF C.m 0 Ls []))) : Met l Z y bytes maxL ret wds rm as' ws h0 Q := by
  refine MetFree.of_bodySF hp hisR ?_
  intro p e s m args below meth c s₁ Bd hml0 hP hK
  obtain ⟨rfl, hZ, hh⟩ := hP
  have e0 : s₁.heap = h0 := by rw [← hh, Bd.state]; rfl
  have := H (p, e, s, m, args, below, meth, c) s₁ hh ⟨⟨Bd.exec, hZ, Bd.bytes, hml0, findClass_of_methodNamed Bd.named, (name_of_methodNamed Bd.named Bd.method).1, Bd.returns, Bd.notSynchronized⟩, ⟨[], Stand.of_body Bd, Wok.nil _ _⟩, e0⟩
  obtain ⟨U, o, h1, h2, h3, v, L, h4, h5, h6⟩ := this
  refine ⟨U, o, castTop (ef m) h1, h2, h3, v, L, h4, ?_, h6⟩
  rw [← hh]; exact h5
theorem Go.of {C : Ctx} {ws : List Addr} {Q : Option Value → Heap → Prop} {k n : Nat} {A B : State} (g : Go C ws Q k n B) (h : ∀ t, Steps C.p.tables C.e C.below B t → Steps C.p.tables C.e C.below A t) : Go C ws Q k n A := by
  obtain ⟨U, o, h1, r⟩ := g; exact ⟨U, o, h _ h1, r⟩
theorem Go.via {C : Ctx} {ws : List Addr} {Q : Option Value → Heap → Prop} {k n : Nat} {A B : State} (g : Go C ws Q k n B) (h : Steps C.p.tables C.e C.below A B) : Go C ws Q k n A := by
  obtain ⟨U, o, h1, r⟩ := g; exact ⟨U, o, h.trans h1, r⟩
section Steps
variable {l : Launch} {Z : State} {a0 : Array Value} {ws : List Addr} {R : Room} {own nm : String} {bytes : ByteArray} {maxL : Nat} {ret : Option FieldType} {C : Ctx} {T : State} {h : Heap} {cells slots k n : Nat} {Q : Option Value → Heap → Prop} {pc q : Nat} {Ls L' : Array Slot} {st : List Value}
theorem On.size (O : On l Z ws R own nm bytes maxL ret C T h cells slots) : C.s.heap.size ≤ h.size := by
  obtain ⟨-, ⟨_, X, -⟩, rfl⟩ := O; exact X.same.2.1
theorem On.kept (O : On l Z ws R own nm bytes maxL ret C T h cells slots) : Keep C.s.heap h ws := by
  obtain ⟨-, ⟨_, X, N⟩, rfl⟩ := O; exact keep_of_same (t := T.setVm C.s.vm) X.same N
theorem fin (O : On l Z ws R own nm bytes maxL ret C T h cells slots) {v : Option Value} (hv : ret = none → v = none) (hk : cells ≤ k) (hn : slots ≤ n) (hQ : Q v h)
    (stp : ∀ X : State, ∀ fs, (∀ (f : JFrame) (acts : List Action), f.method = C.m → f.locked = none → f.entered = [] → (doReturn C.e (T.setTop f) acts v).1 = T.setFrames fs) → X = T.setFrames fs → Steps C.p.tables C.e C.below (T.setTop (mkF C.m pc Ls st)) X) : Go C ws Q k n (T.setTop (mkF C.m pc Ls st)) := by
  obtain ⟨⟨hx, hZ, -, -, -, -, hret, hlk⟩, ⟨L, X, N⟩, eT⟩ := O
  obtain ⟨fs, hr, hrun, hended, hW, hsame⟩ := X.leave (v := v) (fun q => hv (hret ▸ q)) hlk
  refine ⟨_, _, stp _ fs hr rfl, hrun, hended, v, L, rfl, ⟨N, ?_, ?_, ?_⟩, ⟨_, rfl⟩, hW, hsame.mono hk hn⟩
  · exact keep_of_same (t := T.setVm C.s.vm) X.same N
  · rintro rfl rfl
    exact eq_of_same (t := T.setVm C.s.vm) (X.same.mono hk (Nat.le_refl _)) N
  · show Q v T.heap; rw [eT]; exact hQ
theorem ret0 (O : On l Z ws R own nm bytes maxL none C T h cells slots) (hd : decode bytes pc = .ok (.return_, 1)) (hk : cells ≤ k) (hn : slots ≤ n) (hQ : Q none h) : Go C ws Q k n (T.setTop (mkF C.m pc Ls [])) := by
  refine fin O (fun _ => rfl) hk hn hQ ?_
  obtain ⟨⟨hx, hZ, rfl, -, -, -, hret, hlk⟩, ⟨L, X, N⟩, eT⟩ := O
  rintro _ fs hr rfl
  exact X.returnOut hx hret hd hr
theorem retV {t : FieldType} {w w' : Value} {i : Instr} {rest : List Value} (O : On l Z ws R own nm bytes maxL (some t) C T h cells slots) (hd : decode bytes pc = .ok (i, 1)) (hw : w' = w) (hnw : narrow t w = w)
    (hi : (i = .ireturn ∧ (t = .int ∨ t = .boolean ∨ t = .byte ∨ t = .char ∨ t = .short) ∧ ∃ z, w = .int z) ∨ (i = .lreturn ∧ t = .long ∧ ∃ z, w = .long z) ∨ (i = .dreturn ∧ t = .double ∧ ∃ z, w = .double z) ∨ (i = .freturn ∧ t = .float ∧ ∃ z, w = .float z) ∨ (i = .areturn ∧ t.isReference = true ∧ w.isRef = true))
    (hk : cells ≤ k) (hn : slots ≤ n) (hQ : Q (some w) h) : Go C ws Q k n (T.setTop (mkF C.m pc Ls (w' :: rest))) := by
  subst hw
  refine fin O (fun q => nomatch q) hk hn hQ ?_
  obtain ⟨⟨hx, hZ, rfl, -, -, -, hret, hlk⟩, ⟨L, X, N⟩, eT⟩ := O
  rintro _ fs hr rfl
  exact retOut X hx hret hnw hi hd hr
theorem retI {z z' : Int32} {rest : List Value} (O : On l Z ws R own nm bytes maxL (some .int) C T h cells slots) (hd : decode bytes pc = .ok (.ireturn, 1)) (hz : z = z') (hk : cells ≤ k) (hn : slots ≤ n) (hQ : Q (some (.int z')) h) : Go C ws Q k n (T.setTop (mkF C.m pc Ls (.int z :: rest))) :=
  retV O hd (congrArg Value.int hz) rfl (Or.inl ⟨rfl, Or.inl rfl, _, rfl⟩) hk hn hQ
theorem retB {z z' : Int32} {rest : List Value} (O : On l Z ws R own nm bytes maxL (some .boolean) C T h cells slots) (hd : decode bytes pc = .ok (.ireturn, 1)) (hz : z = z') (h01 : z' = 0 ∨ z' = 1) (hk : cells ≤ k) (hn : slots ≤ n) (hQ : Q (some (.int z')) h) : Go C ws Q k n (T.setTop (mkF C.m pc Ls (.int z :: rest))) :=
  retV O hd (congrArg Value.int hz) (by rcases h01 with rfl | rfl <;> rfl) (Or.inl ⟨rfl, Or.inr (Or.inl rfl), _, rfl⟩) hk hn hQ
theorem retY {z z' : Int32} {rest : List Value} (O : On l Z ws R own nm bytes maxL (some .byte) C T h cells slots) (hd : decode bytes pc = .ok (.ireturn, 1)) (hz : z = z') (hb : z'.toInt8.toInt32 = z') (hk : cells ≤ k) (hn : slots ≤ n) (hQ : Q (some (.int z')) h) : Go C ws Q k n (T.setTop (mkF C.m pc Ls (.int z :: rest))) :=
  retV O hd (congrArg Value.int hz) (congrArg Value.int hb) (Or.inl ⟨rfl, Or.inr (Or.inr (Or.inl rfl)), _, rfl⟩) hk hn hQ
theorem retL {z z' : Int64} {rest : List Value} (O : On l Z ws R own nm bytes maxL (some .long) C T h cells slots) (hd : decode bytes pc = .ok (.lreturn, 1)) (hz : z = z') (hk : cells ≤ k) (hn : slots ≤ n) (hQ : Q (some (.long z')) h) : Go C ws Q k n (T.setTop (mkF C.m pc Ls (.long z :: rest))) :=
  retV O hd (congrArg Value.long hz) rfl (Or.inr (Or.inl ⟨rfl, rfl, _, rfl⟩)) hk hn hQ
theorem retA {t : FieldType} {w : Value} {rest : List Value} (O : On l Z ws R own nm bytes maxL (some t) C T h cells slots) (hd : decode bytes pc = .ok (.areturn, 1)) (ht : t.isReference = true) (hw : w.isRef = true) (hnw : narrow t w = w) (hk : cells ≤ k) (hn : slots ≤ n) (hQ : Q (some w) h) : Go C ws Q k n (T.setTop (mkF C.m pc Ls (w :: rest))) :=
  retV O hd rfl hnw (Or.inr (Or.inr (Or.inr (Or.inr ⟨rfl, ht, hw⟩)))) hk hn hQ
theorem iload (O : On l Z ws R own nm bytes maxL ret C T h cells slots) {i : Nat} {v : Int32} (hd : decode bytes pc = .ok (.iload i, 2)) (hl : Ls[i]? = some (.val (.int v))) (hq : pc + 2 = q)
    (K : Go C ws Q k n (T.setTop (mkF C.m q Ls (.int v :: st)))) : Go C ws Q k n (T.setTop (mkF C.m pc Ls (st))) := by
  obtain ⟨⟨hx, -, rfl, -⟩, ⟨_, X, -⟩, -⟩ := O; subst hq
  exact K.of fun _ kk => XS.iload X.here hx rfl hd hl kk
theorem iloadN (O : On l Z ws R own nm bytes maxL ret C T h cells slots) {i : Fin 4} {v : Int32} (hd : decode bytes pc = .ok (.iload_n i, 1)) (hl : Ls[i.val]? = some (.val (.int v))) (hq : pc + 1 = q)
    (K : Go C ws Q k n (T.setTop (mkF C.m q Ls (.int v :: st)))) : Go C ws Q k n (T.setTop (mkF C.m pc Ls (st))) := by
  obtain ⟨⟨hx, -, rfl, -⟩, ⟨_, X, -⟩, -⟩ := O; subst hq
  exact K.of fun _ kk => XS.iloadN X.here hx rfl hd hl kk
theorem lload (O : On l Z ws R own nm bytes maxL ret C T h cells slots) {i : Nat} {v : Int64} (hd : decode bytes pc = .ok (.lload i, 2)) (hl : Ls[i]? = some (.val (.long v))) (hq : pc + 2 = q)
    (K : Go C ws Q k n (T.setTop (mkF C.m q Ls (.long v :: st)))) : Go C ws Q k n (T.setTop (mkF C.m pc Ls (st))) := by
  obtain ⟨⟨hx, -, rfl, -⟩, ⟨_, X, -⟩, -⟩ := O; subst hq
  exact K.of fun _ kk => XS.lload X.here hx rfl hd hl kk
theorem lloadN (O : On l Z ws R own nm bytes maxL ret C T h cells slots) {i : Fin 4} {v : Int64} (hd : decode bytes pc = .ok (.lload_n i, 1)) (hl : Ls[i.val]? = some (.val (.long v))) (hq : pc + 1 = q)
    (K : Go C ws Q k n (T.setTop (mkF C.m q Ls (.long v :: st)))) : Go C ws Q k n (T.setTop (mkF C.m pc Ls (st))) := by
  obtain ⟨⟨hx, -, rfl, -⟩, ⟨_, X, -⟩, -⟩ := O; subst hq
  exact K.of fun _ kk => XS.lloadN X.here hx rfl hd hl kk
theorem aload (O : On l Z ws R own nm bytes maxL ret C T h cells slots) {i : Nat} {v : Value} (hd : decode bytes pc = .ok (.aload i, 2)) (hl : Ls[i]? = some (.val v)) (hv : v.isRef = true) (hq : pc + 2 = q)
    (K : Go C ws Q k n (T.setTop (mkF C.m q Ls (v :: st)))) : Go C ws Q k n (T.setTop (mkF C.m pc Ls (st))) := by
  obtain ⟨⟨hx, -, rfl, -⟩, ⟨_, X, -⟩, -⟩ := O; subst hq
  exact K.of fun _ kk => XS.aload X.here hx rfl hd hl hv kk
theorem aloadN (O : On l Z ws R own nm bytes maxL ret C T h cells slots) {i : Fin 4} {v : Value} (hd : decode bytes pc = .ok (.aload_n i, 1)) (hl : Ls[i.val]? = some (.val v)) (hv : v.isRef = true) (hq : pc + 1 = q)
    (K : Go C ws Q k n (T.setTop (mkF C.m q Ls (v :: st)))) : Go C ws Q k n (T.setTop (mkF C.m pc Ls (st))) := by
  obtain ⟨⟨hx, -, rfl, -⟩, ⟨_, X, -⟩, -⟩ := O; subst hq
  exact K.of fun _ kk => XS.aloadN X.here hx rfl hd hl hv kk
theorem istore (O : On l Z ws R own nm bytes maxL ret C T h cells slots) {i : Nat} {v : Int32} (hd : decode bytes pc = .ok (.istore i, 2)) (hl : storeLocals Ls i (.int v) = some L') (hq : pc + 2 = q)
    (K : Go C ws Q k n (T.setTop (mkF C.m q L' (st)))) : Go C ws Q k n (T.setTop (mkF C.m pc Ls (.int v :: st))) := by
  obtain ⟨⟨hx, -, rfl, -⟩, ⟨_, X, -⟩, -⟩ := O; subst hq
  exact K.of fun _ kk => XS.istore X.here hx rfl hd rfl hl kk
theorem istoreN (O : On l Z ws R own nm bytes maxL ret C T h cells slots) {i : Fin 4} {v : Int32} (hd : decode bytes pc = .ok (.istore_n i, 1)) (hl : storeLocals Ls i.val (.int v) = some L') (hq : pc + 1 = q)
    (K : Go C ws Q k n (T.setTop (mkF C.m q L' (st)))) : Go C ws Q k n (T.setTop (mkF C.m pc Ls (.int v :: st))) := by
  obtain ⟨⟨hx, -, rfl, -⟩, ⟨_, X, -⟩, -⟩ := O; subst hq
  exact K.of fun _ kk => XS.istoreN X.here hx rfl hd rfl hl kk
theorem lstore (O : On l Z ws R own nm bytes maxL ret C T h cells slots) {i : Nat} {v : Int64} (hd : decode bytes pc = .ok (.lstore i, 2)) (hl : storeLocals Ls i (.long v) = some L') (hq : pc + 2 = q)
    (K : Go C ws Q k n (T.setTop (mkF C.m q L' (st)))) : Go C ws Q k n (T.setTop (mkF C.m pc Ls (.long v :: st))) := by
  obtain ⟨⟨hx, -, rfl, -⟩, ⟨_, X, -⟩, -⟩ := O; subst hq
  exact K.of fun _ kk => XS.lstore X.here hx rfl hd rfl hl kk
theorem lstoreN (O : On l Z ws R own nm bytes maxL ret C T h cells slots) {i : Fin 4} {v : Int64} (hd : decode bytes pc = .ok (.lstore_n i, 1)) (hl : storeLocals Ls i.val (.long v) = some L') (hq : pc + 1 = q)
    (K : Go C ws Q k n (T.setTop (mkF C.m q L' (st)))) : Go C ws Q k n (T.setTop (mkF C.m pc Ls (.long v :: st))) := by
  obtain ⟨⟨hx, -, rfl, -⟩, ⟨_, X, -⟩, -⟩ := O; subst hq
  exact K.of fun _ kk => XS.lstoreN X.here hx rfl hd rfl hl kk
theorem astore (O : On l Z ws R own nm bytes maxL ret C T h cells slots) {i : Nat} {v : Value} (hd : decode bytes pc = .ok (.astore i, 2)) (hv : v.isRef = true) (hl : storeLocals Ls i v = some L') (hq : pc + 2 = q)
    (K : Go C ws Q k n (T.setTop (mkF C.m q L' (st)))) : Go C ws Q k n (T.setTop (mkF C.m pc Ls (v :: st))) := by
  obtain ⟨⟨hx, -, rfl, -⟩, ⟨_, X, -⟩, -⟩ := O; subst hq
  exact K.of fun _ kk => XS.astore X.here hx rfl hd rfl hv hl kk
theorem astoreN (O : On l Z ws R own nm bytes maxL ret C T h cells slots) {i : Fin 4} {v : Value} (hd : decode bytes pc = .ok (.astore_n i, 1)) (hv : v.isRef = true) (hl : storeLocals Ls i.val v = some L') (hq : pc + 1 = q)
    (K : Go C ws Q k n (T.setTop (mkF C.m q L' (st)))) : Go C ws Q k n (T.setTop (mkF C.m pc Ls (v :: st))) := by
  obtain ⟨⟨hx, -, rfl, -⟩, ⟨_, X, -⟩, -⟩ := O; subst hq
  exact K.of fun _ kk => XS.astoreN X.here hx rfl hd rfl hv hl kk
theorem iconst (O : On l Z ws R own nm bytes maxL ret C T h cells slots) {i : Int} {r : Int32} (hd : decode bytes pc = .ok (.iconst i, 1)) (hr : Int32.ofInt i = r) (hq : pc + 1 = q)
    (K : Go C ws Q k n (T.setTop (mkF C.m q Ls (.int r :: st)))) : Go C ws Q k n (T.setTop (mkF C.m pc Ls (st))) := by
  obtain ⟨⟨hx, -, rfl, -⟩, ⟨_, X, -⟩, -⟩ := O; subst hq hr
  exact K.of fun _ kk => XS.iconst X.here hx rfl hd kk
theorem bipush (O : On l Z ws R own nm bytes maxL ret C T h cells slots) {i : Int} {r : Int32} (hd : decode bytes pc = .ok (.bipush i, 2)) (hr : (Int8.ofInt i).toInt32 = r) (hq : pc + 2 = q)
    (K : Go C ws Q k n (T.setTop (mkF C.m q Ls (.int r :: st)))) : Go C ws Q k n (T.setTop (mkF C.m pc Ls (st))) := by
  obtain ⟨⟨hx, -, rfl, -⟩, ⟨_, X, -⟩, -⟩ := O; subst hq hr
  exact K.of fun _ kk => XS.bipush X.here hx rfl hd kk
theorem sipush (O : On l Z ws R own nm bytes maxL ret C T h cells slots) {i : Int} {r : Int32} (hd : decode bytes pc = .ok (.sipush i, 3)) (hr : (Int16.ofInt i).toInt32 = r) (hq : pc + 3 = q)
    (K : Go C ws Q k n (T.setTop (mkF C.m q Ls (.int r :: st)))) : Go C ws Q k n (T.setTop (mkF C.m pc Ls (st))) := by
  obtain ⟨⟨hx, -, rfl, -⟩, ⟨_, X, -⟩, -⟩ := O; subst hq hr
  exact K.of fun _ kk => XS.sipush X.here hx rfl hd kk
theorem lconst (O : On l Z ws R own nm bytes maxL ret C T h cells slots) {i : Fin 2} {r : Int64} (hd : decode bytes pc = .ok (.lconst i, 1)) (hr : Int64.ofNat i = r) (hq : pc + 1 = q)
    (K : Go C ws Q k n (T.setTop (mkF C.m q Ls (.long r :: st)))) : Go C ws Q k n (T.setTop (mkF C.m pc Ls (st))) := by
  obtain ⟨⟨hx, -, rfl, -⟩, ⟨_, X, -⟩, -⟩ := O; subst hq hr
  exact K.of fun _ kk => XS.lconst X.here hx rfl hd kk
theorem aconst_null (O : On l Z ws R own nm bytes maxL ret C T h cells slots)  (hd : decode bytes pc = .ok (.aconst_null, 1))  (hq : pc + 1 = q)
    (K : Go C ws Q k n (T.setTop (mkF C.m q Ls (.null :: st)))) : Go C ws Q k n (T.setTop (mkF C.m pc Ls (st))) := by
  obtain ⟨⟨hx, -, rfl, -⟩, ⟨_, X, -⟩, -⟩ := O; subst hq
  exact K.of fun _ kk => XS.aconstNull X.here hx rfl hd kk
theorem iadd (O : On l Z ws R own nm bytes maxL ret C T h cells slots) {x y r : Int32} (hd : decode bytes pc = .ok (.iadd, 1)) (hr : x + y = r) (hq : pc + 1 = q)
    (K : Go C ws Q k n (T.setTop (mkF C.m q Ls (.int r :: st)))) : Go C ws Q k n (T.setTop (mkF C.m pc Ls (.int y :: .int x :: st))) := by
  obtain ⟨⟨hx, -, rfl, -⟩, ⟨_, X, -⟩, -⟩ := O; subst hq hr
  exact K.of fun _ kk => XS.iadd X.here hx rfl hd rfl kk
theorem isub (O : On l Z ws R own nm bytes maxL ret C T h cells slots) {x y r : Int32} (hd : decode bytes pc = .ok (.isub, 1)) (hr : x - y = r) (hq : pc + 1 = q)
    (K : Go C ws Q k n (T.setTop (mkF C.m q Ls (.int r :: st)))) : Go C ws Q k n (T.setTop (mkF C.m pc Ls (.int y :: .int x :: st))) := by
  obtain ⟨⟨hx, -, rfl, -⟩, ⟨_, X, -⟩, -⟩ := O; subst hq hr
  exact K.of fun _ kk => XS.isub X.here hx rfl hd rfl kk
theorem imul (O : On l Z ws R own nm bytes maxL ret C T h cells slots) {x y r : Int32} (hd : decode bytes pc = .ok (.imul, 1)) (hr : x * y = r) (hq : pc + 1 = q)
    (K : Go C ws Q k n (T.setTop (mkF C.m q Ls (.int r :: st)))) : Go C ws Q k n (T.setTop (mkF C.m pc Ls (.int y :: .int x :: st))) := by
  obtain ⟨⟨hx, -, rfl, -⟩, ⟨_, X, -⟩, -⟩ := O; subst hq hr
  exact K.of fun _ kk => XS.imul X.here hx rfl hd rfl kk
theorem iand (O : On l Z ws R own nm bytes maxL ret C T h cells slots) {x y r : Int32} (hd : decode bytes pc = .ok (.iand, 1)) (hr : x &&& y = r) (hq : pc + 1 = q)
    (K : Go C ws Q k n (T.setTop (mkF C.m q Ls (.int r :: st)))) : Go C ws Q k n (T.setTop (mkF C.m pc Ls (.int y :: .int x :: st))) := by
  obtain ⟨⟨hx, -, rfl, -⟩, ⟨_, X, -⟩, -⟩ := O; subst hq hr
  exact K.of fun _ kk => XS.iand X.here hx rfl hd rfl kk
theorem ior (O : On l Z ws R own nm bytes maxL ret C T h cells slots) {x y r : Int32} (hd : decode bytes pc = .ok (.ior, 1)) (hr : x ||| y = r) (hq : pc + 1 = q)
    (K : Go C ws Q k n (T.setTop (mkF C.m q Ls (.int r :: st)))) : Go C ws Q k n (T.setTop (mkF C.m pc Ls (.int y :: .int x :: st))) := by
  obtain ⟨⟨hx, -, rfl, -⟩, ⟨_, X, -⟩, -⟩ := O; subst hq hr
  exact K.of fun _ kk => XS.ior X.here hx rfl hd rfl kk
theorem ixor (O : On l Z ws R own nm bytes maxL ret C T h cells slots) {x y r : Int32} (hd : decode bytes pc = .ok (.ixor, 1)) (hr : x ^^^ y = r) (hq : pc + 1 = q)
    (K : Go C ws Q k n (T.setTop (mkF C.m q Ls (.int r :: st)))) : Go C ws Q k n (T.setTop (mkF C.m pc Ls (.int y :: .int x :: st))) := by
  obtain ⟨⟨hx, -, rfl, -⟩, ⟨_, X, -⟩, -⟩ := O; subst hq hr
  exact K.of fun _ kk => XS.ixor X.here hx rfl hd rfl kk
theorem ishl (O : On l Z ws R own nm bytes maxL ret C T h cells slots) {x y r : Int32} (hd : decode bytes pc = .ok (.ishl, 1)) (hr : x <<< (y &&& 31) = r) (hq : pc + 1 = q)
    (K : Go C ws Q k n (T.setTop (mkF C.m q Ls (.int r :: st)))) : Go C ws Q k n (T.setTop (mkF C.m pc Ls (.int y :: .int x :: st))) := by
  obtain ⟨⟨hx, -, rfl, -⟩, ⟨_, X, -⟩, -⟩ := O; subst hq hr
  exact K.of fun _ kk => XS.ishl X.here hx rfl hd rfl kk
theorem ishr (O : On l Z ws R own nm bytes maxL ret C T h cells slots) {x y r : Int32} (hd : decode bytes pc = .ok (.ishr, 1)) (hr : x >>> (y &&& 31) = r) (hq : pc + 1 = q)
    (K : Go C ws Q k n (T.setTop (mkF C.m q Ls (.int r :: st)))) : Go C ws Q k n (T.setTop (mkF C.m pc Ls (.int y :: .int x :: st))) := by
  obtain ⟨⟨hx, -, rfl, -⟩, ⟨_, X, -⟩, -⟩ := O; subst hq hr
  exact K.of fun _ kk => XS.ishr X.here hx rfl hd rfl kk
theorem iushr (O : On l Z ws R own nm bytes maxL ret C T h cells slots) {x y r : Int32} (hd : decode bytes pc = .ok (.iushr, 1)) (hr : (x.toUInt32 >>> (y &&& 31).toUInt32).toInt32 = r) (hq : pc + 1 = q)
    (K : Go C ws Q k n (T.setTop (mkF C.m q Ls (.int r :: st)))) : Go C ws Q k n (T.setTop (mkF C.m pc Ls (.int y :: .int x :: st))) := by
  obtain ⟨⟨hx, -, rfl, -⟩, ⟨_, X, -⟩, -⟩ := O; subst hq hr
  exact K.of fun _ kk => XS.iushr X.here hx rfl hd rfl kk
theorem idiv (O : On l Z ws R own nm bytes maxL ret C T h cells slots) {x y r : Int32} (hd : decode bytes pc = .ok (.idiv, 1)) (hy : y ≠ 0) (hr : x / y = r) (hq : pc + 1 = q)
    (K : Go C ws Q k n (T.setTop (mkF C.m q Ls (.int r :: st)))) : Go C ws Q k n (T.setTop (mkF C.m pc Ls (.int y :: .int x :: st))) := by
  obtain ⟨⟨hx, -, rfl, -⟩, ⟨_, X, -⟩, -⟩ := O; subst hq hr
  exact K.of fun _ kk => XS.idiv X.here hx rfl hd rfl hy kk
theorem irem (O : On l Z ws R own nm bytes maxL ret C T h cells slots) {x y r : Int32} (hd : decode bytes pc = .ok (.irem, 1)) (hy : y ≠ 0) (hr : x % y = r) (hq : pc + 1 = q)
    (K : Go C ws Q k n (T.setTop (mkF C.m q Ls (.int r :: st)))) : Go C ws Q k n (T.setTop (mkF C.m pc Ls (.int y :: .int x :: st))) := by
  obtain ⟨⟨hx, -, rfl, -⟩, ⟨_, X, -⟩, -⟩ := O; subst hq hr; rw [← irem_eq_mod] at K
  exact K.of fun _ kk => XS.irem X.here hx rfl hd rfl hy kk
theorem ladd (O : On l Z ws R own nm bytes maxL ret C T h cells slots) {x y r : Int64} (hd : decode bytes pc = .ok (.ladd, 1)) (hr : x + y = r) (hq : pc + 1 = q)
    (K : Go C ws Q k n (T.setTop (mkF C.m q Ls (.long r :: st)))) : Go C ws Q k n (T.setTop (mkF C.m pc Ls (.long y :: .long x :: st))) := by
  obtain ⟨⟨hx, -, rfl, -⟩, ⟨_, X, -⟩, -⟩ := O; subst hq hr
  exact K.of fun _ kk => XS.ladd X.here hx rfl hd rfl kk
theorem lsub (O : On l Z ws R own nm bytes maxL ret C T h cells slots) {x y r : Int64} (hd : decode bytes pc = .ok (.lsub, 1)) (hr : x - y = r) (hq : pc + 1 = q)
    (K : Go C ws Q k n (T.setTop (mkF C.m q Ls (.long r :: st)))) : Go C ws Q k n (T.setTop (mkF C.m pc Ls (.long y :: .long x :: st))) := by
  obtain ⟨⟨hx, -, rfl, -⟩, ⟨_, X, -⟩, -⟩ := O; subst hq hr
  exact K.of fun _ kk => XS.lsub X.here hx rfl hd rfl kk
theorem lmul (O : On l Z ws R own nm bytes maxL ret C T h cells slots) {x y r : Int64} (hd : decode bytes pc = .ok (.lmul, 1)) (hr : x * y = r) (hq : pc + 1 = q)
    (K : Go C ws Q k n (T.setTop (mkF C.m q Ls (.long r :: st)))) : Go C ws Q k n (T.setTop (mkF C.m pc Ls (.long y :: .long x :: st))) := by
  obtain ⟨⟨hx, -, rfl, -⟩, ⟨_, X, -⟩, -⟩ := O; subst hq hr
  exact K.of fun _ kk => XS.lmul X.here hx rfl hd rfl kk
theorem land (O : On l Z ws R own nm bytes maxL ret C T h cells slots) {x y r : Int64} (hd : decode bytes pc = .ok (.land, 1)) (hr : x &&& y = r) (hq : pc + 1 = q)
    (K : Go C ws Q k n (T.setTop (mkF C.m q Ls (.long r :: st)))) : Go C ws Q k n (T.setTop (mkF C.m pc Ls (.long y :: .long x :: st))) := by
  obtain ⟨⟨hx, -, rfl, -⟩, ⟨_, X, -⟩, -⟩ := O; subst hq hr
  exact K.of fun _ kk => XS.land X.here hx rfl hd rfl kk
theorem lor (O : On l Z ws R own nm bytes maxL ret C T h cells slots) {x y r : Int64} (hd : decode bytes pc = .ok (.lor, 1)) (hr : x ||| y = r) (hq : pc + 1 = q)
    (K : Go C ws Q k n (T.setTop (mkF C.m q Ls (.long r :: st)))) : Go C ws Q k n (T.setTop (mkF C.m pc Ls (.long y :: .long x :: st))) := by
  obtain ⟨⟨hx, -, rfl, -⟩, ⟨_, X, -⟩, -⟩ := O; subst hq hr
  exact K.of fun _ kk => XS.lor X.here hx rfl hd rfl kk
theorem lxor (O : On l Z ws R own nm bytes maxL ret C T h cells slots) {x y r : Int64} (hd : decode bytes pc = .ok (.lxor, 1)) (hr : x ^^^ y = r) (hq : pc + 1 = q)
    (K : Go C ws Q k n (T.setTop (mkF C.m q Ls (.long r :: st)))) : Go C ws Q k n (T.setTop (mkF C.m pc Ls (.long y :: .long x :: st))) := by
  obtain ⟨⟨hx, -, rfl, -⟩, ⟨_, X, -⟩, -⟩ := O; subst hq hr
  exact K.of fun _ kk => XS.lxor X.here hx rfl hd rfl kk
theorem ldiv (O : On l Z ws R own nm bytes maxL ret C T h cells slots) {x y r : Int64} (hd : decode bytes pc = .ok (.ldiv, 1)) (hy : y ≠ 0) (hr : x / y = r) (hq : pc + 1 = q)
    (K : Go C ws Q k n (T.setTop (mkF C.m q Ls (.long r :: st)))) : Go C ws Q k n (T.setTop (mkF C.m pc Ls (.long y :: .long x :: st))) := by
  obtain ⟨⟨hx, -, rfl, -⟩, ⟨_, X, -⟩, -⟩ := O; subst hq hr
  exact K.of fun _ kk => XS.ldiv X.here hx rfl hd rfl hy kk
theorem lrem (O : On l Z ws R own nm bytes maxL ret C T h cells slots) {x y r : Int64} (hd : decode bytes pc = .ok (.lrem, 1)) (hy : y ≠ 0) (hr : x % y = r) (hq : pc + 1 = q)
    (K : Go C ws Q k n (T.setTop (mkF C.m q Ls (.long r :: st)))) : Go C ws Q k n (T.setTop (mkF C.m pc Ls (.long y :: .long x :: st))) := by
  obtain ⟨⟨hx, -, rfl, -⟩, ⟨_, X, -⟩, -⟩ := O; subst hq hr; rw [← lrem_mod] at K
  exact K.of fun _ kk => XS.lrem X.here hx rfl hd rfl hy kk
theorem lshl (O : On l Z ws R own nm bytes maxL ret C T h cells slots) {x r : Int64} {y : Int32} (hd : decode bytes pc = .ok (.lshl, 1)) (hr : x <<< (y &&& 0x3f).toInt64 = r) (hq : pc + 1 = q)
    (K : Go C ws Q k n (T.setTop (mkF C.m q Ls (.long r :: st)))) : Go C ws Q k n (T.setTop (mkF C.m pc Ls (.int y :: .long x :: st))) := by
  obtain ⟨⟨hx, -, rfl, -⟩, ⟨_, X, -⟩, -⟩ := O; subst hq hr
  exact K.of fun _ kk => XS.lshl X.here hx rfl hd rfl kk
theorem lshr (O : On l Z ws R own nm bytes maxL ret C T h cells slots) {x r : Int64} {y : Int32} (hd : decode bytes pc = .ok (.lshr, 1)) (hr : x >>> (y &&& 0x3f).toInt64 = r) (hq : pc + 1 = q)
    (K : Go C ws Q k n (T.setTop (mkF C.m q Ls (.long r :: st)))) : Go C ws Q k n (T.setTop (mkF C.m pc Ls (.int y :: .long x :: st))) := by
  obtain ⟨⟨hx, -, rfl, -⟩, ⟨_, X, -⟩, -⟩ := O; subst hq hr
  exact K.of fun _ kk => XS.lshr X.here hx rfl hd rfl kk
theorem lushr (O : On l Z ws R own nm bytes maxL ret C T h cells slots) {x r : Int64} {y : Int32} (hd : decode bytes pc = .ok (.lushr, 1)) (hr : (x.toUInt64 >>> (y &&& 0x3f).toInt64.toUInt64).toInt64 = r) (hq : pc + 1 = q)
    (K : Go C ws Q k n (T.setTop (mkF C.m q Ls (.long r :: st)))) : Go C ws Q k n (T.setTop (mkF C.m pc Ls (.int y :: .long x :: st))) := by
  obtain ⟨⟨hx, -, rfl, -⟩, ⟨_, X, -⟩, -⟩ := O; subst hq hr
  exact K.of fun _ kk => XS.lushr X.here hx rfl hd rfl kk
theorem ineg (O : On l Z ws R own nm bytes maxL ret C T h cells slots) {x : Int32} {r : Int32} (hd : decode bytes pc = .ok (.ineg, 1)) (hr : -x = r) (hq : pc + 1 = q)
    (K : Go C ws Q k n (T.setTop (mkF C.m q Ls (.int r :: st)))) : Go C ws Q k n (T.setTop (mkF C.m pc Ls (.int x :: st))) := by
  obtain ⟨⟨hx, -, rfl, -⟩, ⟨_, X, -⟩, -⟩ := O; subst hq hr
  exact K.of fun _ kk => XS.ineg X.here hx rfl hd rfl kk
theorem lneg (O : On l Z ws R own nm bytes maxL ret C T h cells slots) {x : Int64} {r : Int64} (hd : decode bytes pc = .ok (.lneg, 1)) (hr : -x = r) (hq : pc + 1 = q)
    (K : Go C ws Q k n (T.setTop (mkF C.m q Ls (.long r :: st)))) : Go C ws Q k n (T.setTop (mkF C.m pc Ls (.long x :: st))) := by
  obtain ⟨⟨hx, -, rfl, -⟩, ⟨_, X, -⟩, -⟩ := O; subst hq hr
  exact K.of fun _ kk => XS.lneg X.here hx rfl hd rfl kk
theorem i2l (O : On l Z ws R own nm bytes maxL ret C T h cells slots) {x : Int32} {r : Int64} (hd : decode bytes pc = .ok (.i2l, 1)) (hr : x.toInt64 = r) (hq : pc + 1 = q)
    (K : Go C ws Q k n (T.setTop (mkF C.m q Ls (.long r :: st)))) : Go C ws Q k n (T.setTop (mkF C.m pc Ls (.int x :: st))) := by
  obtain ⟨⟨hx, -, rfl, -⟩, ⟨_, X, -⟩, -⟩ := O; subst hq hr
  exact K.of fun _ kk => XS.i2l X.here hx rfl hd rfl kk
theorem l2i (O : On l Z ws R own nm bytes maxL ret C T h cells slots) {x : Int64} {r : Int32} (hd : decode bytes pc = .ok (.l2i, 1)) (hr : x.toInt32 = r) (hq : pc + 1 = q)
    (K : Go C ws Q k n (T.setTop (mkF C.m q Ls (.int r :: st)))) : Go C ws Q k n (T.setTop (mkF C.m pc Ls (.long x :: st))) := by
  obtain ⟨⟨hx, -, rfl, -⟩, ⟨_, X, -⟩, -⟩ := O; subst hq hr
  exact K.of fun _ kk => XS.l2i X.here hx rfl hd rfl kk
theorem i2b (O : On l Z ws R own nm bytes maxL ret C T h cells slots) {x : Int32} {r : Int32} (hd : decode bytes pc = .ok (.i2b, 1)) (hr : x.toInt8.toInt32 = r) (hq : pc + 1 = q)
    (K : Go C ws Q k n (T.setTop (mkF C.m q Ls (.int r :: st)))) : Go C ws Q k n (T.setTop (mkF C.m pc Ls (.int x :: st))) := by
  obtain ⟨⟨hx, -, rfl, -⟩, ⟨_, X, -⟩, -⟩ := O; subst hq hr
  exact K.of fun _ kk => XS.i2b X.here hx rfl hd rfl kk
theorem i2c (O : On l Z ws R own nm bytes maxL ret C T h cells slots) {x : Int32} {r : Int32} (hd : decode bytes pc = .ok (.i2c, 1)) (hr : x.toUInt32.toUInt16.toUInt32.toInt32 = r) (hq : pc + 1 = q)
    (K : Go C ws Q k n (T.setTop (mkF C.m q Ls (.int r :: st)))) : Go C ws Q k n (T.setTop (mkF C.m pc Ls (.int x :: st))) := by
  obtain ⟨⟨hx, -, rfl, -⟩, ⟨_, X, -⟩, -⟩ := O; subst hq hr
  exact K.of fun _ kk => XS.i2c X.here hx rfl hd rfl kk
theorem i2s (O : On l Z ws R own nm bytes maxL ret C T h cells slots) {x : Int32} {r : Int32} (hd : decode bytes pc = .ok (.i2s, 1)) (hr : x.toInt16.toInt32 = r) (hq : pc + 1 = q)
    (K : Go C ws Q k n (T.setTop (mkF C.m q Ls (.int r :: st)))) : Go C ws Q k n (T.setTop (mkF C.m pc Ls (.int x :: st))) := by
  obtain ⟨⟨hx, -, rfl, -⟩, ⟨_, X, -⟩, -⟩ := O; subst hq hr
  exact K.of fun _ kk => XS.i2s X.here hx rfl hd rfl kk
theorem lcmp (O : On l Z ws R own nm bytes maxL ret C T h cells slots) {x y : Int64} {r : Int32} (hd : decode bytes pc = .ok (.lcmp, 1)) (hr : lcmpW x y = r) (hq : pc + 1 = q)
    (K : Go C ws Q k n (T.setTop (mkF C.m q Ls (.int r :: st)))) : Go C ws Q k n (T.setTop (mkF C.m pc Ls (.long y :: .long x :: st))) := by
  obtain ⟨⟨hx, -, rfl, -⟩, ⟨_, X, -⟩, -⟩ := O; subst hq hr
  exact K.of fun _ kk => XS.lcmp X.here hx rfl hd rfl kk
theorem iinc (O : On l Z ws R own nm bytes maxL ret C T h cells slots) {i : Nat} {cst : Int} {x : Int32} (hd : decode bytes pc = .ok (.iinc i cst, 3)) (hl : Ls[i]? = some (.val (.int x))) (hl' : storeLocals Ls i (.int (x + Int32.ofInt cst)) = some L') (hq : pc + 3 = q)
    (K : Go C ws Q k n (T.setTop (mkF C.m q L' (st)))) : Go C ws Q k n (T.setTop (mkF C.m pc Ls (st))) := by
  obtain ⟨⟨hx, -, rfl, -⟩, ⟨_, X, -⟩, -⟩ := O; subst hq
  exact K.of fun _ kk => XS.iinc X.here hx rfl hd hl hl' kk
theorem dup (O : On l Z ws R own nm bytes maxL ret C T h cells slots) {v : Value} (hd : decode bytes pc = .ok (.dup, 1)) (hc : v.category = 1) (hq : pc + 1 = q)
    (K : Go C ws Q k n (T.setTop (mkF C.m q Ls (v :: v :: st)))) : Go C ws Q k n (T.setTop (mkF C.m pc Ls (v :: st))) := by
  obtain ⟨⟨hx, -, rfl, -⟩, ⟨_, X, -⟩, -⟩ := O; subst hq
  exact K.of fun _ kk => XS.dup X.here hx rfl hd rfl hc kk
theorem pop (O : On l Z ws R own nm bytes maxL ret C T h cells slots) {v : Value} (hd : decode bytes pc = .ok (.pop, 1)) (hc : v.category = 1) (hq : pc + 1 = q)
    (K : Go C ws Q k n (T.setTop (mkF C.m q Ls (st)))) : Go C ws Q k n (T.setTop (mkF C.m pc Ls (v :: st))) := by
  obtain ⟨⟨hx, -, rfl, -⟩, ⟨_, X, -⟩, -⟩ := O; subst hq
  exact K.of fun _ kk => XS.pop X.here hx rfl hd rfl hc kk
theorem dup_x1 (O : On l Z ws R own nm bytes maxL ret C T h cells slots) {v w : Value} (hd : decode bytes pc = .ok (.dup_x1, 1)) (hc : v.category = 1) (hc' : w.category = 1) (hq : pc + 1 = q)
    (K : Go C ws Q k n (T.setTop (mkF C.m q Ls (v :: w :: v :: st)))) : Go C ws Q k n (T.setTop (mkF C.m pc Ls (v :: w :: st))) := by
  obtain ⟨⟨hx, -, rfl, -⟩, ⟨_, X, -⟩, -⟩ := O; subst hq
  exact K.of fun _ kk => XS.dupX1 X.here hx rfl hd rfl hc hc' kk
theorem dup2 (O : On l Z ws R own nm bytes maxL ret C T h cells slots) {v w : Value} (hd : decode bytes pc = .ok (.dup2, 1)) (hc : v.category = 1) (hc' : w.category = 1) (hq : pc + 1 = q)
    (K : Go C ws Q k n (T.setTop (mkF C.m q Ls (v :: w :: v :: w :: st)))) : Go C ws Q k n (T.setTop (mkF C.m pc Ls (v :: w :: st))) := by
  obtain ⟨⟨hx, -, rfl, -⟩, ⟨_, X, -⟩, -⟩ := O; subst hq
  exact K.of fun _ kk => XT.dup2 X.here hx rfl hd rfl hc hc' kk
theorem dup2L (O : On l Z ws R own nm bytes maxL ret C T h cells slots) {v : Int64} (hd : decode bytes pc = .ok (.dup2, 1))  (hq : pc + 1 = q)
    (K : Go C ws Q k n (T.setTop (mkF C.m q Ls (.long v :: .long v :: st)))) : Go C ws Q k n (T.setTop (mkF C.m pc Ls (.long v :: st))) := by
  obtain ⟨⟨hx, -, rfl, -⟩, ⟨_, X, -⟩, -⟩ := O; subst hq
  exact K.of fun _ kk => XT.dup2L X.here hx rfl hd rfl kk
theorem goto (O : On l Z ws R own nm bytes maxL ret C T h cells slots)  {o : Int} (hd : decode bytes pc = .ok (.goto o, 3))  (ho : 0 ≤ (pc : Int) + o) (hq : ((pc : Int) + o).toNat = q)
    (K : Go C ws Q k n (T.setTop (mkF C.m q Ls st))) : Go C ws Q k n (T.setTop (mkF C.m pc Ls (st))) := by
  obtain ⟨⟨hx, -, rfl, -⟩, ⟨_, X, -⟩, -⟩ := O
  exact K.of fun _ kk => XS.goto X.here hx rfl (pc0 := pc) (pc' := q) rfl hd  ho hq kk
theorem ifYes (O : On l Z ws R own nm bytes maxL ret C T h cells slots) {cd : ClassFile.Cond} {x : Int32} {o : Int} (hd : decode bytes pc = .ok (.ifCond cd o, 3)) (hc : ifCond.holds cd x = true) (ho : 0 ≤ (pc : Int) + o) (hq : ((pc : Int) + o).toNat = q)
    (K : Go C ws Q k n (T.setTop (mkF C.m q Ls st))) : Go C ws Q k n (T.setTop (mkF C.m pc Ls (.int x :: st))) := by
  obtain ⟨⟨hx, -, rfl, -⟩, ⟨_, X, -⟩, -⟩ := O
  exact K.of fun _ kk => XS.ifYes X.here hx rfl (pc0 := pc) (pc' := q) rfl hd rfl hc ho hq kk
theorem icmpYes (O : On l Z ws R own nm bytes maxL ret C T h cells slots) {cd : ClassFile.Cond} {x y : Int32} {o : Int} (hd : decode bytes pc = .ok (.if_icmp cd o, 3)) (hc : if_icmp.holds cd x y = true) (ho : 0 ≤ (pc : Int) + o) (hq : ((pc : Int) + o).toNat = q)
    (K : Go C ws Q k n (T.setTop (mkF C.m q Ls st))) : Go C ws Q k n (T.setTop (mkF C.m pc Ls (.int y :: .int x :: st))) := by
  obtain ⟨⟨hx, -, rfl, -⟩, ⟨_, X, -⟩, -⟩ := O
  exact K.of fun _ kk => XS.icmpYes X.here hx rfl (pc0 := pc) (pc' := q) rfl hd rfl hc ho hq kk
theorem ifnullYes (O : On l Z ws R own nm bytes maxL ret C T h cells slots)  {o : Int} (hd : decode bytes pc = .ok (.ifnull o, 3))  (ho : 0 ≤ (pc : Int) + o) (hq : ((pc : Int) + o).toNat = q)
    (K : Go C ws Q k n (T.setTop (mkF C.m q Ls st))) : Go C ws Q k n (T.setTop (mkF C.m pc Ls (.null :: st))) := by
  obtain ⟨⟨hx, -, rfl, -⟩, ⟨_, X, -⟩, -⟩ := O
  exact K.of fun _ kk => XS.ifnullYes X.here hx rfl (pc0 := pc) (pc' := q) rfl hd rfl ho hq kk
theorem ifnonnullYes (O : On l Z ws R own nm bytes maxL ret C T h cells slots) {b : Addr} {o : Int} (hd : decode bytes pc = .ok (.ifnonnull o, 3))  (ho : 0 ≤ (pc : Int) + o) (hq : ((pc : Int) + o).toNat = q)
    (K : Go C ws Q k n (T.setTop (mkF C.m q Ls st))) : Go C ws Q k n (T.setTop (mkF C.m pc Ls (.ref b :: st))) := by
  obtain ⟨⟨hx, -, rfl, -⟩, ⟨_, X, -⟩, -⟩ := O
  exact K.of fun _ kk => XS.ifnonnullYes X.here hx rfl (pc0 := pc) (pc' := q) rfl hd rfl ho hq kk
theorem ifNo (O : On l Z ws R own nm bytes maxL ret C T h cells slots) {cd : ClassFile.Cond} {x : Int32} {o : Int} (hd : decode bytes pc = .ok (.ifCond cd o, 3)) (hc : ifCond.holds cd x = false) (hq : pc + 3 = q)
    (K : Go C ws Q k n (T.setTop (mkF C.m q Ls (st)))) : Go C ws Q k n (T.setTop (mkF C.m pc Ls (.int x :: st))) := by
  obtain ⟨⟨hx, -, rfl, -⟩, ⟨_, X, -⟩, -⟩ := O; subst hq
  exact K.of fun _ kk => XS.ifNo X.here hx rfl hd rfl hc kk
theorem icmpNo (O : On l Z ws R own nm bytes maxL ret C T h cells slots) {cd : ClassFile.Cond} {x y : Int32} {o : Int} (hd : decode bytes pc = .ok (.if_icmp cd o, 3)) (hc : if_icmp.holds cd x y = false) (hq : pc + 3 = q)
    (K : Go C ws Q k n (T.setTop (mkF C.m q Ls (st)))) : Go C ws Q k n (T.setTop (mkF C.m pc Ls (.int y :: .int x :: st))) := by
  obtain ⟨⟨hx, -, rfl, -⟩, ⟨_, X, -⟩, -⟩ := O; subst hq
  exact K.of fun _ kk => XS.icmpNo X.here hx rfl hd rfl hc kk
theorem ifnullNo (O : On l Z ws R own nm bytes maxL ret C T h cells slots) {b : Addr} {o : Int} (hd : decode bytes pc = .ok (.ifnull o, 3))  (hq : pc + 3 = q)
    (K : Go C ws Q k n (T.setTop (mkF C.m q Ls (st)))) : Go C ws Q k n (T.setTop (mkF C.m pc Ls (.ref b :: st))) := by
  obtain ⟨⟨hx, -, rfl, -⟩, ⟨_, X, -⟩, -⟩ := O; subst hq
  exact K.of fun _ kk => XS.ifnullNo X.here hx rfl hd rfl kk
theorem ifnonnullNo (O : On l Z ws R own nm bytes maxL ret C T h cells slots) {o : Int} (hd : decode bytes pc = .ok (.ifnonnull o, 3))  (hq : pc + 3 = q)
    (K : Go C ws Q k n (T.setTop (mkF C.m q Ls (st)))) : Go C ws Q k n (T.setTop (mkF C.m pc Ls (.null :: st))) := by
  obtain ⟨⟨hx, -, rfl, -⟩, ⟨_, X, -⟩, -⟩ := O; subst hq
  exact K.of fun _ kk => XS.ifnonnullNo X.here hx rfl hd rfl kk
theorem acmp (O : On l Z ws R own nm bytes maxL ret C T h cells slots) {cd : ACond} {x y : Value} {o : Int} {same : Bool} (hd : decode bytes pc = .ok (.if_acmp cd o, 3)) (h1 : x.isRef = true) (h2 : y.isRef = true) (hs : decide (x = y) = same) (ho : 0 ≤ (pc : Int) + o) (hq : q = if acV cd same = true then ((pc : Int) + o).toNat else pc + 3)
    (K : Go C ws Q k n (T.setTop (mkF C.m q Ls st))) : Go C ws Q k n (T.setTop (mkF C.m pc Ls (y :: x :: st))) := by
  obtain ⟨⟨hx, -, rfl, -⟩, ⟨_, X, -⟩, -⟩ := O
  exact K.of fun _ kk => Jvm.RoadKit.acmp (g := mkF C.m pc Ls (y :: x :: st)) X hx rfl h1 h2 (pc0 := pc) (pc' := q) rfl hd rfl hs ho hq kk
theorem ldcI (O : On l Z ws R own nm bytes maxL ret C T h cells slots) {i : Nat} {v : Int32} (hd : decode bytes pc = .ok (.ldc i, 2)) (w : (Cond.constant own i v).before a0 Z = true) (hq : pc + 2 = q)
    (K : Go C ws Q k n (T.setTop (mkF C.m q Ls (.int v :: st)))) : Go C ws Q k n (T.setTop (mkF C.m pc Ls st)) := by
  obtain ⟨⟨hx, hZ, rfl, -, hown, -⟩, ⟨_, X, -⟩, -⟩ := O; subst hq
  exact K.of fun _ kk => X.ldcInt hx hown (mvT hZ w) (g := mkF C.m pc Ls st) rfl hd _ kk
theorem ldcwI (O : On l Z ws R own nm bytes maxL ret C T h cells slots) {i : Nat} {v : Int32} (hd : decode bytes pc = .ok (.ldc_w i, 3)) (w : (Cond.constant own i v).before a0 Z = true) (hq : pc + 3 = q)
    (K : Go C ws Q k n (T.setTop (mkF C.m q Ls (.int v :: st)))) : Go C ws Q k n (T.setTop (mkF C.m pc Ls st)) := by
  obtain ⟨⟨hx, hZ, rfl, -, hown, -⟩, ⟨_, X, -⟩, -⟩ := O; subst hq
  exact K.of fun _ kk => X.ldcwInt hx hown (mvT hZ w) (g := mkF C.m pc Ls st) rfl hd _ kk
theorem ldcL (O : On l Z ws R own nm bytes maxL ret C T h cells slots) {i : Nat} {v : Int64} (hd : decode bytes pc = .ok (.ldc2_w i, 3)) (w : (Cond.constantLong own i v).before a0 Z = true) (hq : pc + 3 = q)
    (K : Go C ws Q k n (T.setTop (mkF C.m q Ls (.long v :: st)))) : Go C ws Q k n (T.setTop (mkF C.m pc Ls st)) := by
  obtain ⟨⟨hx, hZ, rfl, -, hown, -⟩, ⟨_, X, -⟩, -⟩ := O; subst hq
  exact K.of fun _ kk => X.ldc2Long hx hown (mvT hZ w) (g := mkF C.m pc Ls st) rfl hd _ kk
theorem getF (O : On l Z ws R own nm bytes maxL ret C T h cells slots) {i : Nat} {R0 D f d host : String} {a : Addr} {v : Value} (hd : decode bytes pc = .ok (.getfield i, 3)) (w : (Cond.fieldLink own i R0 f d).before a0 Z = true ∨ (Cond.fieldLinkNest own i R0 f d host).before a0 Z = true) (via : Via Z R0 D f d) (F : Fld Z h a D f d v) (hq : pc + 3 = q)
    (K : ∀ T', On l Z ws R own nm bytes maxL ret C T' h cells slots → Go C ws Q k n (T'.setTop (mkF C.m q Ls (v :: st)))) : Go C ws Q k n (T.setTop (mkF C.m pc Ls (.ref a :: st))) := by
  obtain ⟨⟨hx, hZ, rfl, r1, hown, r2⟩, ⟨_, X, N⟩, eT⟩ := O; subst hq
  obtain ⟨T', X', e', stp⟩ := Jvm.RoadKit.getF X hx hZ hown w via eT F (g := mkF C.m pc Ls (.ref a :: st)) rfl rfl hd
  exact (K T' ⟨⟨hx, hZ, rfl, r1, hown, r2⟩, ⟨_, X', N⟩, e'⟩).of fun _ kk => stp _ kk
theorem getS (O : On l Z ws R own nm bytes maxL ret C T h cells slots) {i : Nat} {D f d : String} {v : Value} (hd : decode bytes pc = .ok (.getstatic i, 3)) (w : (Cond.fieldLink own i D f d).before a0 Z = true) (F : Sta Z h D f d v) (hq : pc + 3 = q)
    (K : ∀ T', On l Z ws R own nm bytes maxL ret C T' h cells slots → Go C ws Q k n (T'.setTop (mkF C.m q Ls (v :: st)))) : Go C ws Q k n (T.setTop (mkF C.m pc Ls st)) := by
  obtain ⟨⟨hx, hZ, rfl, r1, hown, r2⟩, ⟨_, X, N⟩, eT⟩ := O; subst hq
  obtain ⟨T', X', e', stp⟩ := Jvm.RoadKit.getS (host := "") X hx hZ hown w Via.refl eT F (g := mkF C.m pc Ls st) rfl hd
  exact (K T' ⟨⟨hx, hZ, rfl, r1, hown, r2⟩, ⟨_, X', N⟩, e'⟩).of fun _ kk => stp _ kk
theorem putF (O : On l Z ws R own nm bytes maxL ret C T h cells slots) {i kk : Nat} {R0 D f d host K0 : String} {ty : FieldType} {a : Addr} {v old : Value} (hd : decode bytes pc = .ok (.putfield i, 3)) (w : (Cond.fieldLink own i R0 f d).before a0 Z = true ∨ (Cond.fieldLinkNest own i R0 f d host).before a0 Z = true) (via : Via Z R0 D f d)
    (F : Fld Z h a D f d old) (E : Exa Z h a K0) (L : (Cond.lays K0 D f d).before a0 Z = true ∨ ((Cond.laysFinal K0 D f d).before a0 Z = true ∧ own = D ∧ nm = "<init>")) (wi : (Cond.instantiable K0 kk).before a0 Z = true) (hty : parseFieldDescriptor d = some ty) (hn : narrow ty v = v) (hf : fits ty v = true) (ha : a ∈ ws ∨ C.s.heap.size ≤ a) (hq : pc + 3 = q)
    (K : ∀ T' h', On l Z ws R own nm bytes maxL ret C T' h' cells slots → Wr h h' a (Jvm.RoadKit.slotOf Z D f d) v → Go C ws Q k n (T'.setTop (mkF C.m q Ls st))) : Go C ws Q k n (T.setTop (mkF C.m pc Ls (v :: .ref a :: st))) := by
  obtain ⟨⟨hx, hZ, rfl, r1, hown, hnm, r2⟩, ⟨_, X, N⟩, eT⟩ := O; subst hq
  obtain ⟨T', h', X', e', W, stp⟩ := Jvm.RoadKit.putF X hx hZ hown w via eT F E (L.imp id fun q => ⟨q.1, q.2.1, hnm.trans q.2.2⟩) wi hty hn hf (g := mkF C.m pc Ls (v :: .ref a :: st)) rfl rfl hd
  exact (K T' h' ⟨⟨hx, hZ, rfl, r1, hown, hnm, r2⟩, ⟨_, X', N.snoc ha⟩, e'⟩ W).of fun _ kk => stp _ kk
theorem newO (O : On l Z ws R own nm bytes maxL ret C T h cells slots) {i ns c2 s2 : Nat} {K0 : String} (hd : decode bytes pc = .ok (.new i, 3)) (w : (Cond.classLink own i K0).before a0 Z = true) (wi : (Cond.instantiable K0 ns).before a0 Z = true) (wz : (Cond.initialized K0).before a0 Z = true) (hc2 : cells + 1 = c2) (hs2 : slots + ns = s2) (hc : c2 ≤ R.cells) (hl : s2 ≤ R.slots) (hq : pc + 3 = q)
    (K : ∀ a T' h', a = h.size → C.s.heap.size ≤ a → On l Z ws R own nm bytes maxL ret C T' h' c2 s2 → Ext h h' → Exa Z h' a K0 → (∀ {O nm d : String} {ty : FieldType}, Laid Z a0 K0 O nm d → parseFieldDescriptor d = some ty → Fld Z h' a O nm d (defaultValue ty)) → Go C ws Q k n (T'.setTop (mkF C.m q Ls (.ref a :: st)))) : Go C ws Q k n (T.setTop (mkF C.m pc Ls st)) := by
  obtain ⟨⟨hx, hZ, rfl, r1, hown, r2⟩, ⟨_, X, N⟩, eT⟩ := O; subst hq hc2 hs2
  obtain ⟨T', h', X', e', E, A, D, -, stp⟩ := Jvm.RoadKit.newO X hx hZ hown w wi wz eT (g := mkF C.m pc Ls st) rfl hd hc hl
  exact (K _ T' h' rfl (eT ▸ X.same.2.1) ⟨⟨hx, hZ, rfl, r1, hown, r2⟩, ⟨_, X', N⟩, e'⟩ E A D).of fun _ kk => stp _ kk
theorem newP (O : On l Z ws R own nm bytes maxL ret C T h cells slots) {aty : ArrayType} {c2 s2 : Nat} (hd : decode bytes pc = .ok (.newarray aty, 2)) (w : (Cond.arrayClass (newarray.typeOf aty)).before a0 Z = true) {z : Int32} (hn : ¬ z < 0) {cap : Nat} (hcap : z.toNatClampNeg ≤ cap) (hb : cap * 8 ≤ 536870912) (hc2 : cells + 1 = c2) (hs2 : slots + cap = s2) (hc : c2 ≤ R.cells) (hl : s2 ≤ R.slots) (hq : pc + 2 = q)
    (K : ∀ a T' h' cA, a = h.size → C.s.heap.size ≤ a → On l Z ws R own nm bytes maxL ret C T' h' c2 s2 → Ext h h' → Arr Z h' a (newA cA (newarray.typeOf aty) z) (newarray.typeOf aty) → Go C ws Q k n (T'.setTop (mkF C.m q Ls (.ref a :: st)))) : Go C ws Q k n (T.setTop (mkF C.m pc Ls (.int z :: st))) := by
  obtain ⟨⟨hx, hZ, rfl, r1, hown, r2⟩, ⟨_, X, N⟩, eT⟩ := O; subst hq hc2 hs2
  obtain ⟨T', h', cA, X', e', E, A, stp⟩ := Jvm.RoadKit.newP X hx hZ w eT (g := mkF C.m pc Ls (.int z :: st)) rfl hd rfl hn hcap hb hc hl
  exact (K _ T' h' cA rfl (eT ▸ X.same.2.1) ⟨⟨hx, hZ, rfl, r1, hown, r2⟩, ⟨_, X', N⟩, e'⟩ E A).of fun _ kk => stp _ kk
theorem initO (O : On l Z ws R own nm bytes maxL ret C T h cells slots) {i : Nat} {a : Addr} (hd : decode bytes pc = .ok (.invokespecial i, 3)) (w1 : (Cond.methodLink own i Lib.objectInit).before a0 Z = true) (w2 : (Cond.instanceMethod Lib.objectInit).before a0 Z = true) (w3 : (Cond.code Lib.objectInit ⟨#[0xb1]⟩ 1 none).before a0 Z = true) (hsz : Ls.size = maxL) (hf : 1 ≤ R.frames) {W : Nat} (hW : (st.map fun v => v.category).sum ≤ W) (hl : W + 12 ≤ R.locals) (hq : pc + 3 = q)
    (K : ∀ T', On l Z ws R own nm bytes maxL ret C T' h cells slots → Go C ws Q k n (T'.setTop (mkF C.m q Ls st))) : Go C ws Q k n (T.setTop (mkF C.m pc Ls (.ref a :: st))) := by
  obtain ⟨⟨hx, hZ, rfl, r1, hown, r2⟩, ⟨_, X, N⟩, eT⟩ := O; subst hq
  obtain ⟨T', X', e', stp⟩ := Jvm.RoadKit.initO X hx hZ hown w1 w2 w3 eT (g := mkF C.m pc Ls (.ref a :: st)) rfl (hsz.trans r1.symm) rfl hd hf (W := W) (by show 2 * 0 + _ ≤ _; rw [Nat.mul_zero, Nat.zero_add]; exact hW) hl
  exact (K T' ⟨⟨hx, hZ, rfl, r1, hown, r2⟩, ⟨_, X', N⟩, e'⟩).of fun _ kk => stp _ kk
theorem iaload (O : On l Z ws R own nm bytes maxL ret C T h cells slots) {a : Addr} {cl : Cell} {j : Int32} {v : Value} (hd : decode bytes pc = .ok (.iaload, 1)) (A : Arr Z h a cl .int) (hin : ¬ (j < 0 ∨ cl.slots.size ≤ j.toNatClampNeg)) (hv : cl.slots[j.toNatClampNeg]? = some v) (hq : pc + 1 = q)
    (K : Go C ws Q k n (T.setTop (mkF C.m q Ls (v :: st)))) : Go C ws Q k n (T.setTop (mkF C.m pc Ls (.int j :: .ref a :: st))) := by
  obtain ⟨⟨hx, hZ, rfl, -⟩, ⟨_, X, N⟩, eT⟩ := O; subst hq
  exact K.of fun _ kk => X.iaload hx (by rw [eT]; exact A.1) (State.isArrayOf_alike hZ.alike A.2.1) A.2.2 hin hv (g := mkF C.m pc Ls (.int j :: .ref a :: st)) rfl rfl hd _ kk
theorem laload (O : On l Z ws R own nm bytes maxL ret C T h cells slots) {a : Addr} {cl : Cell} {j : Int32} {v : Value} (hd : decode bytes pc = .ok (.laload, 1)) (A : Arr Z h a cl .long) (hin : ¬ (j < 0 ∨ cl.slots.size ≤ j.toNatClampNeg)) (hv : cl.slots[j.toNatClampNeg]? = some v) (hq : pc + 1 = q)
    (K : Go C ws Q k n (T.setTop (mkF C.m q Ls (v :: st)))) : Go C ws Q k n (T.setTop (mkF C.m pc Ls (.int j :: .ref a :: st))) := by
  obtain ⟨⟨hx, hZ, rfl, -⟩, ⟨_, X, N⟩, eT⟩ := O; subst hq
  exact K.of fun _ kk => X.laload hx (by rw [eT]; exact A.1) (State.isArrayOf_alike hZ.alike A.2.1) A.2.2 hin hv (g := mkF C.m pc Ls (.int j :: .ref a :: st)) rfl rfl hd _ kk
theorem baload (O : On l Z ws R own nm bytes maxL ret C T h cells slots) {a : Addr} {cl : Cell} {j : Int32} {v : Value} (hd : decode bytes pc = .ok (.baload, 1)) (A : Arr Z h a cl .byte) (hin : ¬ (j < 0 ∨ cl.slots.size ≤ j.toNatClampNeg)) (hv : cl.slots[j.toNatClampNeg]? = some v) (hq : pc + 1 = q)
    (K : Go C ws Q k n (T.setTop (mkF C.m q Ls (v :: st)))) : Go C ws Q k n (T.setTop (mkF C.m pc Ls (.int j :: .ref a :: st))) := by
  obtain ⟨⟨hx, hZ, rfl, -⟩, ⟨_, X, N⟩, eT⟩ := O; subst hq
  exact K.of fun _ kk => X.baloadBytes hx (by rw [eT]; exact A.1) (State.isArrayOf_alike hZ.alike A.2.1) A.2.2 hin hv (g := mkF C.m pc Ls (.int j :: .ref a :: st)) rfl rfl hd _ kk
theorem aaload (O : On l Z ws R own nm bytes maxL ret C T h cells slots) {a : Addr} {cl : Cell} {ty : FieldType} {j : Int32} {v : Value} (hd : decode bytes pc = .ok (.aaload, 1)) (A : Arr Z h a cl ty) (hty : ty.isReference = true) (hin : ¬ (j < 0 ∨ cl.slots.size ≤ j.toNatClampNeg)) (hv : cl.slots[j.toNatClampNeg]? = some v) (hq : pc + 1 = q)
    (K : Go C ws Q k n (T.setTop (mkF C.m q Ls (v :: st)))) : Go C ws Q k n (T.setTop (mkF C.m pc Ls (.int j :: .ref a :: st))) := by
  obtain ⟨⟨hx, hZ, rfl, -⟩, ⟨_, X, N⟩, eT⟩ := O; subst hq
  exact K.of fun _ kk => X.aaload hx (by rw [eT]; exact A.1) (State.isArrayOf_alike hZ.alike A.2.1) hty A.2.2 hin hv (g := mkF C.m pc Ls (.int j :: .ref a :: st)) rfl rfl hd _ kk
theorem arraylength (O : On l Z ws R own nm bytes maxL ret C T h cells slots) {a : Addr} {cl : Cell} {ty : FieldType} {z : Int32} (hd : decode bytes pc = .ok (.arraylength, 1)) (A : Arr Z h a cl ty) (hz : cl.slots.size.toInt32 = z) (hq : pc + 1 = q)
    (K : Go C ws Q k n (T.setTop (mkF C.m q Ls (.int z :: st)))) : Go C ws Q k n (T.setTop (mkF C.m pc Ls (.ref a :: st))) := by
  obtain ⟨⟨hx, hZ, rfl, -⟩, ⟨_, X, N⟩, eT⟩ := O; subst hq hz
  exact K.of fun _ kk => X.arraylength hx (by rw [eT]; exact A.1) (State.isArrayOf_alike hZ.alike A.2.1) (g := mkF C.m pc Ls (.ref a :: st)) rfl rfl hd _ kk
theorem iastore (O : On l Z ws R own nm bytes maxL ret C T h cells slots) {a : Addr} {cl : Cell} {j : Int32} {x : Int32} (hd : decode bytes pc = .ok (.iastore, 1)) (A : Arr Z h a cl .int) (hin : ¬ (j < 0 ∨ cl.slots.size ≤ j.toNatClampNeg)) (ha : a ∈ ws ∨ C.s.heap.size ≤ a) (hq : pc + 1 = q)
    (K : ∀ T' h', On l Z ws R own nm bytes maxL ret C T' h' cells slots → Wr h h' a j.toNatClampNeg (.int x) → Go C ws Q k n (T'.setTop (mkF C.m q Ls st))) : Go C ws Q k n (T.setTop (mkF C.m pc Ls (.int x :: .int j :: .ref a :: st))) := by
  obtain ⟨⟨hx, hZ, rfl, r1, hown, r2⟩, ⟨_, X, N⟩, eT⟩ := O; subst hq
  obtain ⟨T', h', X', e', W, stp⟩ := Jvm.RoadKit.stI X hx hZ eT A hin (g := mkF C.m pc Ls (.int x :: .int j :: .ref a :: st)) rfl rfl hd
  exact (K T' h' ⟨⟨hx, hZ, rfl, r1, hown, r2⟩, ⟨_, X', N.snoc ha⟩, e'⟩ W).of fun _ kk => stp _ kk
theorem lastore (O : On l Z ws R own nm bytes maxL ret C T h cells slots) {a : Addr} {cl : Cell} {j : Int32} {x : Int64} (hd : decode bytes pc = .ok (.lastore, 1)) (A : Arr Z h a cl .long) (hin : ¬ (j < 0 ∨ cl.slots.size ≤ j.toNatClampNeg)) (ha : a ∈ ws ∨ C.s.heap.size ≤ a) (hq : pc + 1 = q)
    (K : ∀ T' h', On l Z ws R own nm bytes maxL ret C T' h' cells slots → Wr h h' a j.toNatClampNeg (.long x) → Go C ws Q k n (T'.setTop (mkF C.m q Ls st))) : Go C ws Q k n (T.setTop (mkF C.m pc Ls (.long x :: .int j :: .ref a :: st))) := by
  obtain ⟨⟨hx, hZ, rfl, r1, hown, r2⟩, ⟨_, X, N⟩, eT⟩ := O; subst hq
  obtain ⟨T', h', X', e', W, stp⟩ := Jvm.RoadKit.stJ X hx hZ eT A hin (g := mkF C.m pc Ls (.long x :: .int j :: .ref a :: st)) rfl rfl hd
  exact (K T' h' ⟨⟨hx, hZ, rfl, r1, hown, r2⟩, ⟨_, X', N.snoc ha⟩, e'⟩ W).of fun _ kk => stp _ kk
theorem bastore (O : On l Z ws R own nm bytes maxL ret C T h cells slots) {a : Addr} {cl : Cell} {j : Int32} {x : Int32} (hd : decode bytes pc = .ok (.bastore, 1)) (A : Arr Z h a cl .byte) (hin : ¬ (j < 0 ∨ cl.slots.size ≤ j.toNatClampNeg)) (ha : a ∈ ws ∨ C.s.heap.size ≤ a) (hq : pc + 1 = q)
    (K : ∀ T' h', On l Z ws R own nm bytes maxL ret C T' h' cells slots → Wr h h' a j.toNatClampNeg (.int (nar .byte x)) → Go C ws Q k n (T'.setTop (mkF C.m q Ls st))) : Go C ws Q k n (T.setTop (mkF C.m pc Ls (.int x :: .int j :: .ref a :: st))) := by
  obtain ⟨⟨hx, hZ, rfl, r1, hown, r2⟩, ⟨_, X, N⟩, eT⟩ := O; subst hq
  obtain ⟨T', h', X', e', W, stp⟩ := Jvm.RoadKit.stB X hx hZ eT A hin (g := mkF C.m pc Ls (.int x :: .int j :: .ref a :: st)) rfl rfl hd
  exact (K T' h' ⟨⟨hx, hZ, rfl, r1, hown, r2⟩, ⟨_, X', N.snoc ha⟩, e'⟩ W).of fun _ kk => stp _ kk
theorem callS (O : On l Z ws R own nm bytes maxL ret C T h cells slots) {i : Nat} {y : MethodName} {yb : ByteArray} {yl : Nat} {yr : Option FieldType} {rm : Room} {argsL rest : List Value} {wsc : List Addr} {Qc : Option Value → Heap → Prop} {ps : List FieldType} {rr : Option FieldType} {W c2 s2 : Nat}
    (hd : decode bytes pc = .ok (.invokestatic i, 3)) (w1 : (Cond.methodLink own i y).before a0 Z = true) (w2 : (Cond.static y).before a0 Z = true) (w3 : (Cond.initialized y.cls).before a0 Z = true) (w4 : (Cond.code y yb yl yr).before a0 Z = true) (hy : y.cls ≠ "java/lang/invoke/MethodHandle" ∧ y.cls ≠ "java/lang/invoke/VarHandle")
    (hM : Met l Z y yb yl yr [] rm (argsL).toArray wsc h Qc) (hsz : Ls.size = maxL) (hpd : parseMethodDescriptor y.desc = some ⟨ps, rr⟩) (hlen : argsL.length = ps.length) (hst : st = argsL.reverse ++ rest) (hW : (rest.map fun v => v.category).sum ≤ W)
    (hf : rm.frames + 1 ≤ R.frames) (hl : W + (yl + 11) + rm.locals ≤ R.locals) (hc2 : cells + rm.cells = c2) (hs2 : slots + rm.slots = s2) (hcl : c2 ≤ R.cells) (hsl : s2 ≤ R.slots) (hws : ∀ x ∈ wsc, x ∈ ws ∨ C.s.heap.size ≤ x) (hq : pc + 3 = q)
    (K : ∀ v T' h', On l Z ws R own nm bytes maxL ret C T' h' c2 s2 → Keep h h' wsc → Qc v h' → Go C ws Q k n (T'.setTop (mkF C.m q Ls (v.toList ++ rest)))) : Go C ws Q k n (T.setTop (mkF C.m pc Ls st)) := by
  obtain ⟨⟨hx, hZ, rfl, r1, hown, r2⟩, ⟨locs, X, N⟩, eT⟩ := O; subst hq hc2 hs2
  obtain ⟨v, _, ⟨T', L', k', n'⟩, -, X', ⟨Lc, hQ, l', y', z'⟩, stp⟩ := Jvm.LawKit.callS X hx (y := y) hown (mvT hZ w1) (mvT hZ w2) (mvT hZ w3) (mvT hZ w4) hy (backOf (W := W) (Q := Post wsc rm.cells h Qc) hM hZ w4 w3 hf hl) (g := mkF C.m pc Ls st) rfl (hsz.trans r1.symm) (argsL := argsL) (rest := rest) (lenOf hpd hlen) hst (by show 2 * 0 + _ ≤ _; rw [Nat.mul_zero, Nat.zero_add]; exact hW) hd (fun _ _ => ⟨rfl, eT, hcl, hsl⟩)
  dsimp only [Pt.U, Pt.locs, Pt.cells, Pt.slots] at X' l' y' z' stp hQ
  subst l' y' z'
  obtain ⟨hF, hK, hE, hQ⟩ := hQ
  have hb : C.s.heap.size ≤ h.size := eT ▸ X.same.2.1
  exact (K v T' T'.heap ⟨⟨hx, hZ, rfl, r1, hown, r2⟩, ⟨_, X', N.app fun y hy => (hF y hy).elim (hws _) fun z => Or.inr (Nat.le_trans hb z)⟩, rfl⟩ hK hQ).of fun _ kk => stp _ kk
theorem callS0 (O : On l Z ws R own nm bytes maxL ret C T h cells slots) {i : Nat} {y : MethodName} {yb : ByteArray} {yl : Nat} {yr : Option FieldType} {rm : Room} {argsL rest : List Value} {wsc : List Addr} {Qc : Option Value → Heap → Prop} {ps : List FieldType} {rr : Option FieldType} {W c2 s2 : Nat}
    (hd : decode bytes pc = .ok (.invokestatic i, 3)) (w1 : (Cond.methodLink own i y).before a0 Z = true) (w2 : (Cond.static y).before a0 Z = true) (w3 : (Cond.initialized y.cls).before a0 Z = true) (w4 : (Cond.code y yb yl yr).before a0 Z = true) (hy : y.cls ≠ "java/lang/invoke/MethodHandle" ∧ y.cls ≠ "java/lang/invoke/VarHandle")
    (hM : Met l Z y yb yl yr [] rm (argsL).toArray wsc h Qc) (hsz : Ls.size = maxL) (hpd : parseMethodDescriptor y.desc = some ⟨ps, rr⟩) (hlen : argsL.length = ps.length) (hst : st = argsL.reverse ++ rest) (hW : (rest.map fun v => v.category).sum ≤ W)
    (hf : rm.frames + 1 ≤ R.frames) (hl : W + (yl + 11) + rm.locals ≤ R.locals) (hc2 : cells + rm.cells = c2) (hs2 : slots + rm.slots = s2) (hcl : c2 ≤ R.cells) (hsl : s2 ≤ R.slots) (hrc : rm.cells = 0) (hwc : wsc = []) (hq : pc + 3 = q)
    (K : ∀ v T', On l Z ws R own nm bytes maxL ret C T' h c2 s2 → Qc v h → Go C ws Q k n (T'.setTop (mkF C.m q Ls (v.toList ++ rest)))) : Go C ws Q k n (T.setTop (mkF C.m pc Ls st)) := by
  obtain ⟨⟨hx, hZ, rfl, r1, hown, r2⟩, ⟨locs, X, N⟩, eT⟩ := O; subst hq hc2 hs2
  obtain ⟨v, _, ⟨T', L', k', n'⟩, -, X', ⟨Lc, hQ, l', y', z'⟩, stp⟩ := Jvm.LawKit.callS X hx (y := y) hown (mvT hZ w1) (mvT hZ w2) (mvT hZ w3) (mvT hZ w4) hy (backOf (W := W) (Q := Post wsc rm.cells h Qc) hM hZ w4 w3 hf hl) (g := mkF C.m pc Ls st) rfl (hsz.trans r1.symm) (argsL := argsL) (rest := rest) (lenOf hpd hlen) hst (by show 2 * 0 + _ ≤ _; rw [Nat.mul_zero, Nat.zero_add]; exact hW) hd (fun _ _ => ⟨rfl, eT, hcl, hsl⟩)
  dsimp only [Pt.U, Pt.locs, Pt.cells, Pt.slots] at X' l' y' z' stp hQ
  subst l' y' z'
  obtain ⟨hF, hK, hE, hQ⟩ := hQ
  have hb : C.s.heap.size ≤ h.size := eT ▸ X.same.2.1
  have he : T'.heap = h := hE hrc hwc
  refine (K v T' ⟨⟨hx, hZ, rfl, r1, hown, r2⟩, ⟨_, X', N.app fun y hy => (hF y hy).elim (fun z => by rw [hwc] at z; cases z) fun z => Or.inr (Nat.le_trans hb z)⟩, he⟩ (he ▸ hQ)).of fun _ kk => stp _ kk
theorem callI (O : On l Z ws R own nm bytes maxL ret C T h cells slots) {i : Nat} {y : MethodName} {yb : ByteArray} {yl : Nat} {rm : Room} {argsL rest : List Value} {wsc : List Addr} {Qc : Option Value → Heap → Prop} {ps : List FieldType} {rr : Option FieldType} {W c2 s2 : Nat} {a : Addr}
    (hd : decode bytes pc = .ok (.invokespecial i, 3)) (hy1 : y.name = "<init>") (w1 : (Cond.methodLink own i y).before a0 Z = true) (w2 : (Cond.instanceMethod y).before a0 Z = true) (w3 : (Cond.initialized y.cls).before a0 Z = true) (w4 : (Cond.code y yb yl none).before a0 Z = true) (hy : y.cls ≠ "java/lang/invoke/MethodHandle" ∧ y.cls ≠ "java/lang/invoke/VarHandle")
    (hM : Met l Z y yb yl none [] rm (Value.ref a :: argsL).toArray wsc h Qc) (hsz : Ls.size = maxL) (hpd : parseMethodDescriptor y.desc = some ⟨ps, rr⟩) (hlen : argsL.length = ps.length) (hst : st = argsL.reverse ++ .ref a :: rest) (hW : (rest.map fun v => v.category).sum ≤ W)
    (hf : rm.frames + 1 ≤ R.frames) (hl : W + (yl + 11) + rm.locals ≤ R.locals) (hc2 : cells + rm.cells = c2) (hs2 : slots + rm.slots = s2) (hcl : c2 ≤ R.cells) (hsl : s2 ≤ R.slots) (hws : ∀ x ∈ wsc, x ∈ ws ∨ C.s.heap.size ≤ x) (hq : pc + 3 = q)
    (K : ∀ v T' h', On l Z ws R own nm bytes maxL ret C T' h' c2 s2 → Keep h h' wsc → Qc v h' → Go C ws Q k n (T'.setTop (mkF C.m q Ls (v.toList ++ rest)))) : Go C ws Q k n (T.setTop (mkF C.m pc Ls st)) := by
  obtain ⟨⟨hx, hZ, rfl, r1, hown, r2⟩, ⟨locs, X, N⟩, eT⟩ := O; subst hq hc2 hs2
  obtain ⟨v, _, ⟨T', L', k', n'⟩, -, X', ⟨Lc, hQ, l', y', z'⟩, stp⟩ := X.specialBack hx (y := y) hy1 hown (mvT hZ w1) (mvT hZ w2) (mvT hZ w4) hy (backOf (W := W) (Q := Post wsc rm.cells h Qc) hM hZ w4 w3 hf hl) (g := mkF C.m pc Ls st) rfl (hsz.trans r1.symm) (Steps.refl _) (a := a) (argsL := argsL) (rest := rest) (lenOf hpd hlen) hst (by show 2 * 0 + _ ≤ _; rw [Nat.mul_zero, Nat.zero_add]; exact hW) hd (fun _ _ => ⟨rfl, eT, hcl, hsl⟩)
  dsimp only [Pt.U, Pt.locs, Pt.cells, Pt.slots] at X' l' y' z' stp hQ
  subst l' y' z'
  obtain ⟨hF, hK, hE, hQ⟩ := hQ
  have hb : C.s.heap.size ≤ h.size := eT ▸ X.same.2.1
  exact (K v T' T'.heap ⟨⟨hx, hZ, rfl, r1, hown, r2⟩, ⟨_, X', N.app fun y hy => (hF y hy).elim (hws _) fun z => Or.inr (Nat.le_trans hb z)⟩, rfl⟩ hK hQ).via (stp)
theorem callI0 (O : On l Z ws R own nm bytes maxL ret C T h cells slots) {i : Nat} {y : MethodName} {yb : ByteArray} {yl : Nat} {rm : Room} {argsL rest : List Value} {wsc : List Addr} {Qc : Option Value → Heap → Prop} {ps : List FieldType} {rr : Option FieldType} {W c2 s2 : Nat} {a : Addr}
    (hd : decode bytes pc = .ok (.invokespecial i, 3)) (hy1 : y.name = "<init>") (w1 : (Cond.methodLink own i y).before a0 Z = true) (w2 : (Cond.instanceMethod y).before a0 Z = true) (w3 : (Cond.initialized y.cls).before a0 Z = true) (w4 : (Cond.code y yb yl none).before a0 Z = true) (hy : y.cls ≠ "java/lang/invoke/MethodHandle" ∧ y.cls ≠ "java/lang/invoke/VarHandle")
    (hM : Met l Z y yb yl none [] rm (Value.ref a :: argsL).toArray wsc h Qc) (hsz : Ls.size = maxL) (hpd : parseMethodDescriptor y.desc = some ⟨ps, rr⟩) (hlen : argsL.length = ps.length) (hst : st = argsL.reverse ++ .ref a :: rest) (hW : (rest.map fun v => v.category).sum ≤ W)
    (hf : rm.frames + 1 ≤ R.frames) (hl : W + (yl + 11) + rm.locals ≤ R.locals) (hc2 : cells + rm.cells = c2) (hs2 : slots + rm.slots = s2) (hcl : c2 ≤ R.cells) (hsl : s2 ≤ R.slots) (hrc : rm.cells = 0) (hwc : wsc = []) (hq : pc + 3 = q)
    (K : ∀ v T', On l Z ws R own nm bytes maxL ret C T' h c2 s2 → Qc v h → Go C ws Q k n (T'.setTop (mkF C.m q Ls (v.toList ++ rest)))) : Go C ws Q k n (T.setTop (mkF C.m pc Ls st)) := by
  obtain ⟨⟨hx, hZ, rfl, r1, hown, r2⟩, ⟨locs, X, N⟩, eT⟩ := O; subst hq hc2 hs2
  obtain ⟨v, _, ⟨T', L', k', n'⟩, -, X', ⟨Lc, hQ, l', y', z'⟩, stp⟩ := X.specialBack hx (y := y) hy1 hown (mvT hZ w1) (mvT hZ w2) (mvT hZ w4) hy (backOf (W := W) (Q := Post wsc rm.cells h Qc) hM hZ w4 w3 hf hl) (g := mkF C.m pc Ls st) rfl (hsz.trans r1.symm) (Steps.refl _) (a := a) (argsL := argsL) (rest := rest) (lenOf hpd hlen) hst (by show 2 * 0 + _ ≤ _; rw [Nat.mul_zero, Nat.zero_add]; exact hW) hd (fun _ _ => ⟨rfl, eT, hcl, hsl⟩)
  dsimp only [Pt.U, Pt.locs, Pt.cells, Pt.slots] at X' l' y' z' stp hQ
  subst l' y' z'
  obtain ⟨hF, hK, hE, hQ⟩ := hQ
  have hb : C.s.heap.size ≤ h.size := eT ▸ X.same.2.1
  have he : T'.heap = h := hE hrc hwc
  refine (K v T' ⟨⟨hx, hZ, rfl, r1, hown, r2⟩, ⟨_, X', N.app fun y hy => (hF y hy).elim (fun z => by rw [hwc] at z; cases z) fun z => Or.inr (Nat.le_trans hb z)⟩, he⟩ (he ▸ hQ)).via (stp)
theorem callV (O : On l Z ws R own nm bytes maxL ret C T h cells slots) {i : Nat} {y z : MethodName} {yb : ByteArray} {yl : Nat} {yr : Option FieldType} {rm : Room} {argsL rest : List Value} {wsc : List Addr} {Qc : Option Value → Heap → Prop} {ps : List FieldType} {rr : Option FieldType} {W c2 s2 : Nat} {a : Addr} {K0 : String}
    (hd : decode bytes pc = .ok (.invokevirtual i, 3)) (w1 : (Cond.methodLink own i y).before a0 Z = true) (wd : (Cond.declares y).before a0 Z = true) (ws1 : (Cond.selects K0 y z).before a0 Z = true) (hyz : y = z) (w2 : (Cond.instanceMethod z).before a0 Z = true) (w3 : (Cond.initialized z.cls).before a0 Z = true) (w4 : (Cond.code z yb yl yr).before a0 Z = true) (hy : y.cls ≠ "java/lang/invoke/MethodHandle" ∧ y.cls ≠ "java/lang/invoke/VarHandle")
    (hM : Met l Z z yb yl yr [] rm (Value.ref a :: argsL).toArray wsc h Qc) (E : Exa Z h a K0) (hsz : Ls.size = maxL) (hpd : parseMethodDescriptor y.desc = some ⟨ps, rr⟩) (hlen : argsL.length = ps.length) (hst : st = argsL.reverse ++ .ref a :: rest) (hW : (rest.map fun v => v.category).sum ≤ W)
    (hf : rm.frames + 1 ≤ R.frames) (hl : W + (yl + 11) + rm.locals ≤ R.locals) (hc2 : cells + rm.cells = c2) (hs2 : slots + rm.slots = s2) (hcl : c2 ≤ R.cells) (hsl : s2 ≤ R.slots) (hws : ∀ x ∈ wsc, x ∈ ws ∨ C.s.heap.size ≤ x) (hq : pc + 3 = q)
    (K : ∀ v T' h', On l Z ws R own nm bytes maxL ret C T' h' c2 s2 → Keep h h' wsc → Qc v h' → Go C ws Q k n (T'.setTop (mkF C.m q Ls (v.toList ++ rest)))) : Go C ws Q k n (T.setTop (mkF C.m pc Ls st)) := by
  obtain ⟨⟨hx, hZ, rfl, r1, hown, r2⟩, ⟨locs, X, N⟩, eT⟩ := O; subst hq hc2 hs2
  subst hyz
  obtain ⟨_, _, q1, -, q3⟩ := isOf hZ eT E
  obtain ⟨v, _, ⟨T', L', k', n'⟩, -, X', ⟨Lc, hQ, l', y', z'⟩, stp⟩ := X.virtualBack hx (y := y) (z := y) hown (mvT hZ w1) (mvT hZ wd) (notFace_of_selects (args := #[]) (mvT hZ ws1)) (mvT hZ ws1) (mvT hZ w2) hy (backOf (W := W) (Q := Post wsc rm.cells h Qc) hM hZ w4 w3 hf hl) q1 q3 (g := mkF C.m pc Ls st) rfl (hsz.trans r1.symm) (Steps.refl _) (argsL := argsL) (rest := rest) (lenOf hpd hlen) hst (by show 2 * 0 + _ ≤ _; rw [Nat.mul_zero, Nat.zero_add]; exact hW) hd (fun _ _ => ⟨rfl, eT, hcl, hsl⟩)
  dsimp only [Pt.U, Pt.locs, Pt.cells, Pt.slots] at X' l' y' z' stp hQ
  subst l' y' z'
  obtain ⟨hF, hK, hE, hQ⟩ := hQ
  have hb : C.s.heap.size ≤ h.size := eT ▸ X.same.2.1
  exact (K v T' T'.heap ⟨⟨hx, hZ, rfl, r1, hown, r2⟩, ⟨_, X', N.app fun y hy => (hF y hy).elim (hws _) fun z => Or.inr (Nat.le_trans hb z)⟩, rfl⟩ hK hQ).via (stp)
theorem callV0 (O : On l Z ws R own nm bytes maxL ret C T h cells slots) {i : Nat} {y z : MethodName} {yb : ByteArray} {yl : Nat} {yr : Option FieldType} {rm : Room} {argsL rest : List Value} {wsc : List Addr} {Qc : Option Value → Heap → Prop} {ps : List FieldType} {rr : Option FieldType} {W c2 s2 : Nat} {a : Addr} {K0 : String}
    (hd : decode bytes pc = .ok (.invokevirtual i, 3)) (w1 : (Cond.methodLink own i y).before a0 Z = true) (wd : (Cond.declares y).before a0 Z = true) (ws1 : (Cond.selects K0 y z).before a0 Z = true) (hyz : y = z) (w2 : (Cond.instanceMethod z).before a0 Z = true) (w3 : (Cond.initialized z.cls).before a0 Z = true) (w4 : (Cond.code z yb yl yr).before a0 Z = true) (hy : y.cls ≠ "java/lang/invoke/MethodHandle" ∧ y.cls ≠ "java/lang/invoke/VarHandle")
    (hM : Met l Z z yb yl yr [] rm (Value.ref a :: argsL).toArray wsc h Qc) (E : Exa Z h a K0) (hsz : Ls.size = maxL) (hpd : parseMethodDescriptor y.desc = some ⟨ps, rr⟩) (hlen : argsL.length = ps.length) (hst : st = argsL.reverse ++ .ref a :: rest) (hW : (rest.map fun v => v.category).sum ≤ W)
    (hf : rm.frames + 1 ≤ R.frames) (hl : W + (yl + 11) + rm.locals ≤ R.locals) (hc2 : cells + rm.cells = c2) (hs2 : slots + rm.slots = s2) (hcl : c2 ≤ R.cells) (hsl : s2 ≤ R.slots) (hrc : rm.cells = 0) (hwc : wsc = []) (hq : pc + 3 = q)
    (K : ∀ v T', On l Z ws R own nm bytes maxL ret C T' h c2 s2 → Qc v h → Go C ws Q k n (T'.setTop (mkF C.m q Ls (v.toList ++ rest)))) : Go C ws Q k n (T.setTop (mkF C.m pc Ls st)) := by
  obtain ⟨⟨hx, hZ, rfl, r1, hown, r2⟩, ⟨locs, X, N⟩, eT⟩ := O; subst hq hc2 hs2
  subst hyz
  obtain ⟨_, _, q1, -, q3⟩ := isOf hZ eT E
  obtain ⟨v, _, ⟨T', L', k', n'⟩, -, X', ⟨Lc, hQ, l', y', z'⟩, stp⟩ := X.virtualBack hx (y := y) (z := y) hown (mvT hZ w1) (mvT hZ wd) (notFace_of_selects (args := #[]) (mvT hZ ws1)) (mvT hZ ws1) (mvT hZ w2) hy (backOf (W := W) (Q := Post wsc rm.cells h Qc) hM hZ w4 w3 hf hl) q1 q3 (g := mkF C.m pc Ls st) rfl (hsz.trans r1.symm) (Steps.refl _) (argsL := argsL) (rest := rest) (lenOf hpd hlen) hst (by show 2 * 0 + _ ≤ _; rw [Nat.mul_zero, Nat.zero_add]; exact hW) hd (fun _ _ => ⟨rfl, eT, hcl, hsl⟩)
  dsimp only [Pt.U, Pt.locs, Pt.cells, Pt.slots] at X' l' y' z' stp hQ
  subst l' y' z'
  obtain ⟨hF, hK, hE, hQ⟩ := hQ
  have hb : C.s.heap.size ≤ h.size := eT ▸ X.same.2.1
  have he : T'.heap = h := hE hrc hwc
  refine (K v T' ⟨⟨hx, hZ, rfl, r1, hown, r2⟩, ⟨_, X', N.app fun y hy => (hF y hy).elim (fun z => by rw [hwc] at z; cases z) fun z => Or.inr (Nat.le_trans hb z)⟩, he⟩ (he ▸ hQ)).via (stp)
theorem tltL {x y : Int64} (h : x < y) : ifCond.holds .lt (lcmpW x y) = true ∧ ifCond.holds .ge (lcmpW x y) = false ∧ ifCond.holds .gt (lcmpW y x) = true ∧ ifCond.holds .le (lcmpW y x) = false := by
  rw [if0, if0, if0, if0]
  exact ⟨(tlt ((lw_lt x y).mpr h)).1, (tlt ((lw_lt x y).mpr h)).2.1, (tlt ((lw_gt y x).mpr h)).2.2.1, (tlt ((lw_gt y x).mpr h)).2.2.2⟩
theorem fltL {x y : Int64} (h : ¬ x < y) : ifCond.holds .lt (lcmpW x y) = false ∧ ifCond.holds .ge (lcmpW x y) = true ∧ ifCond.holds .gt (lcmpW y x) = false ∧ ifCond.holds .le (lcmpW y x) = true := by
  rw [if0, if0, if0, if0]
  have h1 : ¬ lcmpW x y < 0 := fun q => h ((lw_lt x y).mp q)
  have h2 : ¬ 0 < lcmpW y x := fun q => h ((lw_gt y x).mp q)
  exact ⟨(flt h1).1, (flt h1).2.1, (flt h2).2.2.1, (flt h2).2.2.2⟩
theorem teqL {x y : Int64} (h : x = y) : ifCond.holds .eq (lcmpW x y) = true ∧ ifCond.holds .ne (lcmpW x y) = false := by
  rw [if0, if0]; exact teq ((lw_eq x y).mpr h)
theorem feqL {x y : Int64} (h : ¬ x = y) : ifCond.holds .eq (lcmpW x y) = false ∧ ifCond.holds .ne (lcmpW x y) = true := by
  rw [if0, if0]; exact feq fun q => h ((lw_eq x y).mp q)
theorem tlt0 {x : Int32} (h : x < 0) : ifCond.holds .lt x = true ∧ ifCond.holds .ge x = false := by rw [if0, if0]; exact ⟨(tlt h).1, (tlt h).2.1⟩
theorem flt0 {x : Int32} (h : ¬ x < 0) : ifCond.holds .lt x = false ∧ ifCond.holds .ge x = true := by rw [if0, if0]; exact ⟨(flt h).1, (flt h).2.1⟩
theorem tgt0 {x : Int32} (h : 0 < x) : ifCond.holds .gt x = true ∧ ifCond.holds .le x = false := by rw [if0, if0]; exact ⟨(tlt h).2.2.1, (tlt h).2.2.2⟩
theorem fgt0 {x : Int32} (h : ¬ 0 < x) : ifCond.holds .gt x = false ∧ ifCond.holds .le x = true := by rw [if0, if0]; exact ⟨(flt h).2.2.1, (flt h).2.2.2⟩
theorem teq0 {x : Int32} (h : x = 0) : ifCond.holds .eq x = true ∧ ifCond.holds .ne x = false := by rw [if0, if0]; exact teq h
theorem feq0 {x : Int32} (h : ¬ x = 0) : ifCond.holds .eq x = false ∧ ifCond.holds .ne x = true := by rw [if0, if0]; exact feq h
end Steps
end Jvm.OwnW

namespace Jvm.OwnW
open Sem ClassFile Op Lib Jvm.Free Jvm.Stand Jvm.LawKit Jvm.RoadKit
/-- an array of n places of the kind ty; place j holds f j -/
def Ar (Z : State) (h : Heap) (a : Addr) (ty : FieldType) (n : Nat) (f : Nat → Value) : Prop := ∃ cl : Cell, Arr Z h a cl ty ∧ cl.slots.size = n ∧ n < 2147483648 ∧ ∀ j, j < n → cl.slots[j]? = some (f j)
/-- the values of a list by their places -/
def lf (vs : List Value) : Nat → Value := fun j => vs.getD j .null
def updV (f : Nat → Value) (i : Nat) (v : Value) : Nat → Value := fun j => if j = i then v else f j
section Arrs
variable {Z : State} {h h' : Heap} {a b : Addr} {ty : FieldType} {n i sl : Nat} {f g : Nat → Value} {v : Value} {ws : List Addr} {vs : List Value}
theorem Ar.lt (F : Ar Z h a ty n f) : a < h.size := by obtain ⟨_, A, -⟩ := F; exact A.lt
theorem Ar.ext (F : Ar Z h a ty n f) (E : Ext h h') : Ar Z h' a ty n f := by obtain ⟨c, A, r⟩ := F; exact ⟨c, A.ext E, r⟩
theorem Ar.keep (F : Ar Z h a ty n f) (K : Keep h h' ws) (q : a ∉ ws) : Ar Z h' a ty n f := by obtain ⟨c, A, r⟩ := F; exact ⟨c, ⟨K.2.1 a c A.1 q, A.2⟩, r⟩
theorem Ar.other (F : Ar Z h b ty n f) (W : Wr h h' a sl v) (q : b ≠ a) : Ar Z h' b ty n f := by obtain ⟨c, A, r⟩ := F; exact ⟨c, A.other W q, r⟩
theorem Ar.congr (F : Ar Z h a ty n f) (q : ∀ j, j < n → f j = g j) : Ar Z h a ty n g := by obtain ⟨c, A, r1, r2, r3⟩ := F; exact ⟨c, A, r1, r2, fun j hj => by rw [r3 j hj, q j hj]⟩
theorem Ar.small (F : Ar Z h a ty n f) : n < 2147483648 := by obtain ⟨c, A, r1, r2, r3⟩ := F; exact r2
theorem toNat_of {z : Int32} {n : Nat} (hz : z.toInt = n) : z.toNatClampNeg = n := by simp only [Int32.toNatClampNeg, hz, Int.toNat_natCast]
theorem Ar.new {k : ClassId} {z : Int32} (A : Arr Z h a (newA k ty z) ty) (hz : z.toInt = n) : Ar Z h a ty n (fun _ => defaultValue ty) := by
  have q := toNat_of hz
  refine ⟨_, A, by rw [sz_new, q], ?_, fun j hj => ?_⟩
  · have := z.toInt_lt; omega
  · simp [newA, q, hj]
theorem Ar.set (F : Ar Z h a ty n f) (W : Wr h h' a i v) (hi : i < n) : Ar Z h' a ty n (updV f i v) := by
  obtain ⟨c, A, r1, r2, r3⟩ := F
  refine ⟨_, A.same W, by rw [sz_set]; exact r1, r2, fun j hj => ?_⟩
  by_cases e : j = i
  · subst e; simp [Cell.setSlot, updV, r1, hi]
  · simp only [Cell.setSlot, updV, if_neg e]; rw [Array.getElem?_setIfInBounds_ne (Ne.symm e)]; exact r3 j hj
theorem Ar.setL (F : Ar Z h a ty n (lf vs)) (W : Wr h h' a i v) (hi : i < n) (hl : i < vs.length) : Ar Z h' a ty n (lf (vs.set i v)) := (F.set W hi).congr fun j _ => by
  simp only [updV, lf, List.getD_eq_getElem?_getD]
  by_cases e : j = i
  · subst e; simp [hl]
  · rw [if_neg e, List.getElem?_set_ne (Ne.symm e)]
theorem lf_rep (n : Nat) (d : Value) (j : Nat) (hj : j < n) : d = lf (List.replicate n d) j := by simp [lf, hj]
theorem updV_lf (L : List Value) (hi : i < L.length) : updV (lf L) i v = lf (L.set i v) := by
  funext j
  simp only [updV, lf, List.getD_eq_getElem?_getD]
  by_cases e : j = i
  · subst e; simp [hi]
  · rw [if_neg e, List.getElem?_set_ne (Ne.symm e)]
theorem fill_step (N : Nat → Value) (d : Value) (i j : Nat) : updV (fun j => if j < i then N j else d) i (N i) j = if j < i + 1 then N j else d := by
  simp only [updV]
  by_cases e : j = i
  · subst e; rw [if_pos rfl, if_pos (Nat.lt_succ_self j)]
  · rw [if_neg e]
    by_cases q : j < i
    · rw [if_pos q, if_pos (by omega)]
    · rw [if_neg q, if_neg (by omega)]
theorem Ar.of_arr {cl : Cell} (A : Arr Z h a cl ty) (hn : cl.slots.size = n) (h31 : n < 2147483648) : ∃ f, Ar Z h a ty n f :=
  ⟨fun j => cl.slots.getD j .null, cl, A, hn, h31, fun j hj => by simp [Array.getD, hn, hj]⟩
theorem staKeep {D n d : String} (F : Sta Z h D n d v) (K : Keep h h' []) : Sta Z h' D n d v := by
  obtain ⟨cf, i, k, f, st, cell, h1, h2, h3, h4, h5, r⟩ := F
  exact ⟨cf, i, k, f, st, cell, h1, h2, h3, h4, K.2.1 _ _ h5 (fun q => nomatch q), r⟩
theorem lenEq {t : Term} {args : Array Value} {s : State} {cl : Cell} {z : Int32} (et : t.eval args s none [] s = some (.ref a)) (ha : s.arrayAt? a = some cl) (hc : (Cond.eq (.length t) (.int z)).value args s none s [] = some true) : cl.slots.size.toInt32 = z ∧ cl.slots.size < 2147483648 := by
  by_cases hb : cl.slots.size < 2 ^ 31
  · exact ⟨gotT (Cond.eq_ints (len_f et ha hb) (Term.int_eval z)) hc, hb⟩
  · obtain ⟨x, y, q1, -⟩ := cmp_v (Or.inl hc)
    simp [Term.eval, et, ha, hb] at q1
theorem inb {z : Int32} {m : Nat} (hz : z.toInt = (i : Int)) (hm : m = n) (hi : i < n) : ¬ (z < 0 ∨ m ≤ z.toNatClampNeg) := by
  rw [toNat_of hz, Int32.lt_iff_toInt_lt, hz, hm]
  have : (0 : Int32).toInt = 0 := rfl
  rw [this]; omega
theorem len32 {m : Nat} {z : Int32} (hm : m = n) (hn : n < 2147483648) (hz : z.toInt = n) : m.toInt32 = z := by
  apply Int32.toInt_inj.mp; rw [hz, hm]; exact len_toInt hn
end Arrs
section ArrSteps
variable {l : Launch} {Z : State} {a0 : Array Value} {ws : List Addr} {R : Room} {own nm : String} {bytes : ByteArray} {maxL : Nat} {ret : Option FieldType} {C : Ctx} {T : State} {h : Heap} {cells slots k n : Nat} {Q : Option Value → Heap → Prop} {pc q : Nat} {Ls L' : Array Slot} {st : List Value}
  {a : Addr} {j : Int32} {i N : Nat} {f : Nat → Value} {v : Value} {ty : FieldType}
theorem ialA (O : On l Z ws R own nm bytes maxL ret C T h cells slots) (hd : decode bytes pc = .ok (.iaload, 1)) (V : Ar Z h a .int N f) (hj : j.toInt = (i : Int)) (hi : i < N) (hv : f i = v) (hq : pc + 1 = q)
    (K : Go C ws Q k n (T.setTop (mkF C.m q Ls (v :: st)))) : Go C ws Q k n (T.setTop (mkF C.m pc Ls (.int j :: .ref a :: st))) := by
  obtain ⟨c, A, r1, r2, r3⟩ := V
  exact iaload O hd A (inb hj r1 hi) (by rw [toNat_of hj, ← hv]; exact r3 i hi) hq K
theorem lalA (O : On l Z ws R own nm bytes maxL ret C T h cells slots) (hd : decode bytes pc = .ok (.laload, 1)) (V : Ar Z h a .long N f) (hj : j.toInt = (i : Int)) (hi : i < N) (hv : f i = v) (hq : pc + 1 = q)
    (K : Go C ws Q k n (T.setTop (mkF C.m q Ls (v :: st)))) : Go C ws Q k n (T.setTop (mkF C.m pc Ls (.int j :: .ref a :: st))) := by
  obtain ⟨c, A, r1, r2, r3⟩ := V
  exact laload O hd A (inb hj r1 hi) (by rw [toNat_of hj, ← hv]; exact r3 i hi) hq K
theorem balA (O : On l Z ws R own nm bytes maxL ret C T h cells slots) (hd : decode bytes pc = .ok (.baload, 1)) (V : Ar Z h a .byte N f) (hj : j.toInt = (i : Int)) (hi : i < N) (hv : f i = v) (hq : pc + 1 = q)
    (K : Go C ws Q k n (T.setTop (mkF C.m q Ls (v :: st)))) : Go C ws Q k n (T.setTop (mkF C.m pc Ls (.int j :: .ref a :: st))) := by
  obtain ⟨c, A, r1, r2, r3⟩ := V
  exact baload O hd A (inb hj r1 hi) (by rw [toNat_of hj, ← hv]; exact r3 i hi) hq K
theorem aalA (O : On l Z ws R own nm bytes maxL ret C T h cells slots) (hd : decode bytes pc = .ok (.aaload, 1)) (V : Ar Z h a ty N f) (hty : ty.isReference = true) (hj : j.toInt = (i : Int)) (hi : i < N) (hv : f i = v) (hq : pc + 1 = q)
    (K : Go C ws Q k n (T.setTop (mkF C.m q Ls (v :: st)))) : Go C ws Q k n (T.setTop (mkF C.m pc Ls (.int j :: .ref a :: st))) := by
  obtain ⟨c, A, r1, r2, r3⟩ := V
  exact aaload O hd A hty (inb hj r1 hi) (by rw [toNat_of hj, ← hv]; exact r3 i hi) hq K
theorem lenA (O : On l Z ws R own nm bytes maxL ret C T h cells slots) (hd : decode bytes pc = .ok (.arraylength, 1)) (V : Ar Z h a ty N f) {z : Int32} (hz : z.toInt = N) (hq : pc + 1 = q)
    (K : Go C ws Q k n (T.setTop (mkF C.m q Ls (.int z :: st)))) : Go C ws Q k n (T.setTop (mkF C.m pc Ls (.ref a :: st))) := by
  obtain ⟨c, A, r1, r2, r3⟩ := V
  exact arraylength O hd A (len32 r1 r2 hz) hq K
theorem iasA (O : On l Z ws R own nm bytes maxL ret C T h cells slots) {x : Int32} (hd : decode bytes pc = .ok (.iastore, 1)) (V : Ar Z h a .int N f) (hj : j.toInt = (i : Int)) (hi : i < N) (ha : a ∈ ws ∨ C.s.heap.size ≤ a) (hq : pc + 1 = q)
    (K : ∀ T' h', On l Z ws R own nm bytes maxL ret C T' h' cells slots → Wr h h' a i (.int x) → Go C ws Q k n (T'.setTop (mkF C.m q Ls st))) : Go C ws Q k n (T.setTop (mkF C.m pc Ls (.int x :: .int j :: .ref a :: st))) := by
  obtain ⟨c, A, r1, r2, r3⟩ := V
  exact iastore O hd A (inb hj r1 hi) ha hq fun T' h' O' W => K T' h' O' (toNat_of hj ▸ W)
theorem lasA (O : On l Z ws R own nm bytes maxL ret C T h cells slots) {x : Int64} (hd : decode bytes pc = .ok (.lastore, 1)) (V : Ar Z h a .long N f) (hj : j.toInt = (i : Int)) (hi : i < N) (ha : a ∈ ws ∨ C.s.heap.size ≤ a) (hq : pc + 1 = q)
    (K : ∀ T' h', On l Z ws R own nm bytes maxL ret C T' h' cells slots → Wr h h' a i (.long x) → Go C ws Q k n (T'.setTop (mkF C.m q Ls st))) : Go C ws Q k n (T.setTop (mkF C.m pc Ls (.long x :: .int j :: .ref a :: st))) := by
  obtain ⟨c, A, r1, r2, r3⟩ := V
  exact lastore O hd A (inb hj r1 hi) ha hq fun T' h' O' W => K T' h' O' (toNat_of hj ▸ W)
theorem basA (O : On l Z ws R own nm bytes maxL ret C T h cells slots) {x y : Int32} (hd : decode bytes pc = .ok (.bastore, 1)) (V : Ar Z h a .byte N f) (hj : j.toInt = (i : Int)) (hi : i < N) (ha : a ∈ ws ∨ C.s.heap.size ≤ a) (hy : x.toInt8.toInt32 = y) (hq : pc + 1 = q)
    (K : ∀ T' h', On l Z ws R own nm bytes maxL ret C T' h' cells slots → Wr h h' a i (.int y) → Go C ws Q k n (T'.setTop (mkF C.m q Ls st))) : Go C ws Q k n (T.setTop (mkF C.m pc Ls (.int x :: .int j :: .ref a :: st))) := by
  obtain ⟨c, A, r1, r2, r3⟩ := V
  subst hy
  exact bastore O hd A (inb hj r1 hi) ha hq fun T' h' O' W => K T' h' O' (toNat_of hj ▸ W)
theorem newA' (O : On l Z ws R own nm bytes maxL ret C T h cells slots) {aty : ArrayType} {c2 s2 : Nat} (hd : decode bytes pc = .ok (.newarray aty, 2)) (ht : newarray.typeOf aty = ty) (w : (Cond.arrayClass ty).before a0 Z = true) {z : Int32} (hz : z.toInt = N) {cap : Nat} (hcap : N ≤ cap) (hb : cap * 8 ≤ 536870912) (hc2 : cells + 1 = c2) (hs2 : slots + cap = s2) (hc : c2 ≤ R.cells) (hl : s2 ≤ R.slots) (hq : pc + 2 = q)
    (K : ∀ a T' h', a = h.size → C.s.heap.size ≤ a → On l Z ws R own nm bytes maxL ret C T' h' c2 s2 → Ext h h' → Ar Z h' a ty N (fun _ => defaultValue ty) → Go C ws Q k n (T'.setTop (mkF C.m q Ls (.ref a :: st)))) : Go C ws Q k n (T.setTop (mkF C.m pc Ls (.int z :: st))) := by
  subst ht
  refine newP O hd w ?_ (by rw [toNat_of hz]; exact hcap) hb hc2 hs2 hc hl hq fun a T' h' cA e1 e2 O' E A => K a T' h' e1 e2 O' E (Ar.new A hz)
  rw [Int32.lt_iff_toInt_lt, hz]
  have : (0 : Int32).toInt = 0 := rfl
  rw [this]; omega
end ArrSteps
end Jvm.OwnW

namespace Jvm.OwnW
open Jvm.RoadKit
theorem add32 {x y : Int32} (h1 : -2147483648 ≤ x.toInt + y.toInt) (h2 : x.toInt + y.toInt < 2147483648) : (x + y).toInt = x.toInt + y.toInt := by
  have := c_iadd x y; have := rng32 (x + y); omega
theorem sub32 {x y : Int32} (h1 : -2147483648 ≤ x.toInt - y.toInt) (h2 : x.toInt - y.toInt < 2147483648) : (x - y).toInt = x.toInt - y.toInt := by
  have := c_isub x y; have := rng32 (x - y); omega
theorem mul32 {x y : Int32} (h1 : -2147483648 ≤ x.toInt * y.toInt) (h2 : x.toInt * y.toInt < 2147483648) : (x * y).toInt = x.toInt * y.toInt := by
  have := c_imul x y; have := rng32 (x * y); omega
theorem add64 {x y : Int64} (h1 : -9223372036854775808 ≤ x.toInt + y.toInt) (h2 : x.toInt + y.toInt < 9223372036854775808) : (x + y).toInt = x.toInt + y.toInt := by
  have := c_ladd x y; have := rng64 (x + y); omega
theorem sub64 {x y : Int64} (h1 : -9223372036854775808 ≤ x.toInt - y.toInt) (h2 : x.toInt - y.toInt < 9223372036854775808) : (x - y).toInt = x.toInt - y.toInt := by
  have := c_lsub x y; have := rng64 (x - y); omega
theorem mul64 {x y : Int64} (h1 : -9223372036854775808 ≤ x.toInt * y.toInt) (h2 : x.toInt * y.toInt < 9223372036854775808) : (x * y).toInt = x.toInt * y.toInt := by
  have := c_lmul x y; have := rng64 (x * y); omega
theorem ne0_32 {z : Int32} (h : 0 < z.toInt) : z ≠ 0 := fun e => by subst e; exact absurd h (by decide)
theorem ne0_64 {z : Int64} (h : 0 < z.toInt) : z ≠ 0 := fun e => by subst e; exact absurd h (by decide)
theorem lt32 {x y : Int32} (h : x.toInt < y.toInt) : x < y := Int32.lt_iff_toInt_lt.mpr h
theorem nlt32 {x y : Int32} (h : y.toInt ≤ x.toInt) : ¬ x < y := fun q => by rw [Int32.lt_iff_toInt_lt] at q; omega
theorem lt64 {x y : Int64} (h : x.toInt < y.toInt) : x < y := Int64.lt_iff_toInt_lt.mpr h
theorem nlt64 {x y : Int64} (h : y.toInt ≤ x.toInt) : ¬ x < y := fun q => by rw [Int64.lt_iff_toInt_lt] at q; omega
theorem eq32 {x y : Int32} (h : x.toInt = y.toInt) : x = y := Int32.toInt_inj.mp h
theorem ne32 {x y : Int32} (h : x.toInt ≠ y.toInt) : ¬ x = y := fun e => h (congrArg _ e)
theorem ne64 {x y : Int64} (h : x.toInt ≠ y.toInt) : ¬ x = y := fun e => h (congrArg _ e)
theorem inc32 {z : Int32} {i : Nat} (hi : z.toInt = (i : Int)) (hb : i < 2147483647) : (z + 1).toInt = ((i + 1 : Nat) : Int) := by
  have h1 : (1 : Int32).toInt = 1 := rfl
  rw [add32 (by omega) (by omega)]; omega
theorem dec32 {z : Int32} {i : Nat} (hi : z.toInt = (i : Int)) (hb : 1 ≤ i) : (z - 1).toInt = ((i - 1 : Nat) : Int) := by
  have h1 : (1 : Int32).toInt = 1 := rfl
  have := rng32 z
  rw [sub32 (by omega) (by omega)]; omega
/-- (s & 0x7fffffff) % z for a z above 0 -/
theorem rem_in (s z : Int32) (hz : 0 < z.toInt) : ∃ i : Nat, ((s &&& 2147483647) % z).toInt = (i : Int) ∧ (i : Int) < z.toInt := by
  have h1 := c_mask s 2147483647 31 (by decide) (by decide)
  have h2 := (c_iremV (s &&& 2147483647) z).1 (by omega) hz
  exact ⟨((s &&& 2147483647) % z).toInt.toNat, by omega, by omega⟩
theorem b8 (x : Int32) : x.toInt8.toInt32.toInt8.toInt32 = x.toInt8.toInt32 := by
  have h := c_i2b x; have h2 := c_i2b x.toInt8.toInt32
  apply Int32.toInt_inj.mp; omega
theorem lf_int (L : List Int32) (j : Nat) (hj : j < L.length) : lf (L.map Value.int) j = .int (L.getD j 0) := by
  simp [lf, List.getD_eq_getElem?_getD, hj]
theorem lf_long (L : List Int64) (j : Nat) (hj : j < L.length) : lf (L.map Value.long) j = .long (L.getD j 0) := by
  simp [lf, List.getD_eq_getElem?_getD, hj]
end Jvm.OwnW

namespace Jvm.Pilot.@@N@@
open Jvm Jvm.ClassFile Sem Op Lib Jvm.Free Jvm.Stand Jvm.LawKit Jvm.RoadKit Bundle Jvm.OwnW Jvm.Pilot.@@N@@.Jvm.D

def own_nb (w : Int64) (k : Nat) : Int32 := Int32.ofBitVec ((w.toBitVec >>> (4 * k)).setWidth 32 &&& 15#32)
def own_nbs (p q : Int64) (j : Nat) : Int32 := own_nb (if j < 16 then p else q) (j % 16)
theorem own_sh (x : Int64) (q : Int32) (k : Nat) (hk : q.toBitVec.toNat % 64 = k) : ((x.toUInt64 >>> (q &&& 0x3f).toInt64.toUInt64).toInt64).toBitVec = x.toBitVec >>> k := by
  have h5 := (sm64 q k hk).2
  show x.toBitVec >>> ((q &&& 0x3f).toInt64.toBitVec % 64) = _
  rw [(sm64 q k hk).1, BitVec.ushiftRight_eq']
  congr 1
  show (BitVec.ofNat 64 k % 64#64).toNat = k
  rw [BitVec.toNat_umod, BitVec.toNat_ofNat, BitVec.toNat_ofNat, Nat.mod_eq_of_lt (show k < 2 ^ 64 by omega)]; exact Nat.mod_eq_of_lt h5
theorem own_shl (x : Int64) (q : Int32) (k : Nat) (hk : q.toBitVec.toNat % 64 = k) : (x <<< (q &&& 0x3f).toInt64).toBitVec = x.toBitVec <<< k := by
  show x.toBitVec <<< ((q &&& 0x3f).toInt64.toBitVec.smod 64) = _
  rw [BitVec.shiftLeft_eq', (sm64 q k hk).1, smod64 k (sm64 q k hk).2]
theorem own_bn (q : Int32) (n : Nat) (h : q.toInt = (n : Int)) : q.toBitVec.toNat = n := by
  have h1 : q.toInt = q.toBitVec.toInt := rfl
  rw [h1, BitVec.toInt_eq_toNat_cond] at h
  have := q.toBitVec.isLt
  split at h <;> omega
theorem own_A (w : Int64) (z : Int32) (j : Nat) (hz : z.toInt = (j : Int)) (hj : j < 28) : ((w.toUInt64 >>> ((4 * (z % 16)) &&& 0x3f).toInt64.toUInt64).toInt64).toInt32 &&& 15 = own_nb w (j % 16) := by
  have h16 : (16 : Int32).toInt = 16 := rfl
  have h4 : (4 : Int32).toInt = 4 := rfl
  have h1 := (c_irem z 16 16 rfl).1 (by omega)
  have h2 : (4 * (z % 16) : Int32).toInt = ((4 * (j % 16) : Nat) : Int) := by rw [mul32 (by rw [h1, h4]; omega) (by rw [h1, h4]; omega), h1, h4]; omega
  have h3 := own_bn _ _ h2
  apply Int32.toBitVec_inj.mp
  rw [Int32.toBitVec_and, Int64.toBitVec_toInt32, BitVec.signExtend_eq_setWidth_of_le _ (by decide), own_sh w _ (4 * (j % 16)) (by rw [h3]; omega)]; rfl
theorem own_B (w : Int64) (q : Int32) (k : Nat) (hq : q.toInt = (k : Int)) (hk : k < 16) : (((w <<< ((60 - 4 * q) &&& 0x3f).toInt64).toUInt64 >>> ((60 : Int32) &&& 0x3f).toInt64.toUInt64).toInt64).toInt32 = own_nb w k := by
  have h4 : (4 : Int32).toInt = 4 := rfl
  have h60 : (60 : Int32).toInt = 60 := rfl
  have h1 : (4 * q).toInt = 4 * k := by rw [mul32 (by rw [hq, h4]; omega) (by rw [hq, h4]; omega), hq, h4]
  have h2 : (60 - 4 * q : Int32).toInt = ((60 - 4 * k : Nat) : Int) := by rw [sub32 (by rw [h1, h60]; omega) (by rw [h1, h60]; omega), h1, h60]; omega
  have h3 := own_bn _ _ h2
  apply Int32.toBitVec_inj.mp
  show _ = (w.toBitVec >>> (4 * k)).setWidth 32 &&& 15#32
  rw [Int64.toBitVec_toInt32, BitVec.signExtend_eq_setWidth_of_le _ (by decide), own_sh _ 60 60 (by decide), own_shl w _ (60 - 4 * k) (by rw [h3]; omega)]
  apply BitVec.eq_of_getLsbD_eq
  intro i hi
  simp only [BitVec.getLsbD_setWidth, BitVec.getLsbD_ushiftRight, BitVec.getLsbD_shiftLeft, BitVec.getLsbD_and]
  by_cases h : i < 4
  · have e1 : 60 + i - (60 - 4 * k) = 4 * k + i := by omega
    have e2 : (15#32).getLsbD i = true := by
      have : i = 0 ∨ i = 1 ∨ i = 2 ∨ i = 3 := by omega
      rcases this with rfl | rfl | rfl | rfl <;> rfl
    have e3 : 60 + i < 64 := by omega
    have e4 : ¬ 60 + i < 60 - 4 * k := by omega
    have e5 : i < 64 := by omega
    simp [e1, e2, hi, e3, e4]
  · have e2 : (15#32).getLsbD i = false := by
      have : ∀ i : Fin 32, 4 ≤ i.val → (15#32).getLsbD i.val = false := by decide
      exact this ⟨i, hi⟩ (by show 4 ≤ i; omega)
    have e3 : ¬ 60 + i < 64 := by omega
    simp [e2, e3]
theorem d1_0 : decode prog_59_method_2_code 0 = .ok (.getstatic 11, 3) := by decide +kernel
theorem d1_3 : decode prog_59_method_2_code 3 = .ok (.arraylength, 1) := by decide +kernel
theorem d1_4 : decode prog_59_method_2_code 4 = .ok (.newarray .int, 2) := by decide +kernel
theorem d1_6 : decode prog_59_method_2_code 6 = .ok (.astore 4, 2) := by decide +kernel
theorem d1_8 : decode prog_59_method_2_code 8 = .ok (.iconst 0, 1) := by decide +kernel
theorem d1_9 : decode prog_59_method_2_code 9 = .ok (.istore 5, 2) := by decide +kernel
theorem d1_11 : decode prog_59_method_2_code 11 = .ok (.iload 5, 2) := by decide +kernel
theorem d1_13 : decode prog_59_method_2_code 13 = .ok (.getstatic 11, 3) := by decide +kernel
theorem d1_16 : decode prog_59_method_2_code 16 = .ok (.arraylength, 1) := by decide +kernel
theorem d1_17 : decode prog_59_method_2_code 17 = .ok (.if_icmp .ge 42, 3) := by decide +kernel
theorem d1_20 : decode prog_59_method_2_code 20 = .ok (.iload 5, 2) := by decide +kernel
theorem d1_22 : decode prog_59_method_2_code 22 = .ok (.bipush 16, 2) := by decide +kernel
theorem d1_24 : decode prog_59_method_2_code 24 = .ok (.if_icmp .ge 7, 3) := by decide +kernel
theorem d1_27 : decode prog_59_method_2_code 27 = .ok (.lload_n 0, 1) := by decide +kernel
theorem d1_28 : decode prog_59_method_2_code 28 = .ok (.goto 4, 3) := by decide +kernel
theorem d1_31 : decode prog_59_method_2_code 31 = .ok (.lload_n 2, 1) := by decide +kernel
theorem d1_32 : decode prog_59_method_2_code 32 = .ok (.lstore 6, 2) := by decide +kernel
theorem d1_34 : decode prog_59_method_2_code 34 = .ok (.aload 4, 2) := by decide +kernel
theorem d1_36 : decode prog_59_method_2_code 36 = .ok (.iload 5, 2) := by decide +kernel
theorem d1_38 : decode prog_59_method_2_code 38 = .ok (.lload 6, 2) := by decide +kernel
theorem d1_40 : decode prog_59_method_2_code 40 = .ok (.iconst 4, 1) := by decide +kernel
theorem d1_41 : decode prog_59_method_2_code 41 = .ok (.iload 5, 2) := by decide +kernel
theorem d1_43 : decode prog_59_method_2_code 43 = .ok (.bipush 16, 2) := by decide +kernel
theorem d1_45 : decode prog_59_method_2_code 45 = .ok (.irem, 1) := by decide +kernel
theorem d1_46 : decode prog_59_method_2_code 46 = .ok (.imul, 1) := by decide +kernel
theorem d1_47 : decode prog_59_method_2_code 47 = .ok (.lushr, 1) := by decide +kernel
theorem d1_48 : decode prog_59_method_2_code 48 = .ok (.l2i, 1) := by decide +kernel
theorem d1_49 : decode prog_59_method_2_code 49 = .ok (.bipush 15, 2) := by decide +kernel
theorem d1_51 : decode prog_59_method_2_code 51 = .ok (.iand, 1) := by decide +kernel
theorem d1_52 : decode prog_59_method_2_code 52 = .ok (.iastore, 1) := by decide +kernel
theorem d1_53 : decode prog_59_method_2_code 53 = .ok (.iinc 5 1, 3) := by decide +kernel
theorem d1_56 : decode prog_59_method_2_code 56 = .ok (.goto (-45), 3) := by decide +kernel
theorem d1_59 : decode prog_59_method_2_code 59 = .ok (.aload 4, 2) := by decide +kernel
theorem d1_61 : decode prog_59_method_2_code 61 = .ok (.areturn, 1) := by decide +kernel
theorem ef_1 (p1 : Int64) (p2 : Int64) (ag : Addr) (m : MethodId) : entryFrame m #[(.long p1), (.long p2)] 8 = mkF m 0 #[.val (.long p1), .second, .val (.long p2), .second, .unset, .unset, .unset, .unset] [] := by first | (simp [entryFrame, mkF, argsToLocals, Value.category, maxLocals]; done) | rfl
theorem pn_1 : plainFor (⟨"com/example/bidwright/bidwright/game/PackedGoods", "unpack", "(JJ)[I"⟩ : MethodName) = true := by first | exact plainFor_of_name (by first | (simp [plainName, overriddenIn]; done) | decide +kernel) | decide +kernel
set_option maxRecDepth 65536 in
set_option maxHeartbeats 40000000 in
theorem rm_1 (l : Launch) (Z : State) (a0 : Array Value) (hw : ∀ d ∈ tables_1, d.before a0 Z = true) (p1 : Int64) (p2 : Int64) (ag : Addr) (fG : Nat → Value) (h0 : Heap) (S_G : Sta Z h0 "com/example/bidwright/bidwright/game/PackedGoods" "GOODS" "[Lcom/example/bidwright/bidwright/game/Good;" (.ref ag)) (V_ag : Ar Z h0 ag (.object "com/example/bidwright/bidwright/game/Good") 28 fG) :
    Met l Z (⟨"com/example/bidwright/bidwright/game/PackedGoods", "unpack", "(JJ)[I"⟩ : MethodName) prog_59_method_2_code 8 (some (.array .int)) [] ({ frames := 0, cells := 1, slots := 28, locals := 0 } : Room) #[(.long p1), (.long p2)] [] h0 (fun v h => ∃ a, v = some (.ref a) ∧ Ar Z h a .int 28 (fun j => .int (own_nbs p1 p2 j))) := by
  refine Met.mk pn_1 (ef_1 p1 p2 ag) ?_
  intro C T hs0 O
  show Go C [] (fun v h => ∃ a, v = some (.ref a) ∧ Ar Z h a .int 28 (fun j => .int (own_nbs p1 p2 j))) 1 28 (T.setTop (mkF C.m 0 #[.val (.long p1), .second, .val (.long p2), .second, .unset, .unset, .unset, .unset] []))
  refine Jvm.OwnW.getS O d1_0 (hw _ (List.mem_of_getElem? (i := 4) rfl)) S_G (q := 3) rfl ?_
  intro T1 O1
  refine Jvm.OwnW.lenA O1 d1_3 V_ag (z := (28 : Int32)) rfl (q := 4) rfl ?_
  refine Jvm.OwnW.newA' O1 d1_4 (ty := .int) rfl (hw _ (List.mem_of_getElem? (i := 6) rfl)) (N := 28) rfl (cap := 28) (by decide) (by decide) (c2 := 1) (s2 := 28) rfl rfl (by decide) (by decide) (q := 6) rfl ?_
  intro a2 T2 h2 g2 N2 O2 X2 V_a2
  have ne_ag_a2 : ag ≠ a2 := Nat.ne_of_lt (Nat.lt_of_lt_of_le V_ag.lt (Nat.le_of_eq g2.symm))
  have S_G := S_G.ext X2
  have V_ag := V_ag.ext X2
  have V_a2 : Ar Z h2 a2 .int 28 (lf [(.int (0 : Int32)), (.int (0 : Int32)), (.int (0 : Int32)), (.int (0 : Int32)), (.int (0 : Int32)), (.int (0 : Int32)), (.int (0 : Int32)), (.int (0 : Int32)), (.int (0 : Int32)), (.int (0 : Int32)), (.int (0 : Int32)), (.int (0 : Int32)), (.int (0 : Int32)), (.int (0 : Int32)), (.int (0 : Int32)), (.int (0 : Int32)), (.int (0 : Int32)), (.int (0 : Int32)), (.int (0 : Int32)), (.int (0 : Int32)), (.int (0 : Int32)), (.int (0 : Int32)), (.int (0 : Int32)), (.int (0 : Int32)), (.int (0 : Int32)), (.int (0 : Int32)), (.int (0 : Int32)), (.int (0 : Int32))]) := V_a2.congr (lf_rep 28 _)
  refine Jvm.OwnW.astore O2 d1_6 rfl (L' := #[.val (.long p1), .second, .val (.long p2), .second, .val (.ref a2), .unset, .unset, .unset]) rfl (q := 8) rfl ?_
  refine Jvm.OwnW.iconst O2 d1_8 (r := (0 : Int32)) rfl (q := 9) rfl ?_
  refine Jvm.OwnW.istore O2 d1_9 (L' := #[.val (.long p1), .second, .val (.long p2), .second, .val (.ref a2), .val (.int (0 : Int32)), .unset, .unset]) rfl (q := 11) rfl ?_
  have V_a2 : Ar Z h2 a2 .int 28 (fun j => if j < 0 then .int (own_nbs p1 p2 j) else .int (0 : Int32)) := V_a2.congr (fun j hj => by rw [if_neg (Nat.not_lt_zero j)]; exact (lf_rep 28 _ j hj).symm)
  have lp : ∀ (k : Nat) (T3 : State) (h3 : Heap), On l Z [] ({ frames := 0, cells := 1, slots := 28, locals := 0 } : Room) "com/example/bidwright/bidwright/game/PackedGoods" "unpack" prog_59_method_2_code 8 (some (.array .int)) C T3 h3 1 28 → ∀ (i : Nat), ∀ (z : Int32), ∀ (hi : z.toInt = (i : Int)), ∀ (hk : i + k = 28), ∀ (s6 s7 : Slot), ∀ (h67 : (s6 = .unset ∧ s7 = .unset) ∨ (∃ w, s6 = .val (.long w) ∧ s7 = .second)), Sta Z h3 "com/example/bidwright/bidwright/game/PackedGoods" "GOODS" "[Lcom/example/bidwright/bidwright/game/Good;" (.ref ag) → Ar Z h3 ag (.object "com/example/bidwright/bidwright/game/Good") 28 fG → Ar Z h3 a2 .int 28 (fun j => if j < i then .int (own_nbs p1 p2 j) else .int (0 : Int32)) → Go C [] (fun v h => ∃ a, v = some (.ref a) ∧ Ar Z h a .int 28 (fun j => .int (own_nbs p1 p2 j))) 1 28 (T3.setTop (mkF C.m 11 #[.val (.long p1), .second, .val (.long p2), .second, .val (.ref a2), .val (.int z), s6, s7] [])) := by
    intro k
    induction k with
    | zero =>
      intro T3 h3 O3 i z hi hk s6 s7 h67 S_G V_ag V_a2
      obtain rfl : i = 28 := by omega
      have V_a2 : Ar Z h3 a2 .int 28 (fun j => .int (own_nbs p1 p2 j)) := V_a2.congr (fun j hj => if_pos hj)
      refine Jvm.OwnW.iload O3 d1_11 rfl (q := 13) rfl ?_
      refine Jvm.OwnW.getS O3 d1_13 (hw _ (List.mem_of_getElem? (i := 4) rfl)) S_G (q := 16) rfl ?_
      intro T4 O4
      refine Jvm.OwnW.lenA O4 d1_16 V_ag (z := (28 : Int32)) rfl (q := 17) rfl ?_
      refine Jvm.OwnW.icmpYes O4 d1_17 (flt (show ¬ (z < (28 : Int32)) from nlt32 (by rw [hi]; show (28 : Int) ≤ _; omega))).2.1 (by decide) (q := 59) rfl ?_
      refine Jvm.OwnW.aload O4 d1_59 rfl rfl (q := 61) rfl ?_
      exact Jvm.OwnW.retA O4 d1_61 rfl rfl rfl (by decide) (by decide) ⟨_, rfl, V_a2⟩
    | succ k ih =>
      intro T3 h3 O3 i z hi hk s6 s7 h67 S_G V_ag V_a2
      refine Jvm.OwnW.iload O3 d1_11 rfl (q := 13) rfl ?_
      refine Jvm.OwnW.getS O3 d1_13 (hw _ (List.mem_of_getElem? (i := 4) rfl)) S_G (q := 16) rfl ?_
      intro T5 O5
      refine Jvm.OwnW.lenA O5 d1_16 V_ag (z := (28 : Int32)) rfl (q := 17) rfl ?_
      refine Jvm.OwnW.icmpNo O5 d1_17 (tlt (show z < (28 : Int32) from lt32 (by rw [hi]; show _ < (28 : Int); omega))).2.1 (q := 20) rfl ?_
      refine Jvm.OwnW.iload O5 d1_20 rfl (q := 22) rfl ?_
      refine Jvm.OwnW.bipush O5 d1_22 (r := (16 : Int32)) rfl (q := 24) rfl ?_
      by_cases hc24 : z < (16 : Int32)
      · refine Jvm.OwnW.icmpNo O5 d1_24 (tlt hc24).2.1 (q := 27) rfl ?_
        refine Jvm.OwnW.lloadN O5 d1_27 rfl (q := 28) rfl ?_
        refine Jvm.OwnW.goto O5 d1_28 (by decide) (q := 32) rfl ?_
        refine Jvm.OwnW.lstore O5 d1_32 (L' := #[.val (.long p1), .second, .val (.long p2), .second, .val (.ref a2), .val (.int z), .val (.long p1), .second]) (by rcases h67 with ⟨rfl, rfl⟩ | ⟨_, rfl, rfl⟩ <;> rfl) (q := 34) rfl ?_
        refine Jvm.OwnW.aload O5 d1_34 rfl rfl (q := 36) rfl ?_
        refine Jvm.OwnW.iload O5 d1_36 rfl (q := 38) rfl ?_
        refine Jvm.OwnW.lload O5 d1_38 rfl (q := 40) rfl ?_
        refine Jvm.OwnW.iconst O5 d1_40 (r := (4 : Int32)) rfl (q := 41) rfl ?_
        refine Jvm.OwnW.iload O5 d1_41 rfl (q := 43) rfl ?_
        refine Jvm.OwnW.bipush O5 d1_43 (r := (16 : Int32)) rfl (q := 45) rfl ?_
        refine Jvm.OwnW.irem O5 d1_45 (by decide) rfl (q := 46) rfl ?_
        refine Jvm.OwnW.imul O5 d1_46 rfl (q := 47) rfl ?_
        refine Jvm.OwnW.lushr O5 d1_47 rfl (q := 48) rfl ?_
        refine Jvm.OwnW.l2i O5 d1_48 rfl (q := 49) rfl ?_
        refine Jvm.OwnW.bipush O5 d1_49 (r := (15 : Int32)) rfl (q := 51) rfl ?_
        obtain ⟨xv, hxv⟩ : ∃ zz_, (((p1.toUInt64 >>> (((4 : Int32) * (z % (16 : Int32))) &&& 0x3f).toInt64.toUInt64).toInt64).toInt32 &&& (15 : Int32)) = zz_ := ⟨_, rfl⟩
        refine Jvm.OwnW.iand O5 d1_51 hxv (q := 52) rfl ?_
        refine Jvm.OwnW.iasA O5 d1_52 V_a2 (i := i) hi (by omega) (Or.inr N2) (q := 53) rfl ?_
        intro T6 h6 O6 W6
        have V_a2 := V_a2.set W6 (by omega)
        have S_G := S_G.wr W6
        have V_ag := V_ag.other W6 ne_ag_a2
        have hxx : xv = own_nbs p1 p2 i := by rw [← hxv, own_nbs, if_pos (by rw [Int32.lt_iff_toInt_lt, hi] at hc24; exact Int.ofNat_lt.mp hc24)]; exact own_A _ _ _ hi (by omega)
        have V_a2 : Ar Z h6 a2 .int 28 (fun j => if j < (i + 1) then .int (own_nbs p1 p2 j) else .int (0 : Int32)) := V_a2.congr (fun j hj => by rw [hxx]; exact fill_step (fun j => .int (own_nbs p1 p2 j)) _ i j)
        refine Jvm.OwnW.iinc O6 d1_53 rfl (L' := #[.val (.long p1), .second, .val (.long p2), .second, .val (.ref a2), .val (.int (z + (1 : Int32))), .val (.long p1), .second]) rfl (q := 56) rfl ?_
        refine Jvm.OwnW.goto O6 d1_56 (by decide) (q := 11) rfl ?_
        exact ih _ _ O6 (i + 1) _ (inc32 hi (by omega)) (by omega) _ _ (Or.inr ⟨_, rfl, rfl⟩) S_G V_ag V_a2
      · refine Jvm.OwnW.icmpYes O5 d1_24 (flt hc24).2.1 (by decide) (q := 31) rfl ?_
        refine Jvm.OwnW.lloadN O5 d1_31 rfl (q := 32) rfl ?_
        refine Jvm.OwnW.lstore O5 d1_32 (L' := #[.val (.long p1), .second, .val (.long p2), .second, .val (.ref a2), .val (.int z), .val (.long p2), .second]) (by rcases h67 with ⟨rfl, rfl⟩ | ⟨_, rfl, rfl⟩ <;> rfl) (q := 34) rfl ?_
        refine Jvm.OwnW.aload O5 d1_34 rfl rfl (q := 36) rfl ?_
        refine Jvm.OwnW.iload O5 d1_36 rfl (q := 38) rfl ?_
        refine Jvm.OwnW.lload O5 d1_38 rfl (q := 40) rfl ?_
        refine Jvm.OwnW.iconst O5 d1_40 (r := (4 : Int32)) rfl (q := 41) rfl ?_
        refine Jvm.OwnW.iload O5 d1_41 rfl (q := 43) rfl ?_
        refine Jvm.OwnW.bipush O5 d1_43 (r := (16 : Int32)) rfl (q := 45) rfl ?_
        refine Jvm.OwnW.irem O5 d1_45 (by decide) rfl (q := 46) rfl ?_
        refine Jvm.OwnW.imul O5 d1_46 rfl (q := 47) rfl ?_
        refine Jvm.OwnW.lushr O5 d1_47 rfl (q := 48) rfl ?_
        refine Jvm.OwnW.l2i O5 d1_48 rfl (q := 49) rfl ?_
        refine Jvm.OwnW.bipush O5 d1_49 (r := (15 : Int32)) rfl (q := 51) rfl ?_
        obtain ⟨xv, hxv⟩ : ∃ zz_, (((p2.toUInt64 >>> (((4 : Int32) * (z % (16 : Int32))) &&& 0x3f).toInt64.toUInt64).toInt64).toInt32 &&& (15 : Int32)) = zz_ := ⟨_, rfl⟩
        refine Jvm.OwnW.iand O5 d1_51 hxv (q := 52) rfl ?_
        refine Jvm.OwnW.iasA O5 d1_52 V_a2 (i := i) hi (by omega) (Or.inr N2) (q := 53) rfl ?_
        intro T7 h7 O7 W7
        have V_a2 := V_a2.set W7 (by omega)
        have S_G := S_G.wr W7
        have V_ag := V_ag.other W7 ne_ag_a2
        have hxx : xv = own_nbs p1 p2 i := by rw [← hxv, own_nbs, if_neg (fun q => hc24 (lt32 (by rw [hi]; exact Int.ofNat_lt.mpr q)))]; exact own_A _ _ _ hi (by omega)
        have V_a2 : Ar Z h7 a2 .int 28 (fun j => if j < (i + 1) then .int (own_nbs p1 p2 j) else .int (0 : Int32)) := V_a2.congr (fun j hj => by rw [hxx]; exact fill_step (fun j => .int (own_nbs p1 p2 j)) _ i j)
        refine Jvm.OwnW.iinc O7 d1_53 rfl (L' := #[.val (.long p1), .second, .val (.long p2), .second, .val (.ref a2), .val (.int (z + (1 : Int32))), .val (.long p2), .second]) rfl (q := 56) rfl ?_
        refine Jvm.OwnW.goto O7 d1_56 (by decide) (q := 11) rfl ?_
        exact ih _ _ O7 (i + 1) _ (inc32 hi (by omega)) (by omega) _ _ (Or.inr ⟨_, rfl, rfl⟩) S_G V_ag V_a2
  exact lp 28 _ _ O2 0 _ rfl rfl _ _ (Or.inl ⟨rfl, rfl⟩) S_G V_ag V_a2
theorem d2_0 : decode method_2_code 0 = .ok (.lload_n 0, 1) := by decide +kernel
theorem d2_1 : decode method_2_code 1 = .ok (.bipush 60, 2) := by decide +kernel
theorem d2_3 : decode method_2_code 3 = .ok (.iconst 4, 1) := by decide +kernel
theorem d2_4 : decode method_2_code 4 = .ok (.iload_n 2, 1) := by decide +kernel
theorem d2_5 : decode method_2_code 5 = .ok (.imul, 1) := by decide +kernel
theorem d2_6 : decode method_2_code 6 = .ok (.isub, 1) := by decide +kernel
theorem d2_7 : decode method_2_code 7 = .ok (.lshl, 1) := by decide +kernel
theorem d2_8 : decode method_2_code 8 = .ok (.bipush 60, 2) := by decide +kernel
theorem d2_10 : decode method_2_code 10 = .ok (.lushr, 1) := by decide +kernel
theorem d2_11 : decode method_2_code 11 = .ok (.l2i, 1) := by decide +kernel
theorem d2_12 : decode method_2_code 12 = .ok (.ireturn, 1) := by decide +kernel
def fn_2 (p1 : Int64) (p2 : Int32) : Int32 := (((p1 <<< (((60 : Int32) - ((4 : Int32) * p2)) &&& 0x3f).toInt64).toUInt64 >>> ((60 : Int32) &&& 0x3f).toInt64.toUInt64).toInt64).toInt32
theorem ef_2 (p1 : Int64) (p2 : Int32) (m : MethodId) : entryFrame m #[(.long p1), (.int p2)] 3 = mkF m 0 #[.val (.long p1), .second, .val (.int p2)] [] := by first | (simp [entryFrame, mkF, argsToLocals, Value.category, maxLocals]; done) | rfl
theorem pn_2 : plainFor (⟨"com/example/bidwright/bidwright/game/PackedGoodsUnpackPinLaw", "nibble", "(JI)I"⟩ : MethodName) = true := by first | exact plainFor_of_name (by first | (simp [plainName, overriddenIn]; done) | decide +kernel) | decide +kernel
set_option maxRecDepth 65536 in
set_option maxHeartbeats 40000000 in
theorem rm_2 (l : Launch) (Z : State) (a0 : Array Value) (hw : ∀ d ∈ tables_1, d.before a0 Z = true) (p1 : Int64) (p2 : Int32) (h0 : Heap)  :
    Met l Z (⟨"com/example/bidwright/bidwright/game/PackedGoodsUnpackPinLaw", "nibble", "(JI)I"⟩ : MethodName) method_2_code 3 (some .int) [] ({ frames := 0, cells := 0, slots := 0, locals := 0 } : Room) #[(.long p1), (.int p2)] [] h0 (fun v h => v = some (Value.int (fn_2 p1 p2))) := by
  refine Met.mk pn_2 (ef_2 p1 p2) ?_
  intro C T hs0 O
  show Go C [] (fun v h => v = some (Value.int (fn_2 p1 p2))) 0 0 (T.setTop (mkF C.m 0 #[.val (.long p1), .second, .val (.int p2)] []))
  refine Jvm.OwnW.lloadN O d2_0 rfl (q := 1) rfl ?_
  refine Jvm.OwnW.bipush O d2_1 (r := (60 : Int32)) rfl (q := 3) rfl ?_
  refine Jvm.OwnW.iconst O d2_3 (r := (4 : Int32)) rfl (q := 4) rfl ?_
  refine Jvm.OwnW.iloadN O d2_4 rfl (q := 5) rfl ?_
  refine Jvm.OwnW.imul O d2_5 rfl (q := 6) rfl ?_
  refine Jvm.OwnW.isub O d2_6 rfl (q := 7) rfl ?_
  refine Jvm.OwnW.lshl O d2_7 rfl (q := 8) rfl ?_
  refine Jvm.OwnW.bipush O d2_8 (r := (60 : Int32)) rfl (q := 10) rfl ?_
  refine Jvm.OwnW.lushr O d2_10 rfl (q := 11) rfl ?_
  refine Jvm.OwnW.l2i O d2_11 rfl (q := 12) rfl ?_
  exact Jvm.OwnW.retI O d2_12 rfl (by decide) (by decide) (by show some (Value.int (((p1 <<< (((60 : Int32) - ((4 : Int32) * p2)) &&& 0x3f).toInt64).toUInt64 >>> ((60 : Int32) &&& 0x3f).toInt64.toUInt64).toInt64).toInt32) = some (Value.int (fn_2 p1 p2)); rw [fn_2])
theorem own_n1 (p q : Int64) (z : Int32) (n : Nat) (hz : z.toInt = (n : Int)) (h : z < 16) : fn_2 p z = own_nbs p q n := by
  rw [Int32.lt_iff_toInt_lt, hz] at h
  have h2 : n < 16 := Int.ofNat_lt.mp h
  rw [own_nbs, if_pos h2, Nat.mod_eq_of_lt h2]; exact own_B p z n hz h2
theorem own_n2 (p q : Int64) (z : Int32) (n : Nat) (hz : z.toInt = (n : Int)) (hn : n < 28) (h : ¬ z < 16) : fn_2 q (z - 16) = own_nbs p q n := by
  have h16 : (16 : Int32).toInt = 16 := rfl
  have h2 : ¬ n < 16 := fun c => h (lt32 (by omega))
  have h3 : n % 16 = n - 16 := by omega
  rw [own_nbs, if_neg h2, h3]; exact own_B q _ _ (by rw [sub32 (by omega) (by omega)]; omega) (by omega)
theorem pd_0 : parseMethodDescriptor "(JJ)[I" = some ⟨[.long, .long], some (.array .int)⟩ := by decide +kernel
theorem pd_1 : parseMethodDescriptor "(JI)I" = some ⟨[.long, .int], some .int⟩ := by decide +kernel
theorem ef_0 (p0 : Int64) (p1 : Int64) (p2 : Int32) (p3 : Int32) (ag : Addr) (m : MethodId) : entryFrame m #[(.long p0), (.long p1), (.int p2), (.int p3)] maxLocals = mkF m 0 #[.val (.long p0), .second, .val (.long p1), .second, .val (.int p2), .val (.int p3), .unset, .unset, .unset, .unset, .unset] [] := by first | (simp [entryFrame, mkF, argsToLocals, Value.category, maxLocals]; done) | rfl
theorem pn_0 : plainFor x = true := by first | exact plainFor_of_name (by first | (simp [plainName, overriddenIn]; done) | decide +kernel) | decide +kernel
set_option maxRecDepth 65536 in
set_option maxHeartbeats 40000000 in
theorem rm_0 (l : Launch) (Z : State) (a0 : Array Value) (hw : ∀ d ∈ tables_1, d.before a0 Z = true) (wds : List Jvm.Cond) (p0 : Int64) (p1 : Int64) (p2 : Int32) (p3 : Int32) (ag : Addr) (fG : Nat → Value) (h0 : Heap) (S_G : Sta Z h0 "com/example/bidwright/bidwright/game/PackedGoods" "GOODS" "[Lcom/example/bidwright/bidwright/game/Good;" (.ref ag)) (V_ag : Ar Z h0 ag (.object "com/example/bidwright/bidwright/game/Good") 28 fG) :
    Met l Z x code maxLocals ret wds room_1 #[(.long p0), (.long p1), (.int p2), (.int p3)] [] h0 (fun v h => v = some (.int 1)) := by
  refine Met.mk pn_0 (ef_0 p0 p1 p2 p3 ag) ?_
  intro C T hs0 O
  show Go C [] (fun v h => v = some (.int 1)) 16 128 (T.setTop (mkF C.m 0 #[.val (.long p0), .second, .val (.long p1), .second, .val (.int p2), .val (.int p3), .unset, .unset, .unset, .unset, .unset] []))
  refine Jvm.OwnW.lloadN O at_0 rfl (q := 1) rfl ?_
  refine Jvm.OwnW.lloadN O at_1 rfl (q := 2) rfl ?_
  refine Jvm.OwnW.callS O (y := (⟨"com/example/bidwright/bidwright/game/PackedGoods", "unpack", "(JJ)[I"⟩ : MethodName)) (argsL := [(.long p0), (.long p1)]) (rest := []) at_2 (hw _ (List.mem_of_getElem? (i := 0) rfl)) (hw _ (List.mem_of_getElem? (i := 1) rfl)) (hw _ (List.mem_of_getElem? (i := 2) rfl)) (hw _ (List.mem_of_getElem? (i := 3) rfl)) (by decide) (rm_1 l Z a0 hw p0 p1 ag fG h0 S_G V_ag) rfl pd_0 rfl (hst := rfl) (W := 0) (Nat.le_of_eq rfl) (by decide) (by decide) (c2 := 1) (s2 := 28) rfl rfl (by decide) (by decide) all0 (q := 5) rfl ?_
  intro v1 T1 h1 O1 K1 q1
  obtain ⟨au, rfl, V_au⟩ := q1
  have S_G := staKeep S_G K1
  have V_ag := V_ag.keep K1 nin0
  show Go C _ _ _ _ (T1.setTop (mkF C.m 5 #[.val (.long p0), .second, .val (.long p1), .second, .val (.int p2), .val (.int p3), .unset, .unset, .unset, .unset, .unset] [(.ref au)]))
  refine Jvm.OwnW.astore O1 at_5 rfl (L' := #[.val (.long p0), .second, .val (.long p1), .second, .val (.int p2), .val (.int p3), .val (.ref au), .unset, .unset, .unset, .unset]) rfl (q := 7) rfl ?_
  refine Jvm.OwnW.aload O1 at_7 rfl rfl (q := 9) rfl ?_
  refine Jvm.OwnW.lenA O1 at_9 V_au (z := (28 : Int32)) rfl (q := 10) rfl ?_
  refine Jvm.OwnW.bipush O1 at_10 (r := (28 : Int32)) rfl (q := 12) rfl ?_
  refine Jvm.OwnW.icmpYes O1 at_12 (teq (show (28 : Int32) = (28 : Int32) from (by decide))).1 (by decide) (q := 17) rfl ?_
  refine Jvm.OwnW.iload O1 at_17 rfl (q := 19) rfl ?_
  refine Jvm.OwnW.ldcI O1 at_19 (hw _ (List.mem_of_getElem? (i := 7) rfl)) (q := 21) rfl ?_
  refine Jvm.OwnW.iand O1 at_21 rfl (q := 22) rfl ?_
  refine Jvm.OwnW.bipush O1 at_22 (r := (28 : Int32)) rfl (q := 24) rfl ?_
  obtain ⟨i, hi⟩ : ∃ zz_, ((p2 &&& (2147483647 : Int32)) % (28 : Int32)) = zz_ := ⟨_, rfl⟩
  refine Jvm.OwnW.irem O1 at_24 (by decide) hi (q := 25) rfl ?_
  obtain ⟨ni, hni, hi28⟩ := rem_in p2 28 (by decide)
  rw [hi] at hni
  have hi28 : ni < 28 := by have : (28 : Int32).toInt = 28 := rfl; omega
  refine Jvm.OwnW.istore O1 at_25 (L' := #[.val (.long p0), .second, .val (.long p1), .second, .val (.int p2), .val (.int p3), .val (.ref au), .val (.int i), .unset, .unset, .unset]) rfl (q := 27) rfl ?_
  refine Jvm.OwnW.iload O1 at_27 rfl (q := 29) rfl ?_
  refine Jvm.OwnW.ldcI O1 at_29 (hw _ (List.mem_of_getElem? (i := 7) rfl)) (q := 31) rfl ?_
  refine Jvm.OwnW.iand O1 at_31 rfl (q := 32) rfl ?_
  refine Jvm.OwnW.bipush O1 at_32 (r := (28 : Int32)) rfl (q := 34) rfl ?_
  obtain ⟨j, hj⟩ : ∃ zz_, ((p3 &&& (2147483647 : Int32)) % (28 : Int32)) = zz_ := ⟨_, rfl⟩
  refine Jvm.OwnW.irem O1 at_34 (by decide) hj (q := 35) rfl ?_
  obtain ⟨nj, hnj, hj28⟩ := rem_in p3 28 (by decide)
  rw [hj] at hnj
  have hj28 : nj < 28 := by have : (28 : Int32).toInt = 28 := rfl; omega
  refine Jvm.OwnW.istore O1 at_35 (L' := #[.val (.long p0), .second, .val (.long p1), .second, .val (.int p2), .val (.int p3), .val (.ref au), .val (.int i), .val (.int j), .unset, .unset]) rfl (q := 37) rfl ?_
  refine Jvm.OwnW.iload O1 at_37 rfl (q := 39) rfl ?_
  have J62 : ∀ (T2 : State), On l Z [] room_1 x.cls x.name code 11 ret C T2 h1 1 28 → ∀ (ei : Int32), ∀ (hei : own_nbs p0 p1 ni = ei), Go C [] (fun v h => v = some (.int 1)) 16 128 (T2.setTop (mkF C.m 62 #[.val (.long p0), .second, .val (.long p1), .second, .val (.int p2), .val (.int p3), .val (.ref au), .val (.int i), .val (.int j), .unset, .unset] [(.int ei)])) := by
    intro T2 O2 ei hei 
    refine Jvm.OwnW.istore O2 at_62 (L' := #[.val (.long p0), .second, .val (.long p1), .second, .val (.int p2), .val (.int p3), .val (.ref au), .val (.int i), .val (.int j), .val (.int ei), .unset]) rfl (q := 64) rfl ?_
    refine Jvm.OwnW.iload O2 at_64 rfl (q := 66) rfl ?_
    have J89 : ∀ (T3 : State), On l Z [] room_1 x.cls x.name code 11 ret C T3 h1 1 28 → ∀ (ej : Int32), ∀ (hej : own_nbs p0 p1 nj = ej), Go C [] (fun v h => v = some (.int 1)) 16 128 (T3.setTop (mkF C.m 89 #[.val (.long p0), .second, .val (.long p1), .second, .val (.int p2), .val (.int p3), .val (.ref au), .val (.int i), .val (.int j), .val (.int ei), .unset] [(.int ej)])) := by
      intro T3 O3 ej hej 
      refine Jvm.OwnW.istore O3 at_89 (L' := #[.val (.long p0), .second, .val (.long p1), .second, .val (.int p2), .val (.int p3), .val (.ref au), .val (.int i), .val (.int j), .val (.int ei), .val (.int ej)]) rfl (q := 91) rfl ?_
      refine Jvm.OwnW.aload O3 at_91 rfl rfl (q := 93) rfl ?_
      refine Jvm.OwnW.iload O3 at_93 rfl (q := 95) rfl ?_
      refine Jvm.OwnW.ialA O3 at_95 V_au (i := ni) hni hi28 (v := (.int (own_nbs p0 p1 ni))) rfl (q := 96) rfl ?_
      refine Jvm.OwnW.iload O3 at_96 rfl (q := 98) rfl ?_
      refine Jvm.OwnW.icmpNo O3 at_98 (teq (show (own_nbs p0 p1 ni) = ei from hei)).2 (q := 101) rfl ?_
      refine Jvm.OwnW.aload O3 at_101 rfl rfl (q := 103) rfl ?_
      refine Jvm.OwnW.iload O3 at_103 rfl (q := 105) rfl ?_
      refine Jvm.OwnW.ialA O3 at_105 V_au (i := nj) hnj hj28 (v := (.int (own_nbs p0 p1 nj))) rfl (q := 106) rfl ?_
      refine Jvm.OwnW.iload O3 at_106 rfl (q := 108) rfl ?_
      refine Jvm.OwnW.icmpNo O3 at_108 (teq (show (own_nbs p0 p1 nj) = ej from hej)).2 (q := 111) rfl ?_
      refine Jvm.OwnW.iconst O3 at_111 (r := (1 : Int32)) rfl (q := 112) rfl ?_
      refine Jvm.OwnW.goto O3 at_112 (by decide) (q := 116) rfl ?_
      exact Jvm.OwnW.retB O3 at_116 rfl (Or.inr rfl) (by decide) (by decide) rfl
    refine Jvm.OwnW.bipush O2 at_66 (r := (16 : Int32)) rfl (q := 68) rfl ?_
    by_cases hc68 : j < (16 : Int32)
    · refine Jvm.OwnW.icmpNo O2 at_68 (tlt hc68).2.1 (q := 71) rfl ?_
      refine Jvm.OwnW.lloadN O2 at_71 rfl (q := 72) rfl ?_
      refine Jvm.OwnW.iload O2 at_72 rfl (q := 74) rfl ?_
      refine Jvm.OwnW.callS0 O2 (y := (⟨"com/example/bidwright/bidwright/game/PackedGoodsUnpackPinLaw", "nibble", "(JI)I"⟩ : MethodName)) (argsL := [(.long p0), (.int j)]) (rest := []) at_74 (hw _ (List.mem_of_getElem? (i := 8) rfl)) (hw _ (List.mem_of_getElem? (i := 9) rfl)) (hw _ (List.mem_of_getElem? (i := 10) rfl)) (hw _ (List.mem_of_getElem? (i := 11) rfl)) (by decide) (rm_2 l Z a0 hw p0 j h1) rfl pd_1 rfl (hst := rfl) (W := 0) (Nat.le_of_eq rfl) (by decide) (by decide) (c2 := 1) (s2 := 28) rfl rfl (by decide) (by decide) rfl rfl (q := 77) rfl ?_
      intro v4 T4 O4 q4
      obtain rfl := q4
      show Go C _ _ _ _ (T4.setTop (mkF C.m 77 #[.val (.long p0), .second, .val (.long p1), .second, .val (.int p2), .val (.int p3), .val (.ref au), .val (.int i), .val (.int j), .val (.int ei), .unset] [(.int (fn_2 p0 j))]))
      refine Jvm.OwnW.goto O4 at_77 (by decide) (q := 89) rfl ?_
      exact J89 _ O4 _ (own_n1 p0 p1 _ _ hnj hc68).symm 
    · refine Jvm.OwnW.icmpYes O2 at_68 (flt hc68).2.1 (by decide) (q := 80) rfl ?_
      refine Jvm.OwnW.lloadN O2 at_80 rfl (q := 81) rfl ?_
      refine Jvm.OwnW.iload O2 at_81 rfl (q := 83) rfl ?_
      refine Jvm.OwnW.bipush O2 at_83 (r := (16 : Int32)) rfl (q := 85) rfl ?_
      refine Jvm.OwnW.isub O2 at_85 rfl (q := 86) rfl ?_
      refine Jvm.OwnW.callS0 O2 (y := (⟨"com/example/bidwright/bidwright/game/PackedGoodsUnpackPinLaw", "nibble", "(JI)I"⟩ : MethodName)) (argsL := [(.long p1), (.int (j - (16 : Int32)))]) (rest := []) at_86 (hw _ (List.mem_of_getElem? (i := 8) rfl)) (hw _ (List.mem_of_getElem? (i := 9) rfl)) (hw _ (List.mem_of_getElem? (i := 10) rfl)) (hw _ (List.mem_of_getElem? (i := 11) rfl)) (by decide) (rm_2 l Z a0 hw p1 (j - (16 : Int32)) h1) rfl pd_1 rfl (hst := rfl) (W := 0) (Nat.le_of_eq rfl) (by decide) (by decide) (c2 := 1) (s2 := 28) rfl rfl (by decide) (by decide) rfl rfl (q := 89) rfl ?_
      intro v5 T5 O5 q5
      obtain rfl := q5
      show Go C _ _ _ _ (T5.setTop (mkF C.m 89 #[.val (.long p0), .second, .val (.long p1), .second, .val (.int p2), .val (.int p3), .val (.ref au), .val (.int i), .val (.int j), .val (.int ei), .unset] [(.int (fn_2 p1 (j - (16 : Int32))))]))
      exact J89 _ O5 _ (own_n2 p0 p1 _ _ hnj hj28 hc68).symm 
  refine Jvm.OwnW.bipush O1 at_39 (r := (16 : Int32)) rfl (q := 41) rfl ?_
  by_cases hc41 : i < (16 : Int32)
  · refine Jvm.OwnW.icmpNo O1 at_41 (tlt hc41).2.1 (q := 44) rfl ?_
    refine Jvm.OwnW.lloadN O1 at_44 rfl (q := 45) rfl ?_
    refine Jvm.OwnW.iload O1 at_45 rfl (q := 47) rfl ?_
    refine Jvm.OwnW.callS0 O1 (y := (⟨"com/example/bidwright/bidwright/game/PackedGoodsUnpackPinLaw", "nibble", "(JI)I"⟩ : MethodName)) (argsL := [(.long p0), (.int i)]) (rest := []) at_47 (hw _ (List.mem_of_getElem? (i := 8) rfl)) (hw _ (List.mem_of_getElem? (i := 9) rfl)) (hw _ (List.mem_of_getElem? (i := 10) rfl)) (hw _ (List.mem_of_getElem? (i := 11) rfl)) (by decide) (rm_2 l Z a0 hw p0 i h1) rfl pd_1 rfl (hst := rfl) (W := 0) (Nat.le_of_eq rfl) (by decide) (by decide) (c2 := 1) (s2 := 28) rfl rfl (by decide) (by decide) rfl rfl (q := 50) rfl ?_
    intro v6 T6 O6 q6
    obtain rfl := q6
    show Go C _ _ _ _ (T6.setTop (mkF C.m 50 #[.val (.long p0), .second, .val (.long p1), .second, .val (.int p2), .val (.int p3), .val (.ref au), .val (.int i), .val (.int j), .unset, .unset] [(.int (fn_2 p0 i))]))
    refine Jvm.OwnW.goto O6 at_50 (by decide) (q := 62) rfl ?_
    exact J62 _ O6 _ (own_n1 p0 p1 _ _ hni hc41).symm 
  · refine Jvm.OwnW.icmpYes O1 at_41 (flt hc41).2.1 (by decide) (q := 53) rfl ?_
    refine Jvm.OwnW.lloadN O1 at_53 rfl (q := 54) rfl ?_
    refine Jvm.OwnW.iload O1 at_54 rfl (q := 56) rfl ?_
    refine Jvm.OwnW.bipush O1 at_56 (r := (16 : Int32)) rfl (q := 58) rfl ?_
    refine Jvm.OwnW.isub O1 at_58 rfl (q := 59) rfl ?_
    refine Jvm.OwnW.callS0 O1 (y := (⟨"com/example/bidwright/bidwright/game/PackedGoodsUnpackPinLaw", "nibble", "(JI)I"⟩ : MethodName)) (argsL := [(.long p1), (.int (i - (16 : Int32)))]) (rest := []) at_59 (hw _ (List.mem_of_getElem? (i := 8) rfl)) (hw _ (List.mem_of_getElem? (i := 9) rfl)) (hw _ (List.mem_of_getElem? (i := 10) rfl)) (hw _ (List.mem_of_getElem? (i := 11) rfl)) (by decide) (rm_2 l Z a0 hw p1 (i - (16 : Int32)) h1) rfl pd_1 rfl (hst := rfl) (W := 0) (Nat.le_of_eq rfl) (by decide) (by decide) (c2 := 1) (s2 := 28) rfl rfl (by decide) (by decide) rfl rfl (q := 62) rfl ?_
    intro v7 T7 O7 q7
    obtain rfl := q7
    show Go C _ _ _ _ (T7.setTop (mkF C.m 62 #[.val (.long p0), .second, .val (.long p1), .second, .val (.int p2), .val (.int p3), .val (.ref au), .val (.int i), .val (.int j), .unset, .unset] [(.int (fn_2 p1 (i - (16 : Int32))))]))
    exact J62 _ O7 _ (own_n2 p0 p1 _ _ hni hi28 hc41).symm 
set_option maxRecDepth 65536 in
set_option maxHeartbeats 40000000 in
theorem comes_1 {Post : Tables → Env → Array Value → State → Outcome → State → Prop} (hpost : ∀ tb e args s v u, (limb_1_1.after args s (.returned v) u = true ∧ limb_1_2.after args s (.returned v) u = true ∧ True) → FrameEnd s (.returned v) u (Jvm.fieldLocs frame_1_writes args s ++ Jvm.arrayLocs frame_1_arrays args s ++ Jvm.staticLocs frame_1_statics s) 16 128 → Post tb e args s (.returned v) u) :
    ArmFor flags0 classFile x code maxLocals ret World_1 tables_1 room_1 Calls_1 rest_1 Pre_1 Post := by
  intro l hfl _ _ p e ha hc hk s m args below hf hA hF happ hP
  obtain ⟨hcalls, hrest, hpre⟩ := hP
  obtain ⟨-, -, -, hnamed, -, -, -, hat⟩ := (Spec.applies_iff hf).mp happ
  obtain ⟨hg, hn⟩ := and_e (Cond.before_iff.mp (show (Jvm.Cond.and given_1 narrow_1).before args s = true from hpre))
  obtain ⟨hn1, hg⟩ := and_e hg
  obtain ⟨w0, w1, w2, w3, rfl⟩ : ∃ w0 w1 w2 w3 : Value, args = #[w0, w1, w2, w3] := by
    have hs : args.size = 4 := by simpa [Cond.value, given_1] using hn1
    obtain ⟨L⟩ := args
    match L, hs with
    | [w0, w1, w2, w3], _ => exact ⟨w0, w1, w2, w3, rfl⟩
  have hw := fun d (hd : d ∈ tables_1) => atoms_spec (ws := Jvm.Cond.code x code maxLocals ret :: tables_1) hat d (List.mem_cons_of_mem _ hd)
  obtain ⟨hg0, hg⟩ := and_e hg
  obtain ⟨i0, e0⟩ := isL_v hg0
  obtain rfl : w0 = (.long i0) := Option.some.inj e0
  obtain ⟨hg1, hg⟩ := and_e hg
  obtain ⟨i1, e1⟩ := isL_v hg1
  obtain rfl : w1 = (.long i1) := Option.some.inj e1
  obtain ⟨hg2, hg⟩ := and_e hg
  obtain ⟨i2, e2⟩ := is_v hg2
  obtain rfl : w2 = (.int i2) := Option.some.inj e2
  obtain ⟨i3, e3⟩ := is_v hg
  obtain rfl : w3 = (.int i3) := Option.some.inj e3
  obtain ⟨hn1', hn2'⟩ := and_e hn
  obtain ⟨ag, eg⟩ := arr_v hn1'
  have S_G := Sta.start eg (Or.inr ⟨hw _ (List.mem_of_getElem? (i := 2) rfl), hw _ (List.mem_of_getElem? (i := 5) rfl)⟩)
  obtain ⟨cG, A_G⟩ := Arr.start eg hn1'
  have hsz : cG.slots.size = 28 := by
    obtain ⟨q1, q2⟩ := lenEq eg (A_G.fin (Vm.Alike.refl _)) hn2'
    have q3 := congrArg Int32.toInt q1
    rw [len_toInt q2] at q3
    have q4 : (28 : Int32).toInt = 28 := rfl
    omega
  obtain ⟨fG, V_ag⟩ := Ar.of_arr A_G hsz (by decide)
  obtain ⟨n, o, h1, h2, h3, _, L, rfl, ⟨N, -, -, rfl⟩, hq⟩ := rm_0 l s _ hw tables_1 i0 i1 i2 i3 ag fG s.heap S_G V_ag p e ha hc hk s m _ below hf ((Spec.applies_iff_loose hf).mp happ).1 ⟨rfl, State.Warmed39.refl s, rfl⟩ trivial
  refine ⟨n, _, h1, h2, h3, hpost _ _ _ _ _ _ ⟨Cond.after_iff.mpr rfl, Cond.after_iff.mpr (eq_i res_at (Term.int_eval (1)) rfl), trivial⟩ ⟨hq.1, hq.2.1, (hq.2.2.sift fun y hy => Or.inr ((N y hy).elim (fun z => nomatch z) id)).mono (by decide) (by decide)⟩⟩
theorem main_1_1 : Claimed_1_1 := comes_1 fun _ _ _ _ _ _ h hF => ⟨h.1, hF⟩
theorem main_1_2 : Claimed_1_2 := comes_1 fun _ _ _ _ _ _ h hF => ⟨h.2.1, hF⟩
end Jvm.Pilot.@@N@@
namespace Jvm.Pilot.@@N@@
open Jvm Jvm.ClassFile Sem Op Lib Jvm.Free Jvm.Stand Jvm.Pilot.@@N@@.Jvm.D
/-! MADE BY PROGRAM (witnessworld.py) out of the Statement's table words and the real class files: 14 classes; the members and pool entries that the words name. The judged class is class 1, her method 2. -/
namespace start1
open Jvm.ClassFile
def u (s : String) : CpInfo := .utf8 (stringToUtf16 s)
/-- a pool by its gaps: so many unusable entries, then the entry; so many at the end -/
def gap : Nat → List CpInfo → List CpInfo
  | 0, r => r
  | n + 1, r => .unusable :: gap n r
def poolList (es : List (Nat × CpInfo)) (last : Nat) : List CpInfo := es.foldr (fun e r => gap e.1 (e.2 :: r)) (gap last [])
def pool (es : List (Nat × CpInfo)) (last : Nat) : Array CpInfo := ⟨poolList es last⟩
def fileOf (pool : Array CpInfo) (this : Nat) (attrs : Array Attribute := #[]) (ms : Array MethodInfo := #[]) (fl : Nat := 33) (sup : Nat := 0) (ifs : Array Nat := #[]) (fds : Array FieldInfo := #[]) : ClassFile where
  minorVersion := 0
  majorVersion := 65
  constantPool := pool
  accessFlags := fl
  thisClass := this
  superClass := sup
  interfaces := ifs
  fields := fds
  methods := ms
  attributes := attrs
def plain (name : String) (sup : Option ClassId) : Class where
  name := name
  kind := .ordinary
  loader := none
  accessFlags := 33
  super := sup
  interfaces := #[]
  cf := none
  fields := #[]
  methods := #[]
  instanceTypes := #[]
  staticTypes := #[]
  resolved := #[]
  callSites := []
  init := .initialized
  statics := none
  mirror := none

def pool0 : Array CpInfo := pool [(5, u "<init>"), (0, u "()V"), (1, .class_ 10), (1, u "java/lang/Object")] 113

def k0m0 : Method := { name := "<init>", desc := "()V", sig := { parameters := [], returnType := none }, accessFlags := 1, code := none }
/-- java/lang/Object -/
def k0 : Class := { plain "java/lang/Object" none with
  accessFlags := 33
  interfaces := #[]
  cf := some (fileOf pool0 8 #[] #[{ accessFlags := 1, nameIndex := 5, descriptorIndex := 6, attributes := #[] }] 33 0 #[] #[])
  fields := #[]
  methods := #[k0m0]
  instanceTypes := #[]
  staticTypes := #[]
  resolved := Array.replicate 124 none
  statics := none }

def pool1 : Array CpInfo := pool [(2, .class_ 4), (1, u "java/lang/Object"), (0, u "<init>"), (0, u "()V"), (0, .methodref 8 9), (0, .class_ 10), (0, .nameAndType 11 12), (0, u "com/example/bidwright/bidwright/game/PackedGoods"), (0, u "unpack"), (0, u "(JJ)[I"), (0, .integer 2147483647), (0, .methodref 15 16), (0, .class_ 17), (0, .nameAndType 18 19), (0, u "com/example/bidwright/bidwright/game/PackedGoodsUnpackPinLaw"), (0, u "nibble"), (0, u "(JI)I"), (2, u "law"), (0, u "(JJII)Z")] 5

def k1m0 : Method := { name := "<init>", desc := "()V", sig := { parameters := [], returnType := none }, accessFlags := 2, code := none }
def k1c1 : Code := { maxStack := 5, maxLocals := 3, code := method_2_code, exceptionTable := #[], attributes := #[] }
def k1m1 : Method := { name := "nibble", desc := "(JI)I", sig := { parameters := [.long, .int], returnType := some .int }, accessFlags := 10, code := some k1c1 }
def k1c2 : Code := { maxStack := 4, maxLocals := 11, code := code, exceptionTable := #[], attributes := #[] }
def k1m2 : Method := { name := "law", desc := "(JJII)Z", sig := { parameters := [.long, .long, .int, .int], returnType := some .boolean }, accessFlags := 9, code := some k1c2 }
/-- com/example/bidwright/bidwright/game/PackedGoodsUnpackPinLaw -/
def k1 : Class := { plain "com/example/bidwright/bidwright/game/PackedGoodsUnpackPinLaw" (some 0) with
  accessFlags := 49
  interfaces := #[]
  cf := some (fileOf pool1 15 #[] #[{ accessFlags := 2, nameIndex := 5, descriptorIndex := 6, attributes := #[] }, { accessFlags := 10, nameIndex := 18, descriptorIndex := 19, attributes := #[] }, { accessFlags := 9, nameIndex := 22, descriptorIndex := 23, attributes := #[] }] 49 2 #[] #[])
  fields := #[]
  methods := #[k1m0, k1m1, k1m2]
  instanceTypes := #[]
  staticTypes := #[]
  resolved := Array.replicate 29 none
  statics := none }

def pool2 : Array CpInfo := pool [(3, .class_ 4), (0, u "com/example/bidwright/bidwright/game/PackedGoods"), (1, .class_ 8), (1, u "java/lang/Object"), (0, u "<init>"), (0, u "()V"), (0, .fieldref 3 12), (0, .nameAndType 13 14), (0, u "GOODS"), (0, u "[Lcom/example/bidwright/bidwright/game/Good;"), (20, u "BITS"), (0, u "I"), (2, u "PER_WORD"), (1, u "LOW_BIT_OF_EACH"), (0, u "J"), (2, u "unpack"), (0, u "(JJ)[I")] 12

def k2m0 : Method := { name := "<init>", desc := "()V", sig := { parameters := [], returnType := none }, accessFlags := 2, code := none }
def k2c1 : Code := { maxStack := 7, maxLocals := 8, code := prog_59_method_2_code, exceptionTable := #[], attributes := #[] }
def k2m1 : Method := { name := "unpack", desc := "(JJ)[I", sig := { parameters := [.long, .long], returnType := some (.array .int) }, accessFlags := 8, code := some k2c1 }
/-- com/example/bidwright/bidwright/game/PackedGoods -/
def k2 : Class := { plain "com/example/bidwright/bidwright/game/PackedGoods" (some 0) with
  accessFlags := 32
  interfaces := #[]
  cf := some (fileOf pool2 3 #[] #[{ accessFlags := 2, nameIndex := 9, descriptorIndex := 10, attributes := #[] }, { accessFlags := 8, nameIndex := 45, descriptorIndex := 46, attributes := #[] }] 32 6 #[] #[{ accessFlags := 24, nameIndex := 35, descriptorIndex := 36, attributes := #[] }, { accessFlags := 24, nameIndex := 39, descriptorIndex := 36, attributes := #[] }, { accessFlags := 26, nameIndex := 13, descriptorIndex := 14, attributes := #[] }, { accessFlags := 26, nameIndex := 41, descriptorIndex := 42, attributes := #[] }])
  fields := #[{ name := "BITS", type := .int, accessFlags := 24, slot := 0, constantValue := 0 }, { name := "PER_WORD", type := .int, accessFlags := 24, slot := 1, constantValue := 0 }, { name := "GOODS", type := (.array (.object "com/example/bidwright/bidwright/game/Good")), accessFlags := 26, slot := 2, constantValue := 0 }, { name := "LOW_BIT_OF_EACH", type := .long, accessFlags := 26, slot := 3, constantValue := 0 }]
  methods := #[k2m0, k2m1]
  instanceTypes := #[]
  staticTypes := #[.int, .int, (.array (.object "com/example/bidwright/bidwright/game/Good")), .long]
  resolved := Array.replicate 59 none
  statics := some 0 }

def pool3 : Array CpInfo := pool [(1, .class_ 2), (0, u "java/lang/constant/Constable"), (0, .class_ 4), (0, u "java/lang/Object")] 6

/-- java/lang/constant/Constable -/
def k3 : Class := { plain "java/lang/constant/Constable" (some 0) with
  accessFlags := 1537
  interfaces := #[]
  cf := some (fileOf pool3 1 #[] #[] 1537 3 #[] #[])
  fields := #[]
  methods := #[]
  instanceTypes := #[]
  staticTypes := #[]
  resolved := Array.replicate 11 none
  statics := none }

def pool4 : Array CpInfo := pool [(1, .class_ 2), (0, u "java/lang/Comparable"), (0, .class_ 4), (0, u "java/lang/Object")] 7

/-- java/lang/Comparable -/
def k4 : Class := { plain "java/lang/Comparable" (some 0) with
  accessFlags := 1537
  interfaces := #[]
  cf := some (fileOf pool4 1 #[] #[] 1537 3 #[] #[])
  fields := #[]
  methods := #[]
  instanceTypes := #[]
  staticTypes := #[]
  resolved := Array.replicate 12 none
  statics := none }

def pool5 : Array CpInfo := pool [(1, .class_ 2), (0, u "java/io/Serializable"), (0, .class_ 4), (0, u "java/lang/Object")] 2

/-- java/io/Serializable -/
def k5 : Class := { plain "java/io/Serializable" (some 0) with
  accessFlags := 1537
  interfaces := #[]
  cf := some (fileOf pool5 1 #[] #[] 1537 3 #[] #[])
  fields := #[]
  methods := #[]
  instanceTypes := #[]
  staticTypes := #[]
  resolved := Array.replicate 7 none
  statics := none }

def pool6 : Array CpInfo := pool [(2, .class_ 4), (1, u "java/lang/Enum"), (0, u "name"), (0, u "Ljava/lang/String;"), (2, u "ordinal"), (0, u "I"), (1, .class_ 14), (1, u "java/lang/Object"), (4, u "hash"), (86, .class_ 108), (1, u "java/lang/Enum$EnumDesc"), (2, .class_ 112), (0, u "java/lang/constant/Constable"), (0, .class_ 114), (0, u "java/lang/Comparable"), (0, .class_ 116), (0, u "java/io/Serializable")] 87

/-- java/lang/Enum -/
def k6 : Class := { plain "java/lang/Enum" (some 0) with
  accessFlags := 1057
  interfaces := #[3, 4, 5]
  cf := some (fileOf pool6 2 #[.nestMembers #[106]] #[] 1057 12 #[111, 113, 115] #[{ accessFlags := 18, nameIndex := 5, descriptorIndex := 6, attributes := #[] }, { accessFlags := 18, nameIndex := 9, descriptorIndex := 10, attributes := #[] }, { accessFlags := 2, nameIndex := 19, descriptorIndex := 10, attributes := #[] }])
  fields := #[{ name := "name", type := (.object "java/lang/String"), accessFlags := 18, slot := 0, constantValue := 0 }, { name := "ordinal", type := .int, accessFlags := 18, slot := 1, constantValue := 0 }, { name := "hash", type := .int, accessFlags := 2, slot := 2, constantValue := 0 }]
  methods := #[]
  instanceTypes := #[(.object "java/lang/String"), .int, .int]
  staticTypes := #[]
  resolved := Array.replicate 204 none
  statics := none }

def pool7 : Array CpInfo := pool [(1, .class_ 2), (0, u "com/example/bidwright/bidwright/game/Good"), (2, u "INFLIGHT_1"), (0, u "Lcom/example/bidwright/bidwright/game/Good;"), (2, u "INFLIGHT_2"), (2, u "INFLIGHT_3"), (2, u "INFLIGHT_4"), (2, u "OUTFLIGHT_2"), (2, u "OUTFLIGHT_3"), (2, u "OUTFLIGHT_4"), (2, u "OUTFLIGHT_5"), (2, u "TAMPA_TOWERS_1"), (2, u "TAMPA_TOWERS_2"), (2, u "TAMPA_TOWERS_3"), (2, u "TAMPA_TOWERS_4"), (2, u "SHORELINE_SHANTIES_1"), (2, u "SHORELINE_SHANTIES_2"), (2, u "SHORELINE_SHANTIES_3"), (2, u "SHORELINE_SHANTIES_4"), (2, u "ALLIGATOR_WRESTLING_1"), (2, u "ALLIGATOR_WRESTLING_2"), (2, u "ALLIGATOR_WRESTLING_3"), (2, u "ALLIGATOR_WRESTLING_4"), (2, u "AMUSEMENT_PARK_1"), (2, u "AMUSEMENT_PARK_2"), (2, u "AMUSEMENT_PARK_3"), (2, u "AMUSEMENT_PARK_4"), (2, u "MUSEUM_1"), (2, u "MUSEUM_2"), (2, u "MUSEUM_3"), (2, u "MUSEUM_4"), (2, u "$VALUES"), (0, u "[Lcom/example/bidwright/bidwright/game/Good;"), (6, .class_ 100), (1, u "java/lang/Enum"), (8, u "kind"), (0, u "Lcom/example/bidwright/bidwright/game/Good$Kind;"), (2, u "day"), (0, u "I"), (1, .class_ 118), (1, u "com/example/bidwright/bidwright/game/Good$Kind"), (0, u "label"), (7, u "Ljava/lang/String;"), (17, u "BY_KIND"), (0, u "Ljava/util/Map;"), (8, u "BY_CATEGORY"), (4, u "BY_LABEL"), (75, .class_ 237), (0, u "com/example/bidwright/bidwright/game/Good$Category"), (30, u "DAYS_PER_KIND")] 53

/-- com/example/bidwright/bidwright/game/Good -/
def k7 : Class := { plain "com/example/bidwright/bidwright/game/Good" (some 6) with
  accessFlags := 16433
  interfaces := #[]
  cf := some (fileOf pool7 1 #[.nestMembers #[116, 236]] #[] 16433 98 #[] #[{ accessFlags := 16409, nameIndex := 5, descriptorIndex := 6, attributes := #[] }, { accessFlags := 16409, nameIndex := 9, descriptorIndex := 6, attributes := #[] }, { accessFlags := 16409, nameIndex := 12, descriptorIndex := 6, attributes := #[] }, { accessFlags := 16409, nameIndex := 15, descriptorIndex := 6, attributes := #[] }, { accessFlags := 16409, nameIndex := 18, descriptorIndex := 6, attributes := #[] }, { accessFlags := 16409, nameIndex := 21, descriptorIndex := 6, attributes := #[] }, { accessFlags := 16409, nameIndex := 24, descriptorIndex := 6, attributes := #[] }, { accessFlags := 16409, nameIndex := 27, descriptorIndex := 6, attributes := #[] }, { accessFlags := 16409, nameIndex := 30, descriptorIndex := 6, attributes := #[] }, { accessFlags := 16409, nameIndex := 33, descriptorIndex := 6, attributes := #[] }, { accessFlags := 16409, nameIndex := 36, descriptorIndex := 6, attributes := #[] }, { accessFlags := 16409, nameIndex := 39, descriptorIndex := 6, attributes := #[] }, { accessFlags := 16409, nameIndex := 42, descriptorIndex := 6, attributes := #[] }, { accessFlags := 16409, nameIndex := 45, descriptorIndex := 6, attributes := #[] }, { accessFlags := 16409, nameIndex := 48, descriptorIndex := 6, attributes := #[] }, { accessFlags := 16409, nameIndex := 51, descriptorIndex := 6, attributes := #[] }, { accessFlags := 16409, nameIndex := 54, descriptorIndex := 6, attributes := #[] }, { accessFlags := 16409, nameIndex := 57, descriptorIndex := 6, attributes := #[] }, { accessFlags := 16409, nameIndex := 60, descriptorIndex := 6, attributes := #[] }, { accessFlags := 16409, nameIndex := 63, descriptorIndex := 6, attributes := #[] }, { accessFlags := 16409, nameIndex := 66, descriptorIndex := 6, attributes := #[] }, { accessFlags := 16409, nameIndex := 69, descriptorIndex := 6, attributes := #[] }, { accessFlags := 16409, nameIndex := 72, descriptorIndex := 6, attributes := #[] }, { accessFlags := 16409, nameIndex := 75, descriptorIndex := 6, attributes := #[] }, { accessFlags := 16409, nameIndex := 78, descriptorIndex := 6, attributes := #[] }, { accessFlags := 16409, nameIndex := 81, descriptorIndex := 6, attributes := #[] }, { accessFlags := 16409, nameIndex := 84, descriptorIndex := 6, attributes := #[] }, { accessFlags := 16409, nameIndex := 87, descriptorIndex := 6, attributes := #[] }, { accessFlags := 25, nameIndex := 268, descriptorIndex := 114, attributes := #[] }, { accessFlags := 26, nameIndex := 160, descriptorIndex := 146, attributes := #[] }, { accessFlags := 26, nameIndex := 145, descriptorIndex := 146, attributes := #[] }, { accessFlags := 26, nameIndex := 155, descriptorIndex := 146, attributes := #[] }, { accessFlags := 18, nameIndex := 109, descriptorIndex := 110, attributes := #[] }, { accessFlags := 18, nameIndex := 113, descriptorIndex := 114, attributes := #[] }, { accessFlags := 18, nameIndex := 119, descriptorIndex := 127, attributes := #[] }, { accessFlags := 4122, nameIndex := 90, descriptorIndex := 91, attributes := #[] }])
  fields := #[{ name := "INFLIGHT_1", type := (.object "com/example/bidwright/bidwright/game/Good"), accessFlags := 16409, slot := 0, constantValue := 0 }, { name := "INFLIGHT_2", type := (.object "com/example/bidwright/bidwright/game/Good"), accessFlags := 16409, slot := 1, constantValue := 0 }, { name := "INFLIGHT_3", type := (.object "com/example/bidwright/bidwright/game/Good"), accessFlags := 16409, slot := 2, constantValue := 0 }, { name := "INFLIGHT_4", type := (.object "com/example/bidwright/bidwright/game/Good"), accessFlags := 16409, slot := 3, constantValue := 0 }, { name := "OUTFLIGHT_2", type := (.object "com/example/bidwright/bidwright/game/Good"), accessFlags := 16409, slot := 4, constantValue := 0 }, { name := "OUTFLIGHT_3", type := (.object "com/example/bidwright/bidwright/game/Good"), accessFlags := 16409, slot := 5, constantValue := 0 }, { name := "OUTFLIGHT_4", type := (.object "com/example/bidwright/bidwright/game/Good"), accessFlags := 16409, slot := 6, constantValue := 0 }, { name := "OUTFLIGHT_5", type := (.object "com/example/bidwright/bidwright/game/Good"), accessFlags := 16409, slot := 7, constantValue := 0 }, { name := "TAMPA_TOWERS_1", type := (.object "com/example/bidwright/bidwright/game/Good"), accessFlags := 16409, slot := 8, constantValue := 0 }, { name := "TAMPA_TOWERS_2", type := (.object "com/example/bidwright/bidwright/game/Good"), accessFlags := 16409, slot := 9, constantValue := 0 }, { name := "TAMPA_TOWERS_3", type := (.object "com/example/bidwright/bidwright/game/Good"), accessFlags := 16409, slot := 10, constantValue := 0 }, { name := "TAMPA_TOWERS_4", type := (.object "com/example/bidwright/bidwright/game/Good"), accessFlags := 16409, slot := 11, constantValue := 0 }, { name := "SHORELINE_SHANTIES_1", type := (.object "com/example/bidwright/bidwright/game/Good"), accessFlags := 16409, slot := 12, constantValue := 0 }, { name := "SHORELINE_SHANTIES_2", type := (.object "com/example/bidwright/bidwright/game/Good"), accessFlags := 16409, slot := 13, constantValue := 0 }, { name := "SHORELINE_SHANTIES_3", type := (.object "com/example/bidwright/bidwright/game/Good"), accessFlags := 16409, slot := 14, constantValue := 0 }, { name := "SHORELINE_SHANTIES_4", type := (.object "com/example/bidwright/bidwright/game/Good"), accessFlags := 16409, slot := 15, constantValue := 0 }, { name := "ALLIGATOR_WRESTLING_1", type := (.object "com/example/bidwright/bidwright/game/Good"), accessFlags := 16409, slot := 16, constantValue := 0 }, { name := "ALLIGATOR_WRESTLING_2", type := (.object "com/example/bidwright/bidwright/game/Good"), accessFlags := 16409, slot := 17, constantValue := 0 }, { name := "ALLIGATOR_WRESTLING_3", type := (.object "com/example/bidwright/bidwright/game/Good"), accessFlags := 16409, slot := 18, constantValue := 0 }, { name := "ALLIGATOR_WRESTLING_4", type := (.object "com/example/bidwright/bidwright/game/Good"), accessFlags := 16409, slot := 19, constantValue := 0 }, { name := "AMUSEMENT_PARK_1", type := (.object "com/example/bidwright/bidwright/game/Good"), accessFlags := 16409, slot := 20, constantValue := 0 }, { name := "AMUSEMENT_PARK_2", type := (.object "com/example/bidwright/bidwright/game/Good"), accessFlags := 16409, slot := 21, constantValue := 0 }, { name := "AMUSEMENT_PARK_3", type := (.object "com/example/bidwright/bidwright/game/Good"), accessFlags := 16409, slot := 22, constantValue := 0 }, { name := "AMUSEMENT_PARK_4", type := (.object "com/example/bidwright/bidwright/game/Good"), accessFlags := 16409, slot := 23, constantValue := 0 }, { name := "MUSEUM_1", type := (.object "com/example/bidwright/bidwright/game/Good"), accessFlags := 16409, slot := 24, constantValue := 0 }, { name := "MUSEUM_2", type := (.object "com/example/bidwright/bidwright/game/Good"), accessFlags := 16409, slot := 25, constantValue := 0 }, { name := "MUSEUM_3", type := (.object "com/example/bidwright/bidwright/game/Good"), accessFlags := 16409, slot := 26, constantValue := 0 }, { name := "MUSEUM_4", type := (.object "com/example/bidwright/bidwright/game/Good"), accessFlags := 16409, slot := 27, constantValue := 0 }, { name := "DAYS_PER_KIND", type := .int, accessFlags := 25, slot := 28, constantValue := 0 }, { name := "BY_LABEL", type := (.object "java/util/Map"), accessFlags := 26, slot := 29, constantValue := 0 }, { name := "BY_KIND", type := (.object "java/util/Map"), accessFlags := 26, slot := 30, constantValue := 0 }, { name := "BY_CATEGORY", type := (.object "java/util/Map"), accessFlags := 26, slot := 31, constantValue := 0 }, { name := "kind", type := (.object "com/example/bidwright/bidwright/game/Good$Kind"), accessFlags := 18, slot := 3, constantValue := 0 }, { name := "day", type := .int, accessFlags := 18, slot := 4, constantValue := 0 }, { name := "label", type := (.object "java/lang/String"), accessFlags := 18, slot := 5, constantValue := 0 }, { name := "$VALUES", type := (.array (.object "com/example/bidwright/bidwright/game/Good")), accessFlags := 4122, slot := 32, constantValue := 0 }]
  methods := #[]
  instanceTypes := #[(.object "java/lang/String"), .int, .int, (.object "com/example/bidwright/bidwright/game/Good$Kind"), .int, (.object "java/lang/String")]
  staticTypes := #[(.object "com/example/bidwright/bidwright/game/Good"), (.object "com/example/bidwright/bidwright/game/Good"), (.object "com/example/bidwright/bidwright/game/Good"), (.object "com/example/bidwright/bidwright/game/Good"), (.object "com/example/bidwright/bidwright/game/Good"), (.object "com/example/bidwright/bidwright/game/Good"), (.object "com/example/bidwright/bidwright/game/Good"), (.object "com/example/bidwright/bidwright/game/Good"), (.object "com/example/bidwright/bidwright/game/Good"), (.object "com/example/bidwright/bidwright/game/Good"), (.object "com/example/bidwright/bidwright/game/Good"), (.object "com/example/bidwright/bidwright/game/Good"), (.object "com/example/bidwright/bidwright/game/Good"), (.object "com/example/bidwright/bidwright/game/Good"), (.object "com/example/bidwright/bidwright/game/Good"), (.object "com/example/bidwright/bidwright/game/Good"), (.object "com/example/bidwright/bidwright/game/Good"), (.object "com/example/bidwright/bidwright/game/Good"), (.object "com/example/bidwright/bidwright/game/Good"), (.object "com/example/bidwright/bidwright/game/Good"), (.object "com/example/bidwright/bidwright/game/Good"), (.object "com/example/bidwright/bidwright/game/Good"), (.object "com/example/bidwright/bidwright/game/Good"), (.object "com/example/bidwright/bidwright/game/Good"), (.object "com/example/bidwright/bidwright/game/Good"), (.object "com/example/bidwright/bidwright/game/Good"), (.object "com/example/bidwright/bidwright/game/Good"), (.object "com/example/bidwright/bidwright/game/Good"), .int, (.object "java/util/Map"), (.object "java/util/Map"), (.object "java/util/Map"), (.array (.object "com/example/bidwright/bidwright/game/Good"))]
  resolved := Array.replicate 322 none
  statics := none }

def pool8 : Array CpInfo := pool [(1, u "java/lang/Cloneable"), (0, .class_ 1), (0, u "java/lang/Object"), (0, .class_ 3)] 3

/-- java/lang/Cloneable -/
def k8 : Class := { plain "java/lang/Cloneable" (some 0) with
  accessFlags := 1537
  interfaces := #[]
  cf := some (fileOf pool8 2 #[] #[] 1537 4 #[] #[])
  fields := #[]
  methods := #[]
  instanceTypes := #[]
  staticTypes := #[]
  resolved := Array.replicate 8 none
  statics := none }

/-- the primitive byte -/
def k9 : Class := { plain "byte" none with kind := .primitive 'B', accessFlags := 0x411 }
/-- [B -/
def k10 : Class := { plain "[B" (some 0) with kind := .array 9 .byte, interfaces := #[8, 5], accessFlags := 1041 }

/-- the primitive int -/
def k11 : Class := { plain "int" none with kind := .primitive 'I', accessFlags := 0x411 }
/-- [I -/
def k12 : Class := { plain "[I" (some 0) with kind := .array 11 .int, interfaces := #[8, 5], accessFlags := 1041 }

/-- [Lcom/example/bidwright/bidwright/game/Good; -/
def k13 : Class := { plain "[Lcom/example/bidwright/bidwright/game/Good;" (some 0) with kind := .array 7 (.object "com/example/bidwright/bidwright/game/Good"), interfaces := #[8, 5], accessFlags := 1041 }

def heap : Heap := #[{ cls := 2, slots := #[.int 0, .int 0, .ref 1, .long 0], vm := .statics 2 },
  { cls := 13, slots := #[.null, .null, .null, .null, .null, .null, .null, .null, .null, .null, .null, .null, .null, .null, .null, .null, .null, .null, .null, .null, .null, .null, .null, .null, .null, .null, .null, .null], vm := .none }]
def classes : Array Class := #[k0, k1, k2, k3, k4, k5, k6, k7, k8, k9, k10, k11, k12, k13]
def interned : List (Array UInt16 × Addr) := []
def slotsUsed : Nat := 32
def theMethod : MethodId := ⟨1, 2⟩
def args0 : Array Value := #[.long 5, .long 7, .int 5, .int 5]
def aboutOver (below : List Frame) : State where
  vm := { classes := classes, interned := interned.toArray }
  heap := heap
  slotsUsed := slotsUsed
  threads := #[{ frames := .invoking theMethod args0 :: below }]
def below0 : List Frame := [.native { method := ⟨0, 0⟩, args := #[] }]
def about1 : State := aboutOver below0
def p0 : Program := .bare "" "" ""
def e0 : Env := launch0.env 0 0 0
theorem w_frames : about1.frames = Frame.invoking theMethod args0 :: below0 := rfl
set_option maxRecDepth 65536 in
theorem w_args : argsFit about1.vm theMethod args0 = true := by decide +kernel
set_option maxRecDepth 65536 in
theorem w_heap : heapFits about1 = true := by decide +kernel
set_option maxRecDepth 65536 in
theorem w_runnable : about1.curStatus? = some .runnable := by decide +kernel
set_option maxRecDepth 65536 in
theorem w_alone : about1.alone = true := by decide +kernel
set_option maxRecDepth 65536 in
theorem w_named : about1.methodNamed? x = some theMethod := by decide +kernel
set_option maxRecDepth 65536 in
theorem w_hears : about1.hears theMethod below0 = true := by decide +kernel
set_option maxRecDepth 65536 in
theorem w_ripe : about1.ripe theMethod args0 below0 = true := by decide +kernel
theorem w_running : about1.status = .running := rfl
set_option maxRecDepth 65536 in
theorem w_room : about1.hasRoom e0.platform room_1 = true :=
  launch0.hasRoom_least _ room_1 (by decide +kernel) (by decide +kernel) (by decide +kernel) (by decide +kernel) (by decide +kernel) (by decide +kernel)
theorem allAtoms_all (ts : List Jvm.Cond) (a : Array Jvm.Value) (st : Jvm.State) : (allAtoms ts).before a st = ts.all (fun c => c.before a st) := by
  induction ts with
  | nil => rfl
  | cons c t ih =>
    show (Jvm.Cond.and c (allAtoms t)).before a st = _
    rw [Jvm.Cond.before_and, ih, List.all_cons]
def words1 : List Jvm.Cond := Jvm.Cond.code x code maxLocals ret :: tables_1
/-- a 'code' word, met by the world's own term for the bytes: nothing is compared byte by byte -/
theorem code_word {y : MethodName} {bytes : ByteArray} {mx : Nat} {rt : Option FieldType} {a : Array Value} {s : State} {m : MethodId} {meth : Method} {c : Code} (h1 : s.methodNamed? y = some m) (h2 : s.vm.method? m = some meth) (h3 : meth.code = some c) (h4 : c.code = bytes)
    (h5 : (c.maxLocals == mx && c.exceptionTable.isEmpty && decide (c.maxStack ≤ mostOperands) && decide (meth.sig.returnType = rt) && !meth.locks && decide (parseMethodDescriptor y.desc = some meth.sig)) = true) : (Jvm.Cond.code y bytes mx rt).before a s = true := by
  simp only [Bool.and_eq_true, beq_iff_eq, Bool.not_eq_true', decide_eq_true_eq] at h5
  obtain ⟨⟨⟨⟨⟨g1, g2⟩, g3⟩, g4⟩, g5⟩, g6⟩ := h5
  simp [Cond.before, Cond.holds, Cond.value, h1, h2, h3, h4, g1, g2, g3, g4, g5, g6]
def isCode : Jvm.Cond → Bool
  | .code _ _ _ _ => true
  | _ => false
theorem all_split {L : List Jvm.Cond} {P : Jvm.Cond → Bool} (h1 : L.all (fun c => isCode c || P c) = true) (h2 : ∀ c ∈ L.filter isCode, P c = true) : L.all P = true := by
  refine List.all_eq_true.mpr fun c hc => ?_
  have h := List.all_eq_true.mp h1 c hc
  rcases Bool.eq_false_or_eq_true (isCode c) with hi | hi
  · exact h2 c (List.mem_filter.mpr ⟨hc, hi⟩)
  · simpa [hi] using h
set_option maxRecDepth 65536 in
theorem w_c0 : (Jvm.Cond.code x code maxLocals ret).before args0 about1 = true := code_word (m := ⟨1, 2⟩) (meth := k1m2) (c := k1c2) (by decide +kernel) rfl rfl rfl (by decide +kernel)
set_option maxRecDepth 65536 in
theorem w_c1 : (Jvm.Cond.code ({ cls := "com/example/bidwright/bidwright/game/PackedGoods", name := "unpack", desc := "(JJ)[I" } : Jvm.MethodName) prog_59_method_2_code (8 : Nat) (Option.some (Jvm.ClassFile.FieldType.array Jvm.ClassFile.FieldType.int))).before args0 about1 = true := code_word (m := ⟨2, 1⟩) (meth := k2m1) (c := k2c1) (by decide +kernel) rfl rfl rfl (by decide +kernel)
set_option maxRecDepth 65536 in
theorem w_c2 : (Jvm.Cond.code ({ cls := "com/example/bidwright/bidwright/game/PackedGoodsUnpackPinLaw", name := "nibble", desc := "(JI)I" } : Jvm.MethodName) method_2_code (3 : Nat) (Option.some Jvm.ClassFile.FieldType.int)).before args0 about1 = true := code_word (m := ⟨1, 1⟩) (meth := k1m1) (c := k1c1) (by decide +kernel) rfl rfl rfl (by decide +kernel)
def codes1 : List Jvm.Cond := [Jvm.Cond.code x code maxLocals ret, Jvm.Cond.code ({ cls := "com/example/bidwright/bidwright/game/PackedGoods", name := "unpack", desc := "(JJ)[I" } : Jvm.MethodName) prog_59_method_2_code (8 : Nat) (Option.some (Jvm.ClassFile.FieldType.array Jvm.ClassFile.FieldType.int)), Jvm.Cond.code ({ cls := "com/example/bidwright/bidwright/game/PackedGoodsUnpackPinLaw", name := "nibble", desc := "(JI)I" } : Jvm.MethodName) method_2_code (3 : Nat) (Option.some Jvm.ClassFile.FieldType.int)]
set_option maxRecDepth 65536 in
theorem codes_eq : words1.filter isCode = codes1 := rfl
theorem w_codes : ∀ c ∈ words1.filter isCode, c.before args0 about1 = true := by
  rw [codes_eq]
  intro c hc
  simp only [codes1, List.mem_cons, List.not_mem_nil, or_false] at hc
  rcases hc with rfl | rfl | rfl
  · exact w_c0
  · exact w_c1
  · exact w_c2
set_option maxRecDepth 65536 in
theorem w_t1 : words1.all (fun c => isCode c || c.before args0 about1) = true := by decide +kernel
theorem w_tables : (allAtoms (Jvm.Cond.code x code maxLocals ret :: tables_1)).before args0 about1 = true := by
  rw [allAtoms_all]
  show words1.all (fun c => c.before args0 about1) = true
  refine all_split ?_ w_codes
  rw [w_t1]
set_option maxRecDepth 65536 in
theorem w_case : (Jvm.Cond.and given_1 narrow_1).before args0 about1 = true := by decide +kernel
theorem w_applies : (headSpec (Jvm.Cond.code x code maxLocals ret :: tables_1) room_1).applies x e0.platform about1 = true :=
  (Spec.applies_iff w_frames).mpr ⟨w_running, w_runnable, w_alone, w_named, w_hears, w_ripe, w_room, w_tables⟩
theorem atStart : AtStart classFile x code maxLocals ret World_1 tables_1 room_1 Calls_1 rest_1 Pre_1 launch0 p0 e0 about1 theMethod args0 below0 :=
  ⟨lists_1, trivial, launch0.admits_env _ _ _, launch0.least_env, fairChoices_fair.cas, fairChoices_fair.clock, w_frames, w_args, w_heap, w_applies, trivial, trivial, w_case⟩
end start1
theorem witness_1 : WitnessClaimed_1 := ⟨start1.p0, start1.e0, start1.about1, start1.theMethod, start1.args0, start1.below0, start1.atStart⟩
end Jvm.Pilot.@@N@@
