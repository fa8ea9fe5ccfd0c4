import JvmDerived
import JvmDerived.Pilot.@@N@@Statement
import JvmDerived.Pilot.@@N@@Code
set_option linter.unusedVariables false
set_option linter.unusedSimpArgs false
namespace Jvm.OwnW
open Sem ClassFile Op Lib Jvm.Free Jvm.Stand Jvm.LawKit Jvm.RoadKit
/-- what stays the same all through one invocation -/
abbrev Ctx : Type := Program × Env × State × MethodId × Array Value × List Frame × Method × Code
abbrev Ctx.p (C : Ctx) : Program := C.1
abbrev Ctx.e (C : Ctx) : Env := C.2.1
abbrev Ctx.s (C : Ctx) : State := C.2.2.1
abbrev Ctx.m (C : Ctx) : MethodId := C.2.2.2.1
abbrev Ctx.args (C : Ctx) : Array Value := C.2.2.2.2.1
abbrev Ctx.below (C : Ctx) : List Frame := C.2.2.2.2.2.1
abbrev Ctx.meth (C : Ctx) : Method := C.2.2.2.2.2.2.1
abbrev Ctx.c (C : Ctx) : Code := C.2.2.2.2.2.2.2
/-- each place of the list lies in a cell of ws, or in one made since -/
def Wok (b : Nat) (ws : List Addr) (L : List Loc) : Prop := ∀ y ∈ L, y.base ∈ ws ∨ b ≤ y.base
theorem Wok.nil (b : Nat) (ws : List Addr) : Wok b ws [] := fun _ q => nomatch q
theorem Wok.app {b : Nat} {ws : List Addr} {L L' : List Loc} (N : Wok b ws L) (N' : Wok b ws L') : Wok b ws (L ++ L') := fun y q => (List.mem_append.mp q).elim (N y) (N' y)
theorem Wok.snoc {b : Nat} {ws : List Addr} {L : List Loc} {a : Addr} {sl : Nat} (N : Wok b ws L) (q : a ∈ ws ∨ b ≤ a) : Wok b ws (L ++ [⟨a, sl⟩]) := N.app fun y hy => by cases List.mem_singleton.mp hy; exact q
theorem keep_of_same {s t : State} {L : List Loc} {ws : List Addr} {k n : Nat} (h : s.sameButNew t L k n) (N : Wok s.heap.size ws L) : Keep s.heap t.heap ws := by
  obtain ⟨-, h2, -, -, -, h6⟩ := h
  refine ⟨h2, fun x c hx hn => ?_, fun x c hx => ?_⟩
  · obtain ⟨c', q1, q2, q3, q4⟩ := h6 x c hx
    have hlt := (Array.getElem?_eq_some_iff.mp hx).1
    have : c'.slots = c.slots := Array.ext_getElem? fun i => q4 i fun hm => (N _ hm).elim hn fun z => absurd hlt (Nat.not_lt.mpr z)
    rw [q1, q2, this]
  · obtain ⟨c', q1, q2, q3, q4⟩ := h6 x c hx
    exact ⟨c', q1, by rw [q2], by rw [q2], q3⟩
theorem eq_of_same {s t : State} {L : List Loc} {n : Nat} (h : s.sameButNew t L 0 n) (N : Wok s.heap.size [] L) : t.heap = s.heap := by
  have K := keep_of_same h N
  obtain ⟨-, h2, h3, -⟩ := h
  refine Array.ext_getElem? fun i => ?_
  cases hi : s.heap[i]? with
  | some c => exact K.2.1 i c hi (fun q => nomatch q)
  | none =>
    rw [Array.getElem?_eq_none_iff] at hi ⊢
    omega
/-- where the run stands: the invocation's state T with heap h; of what is older than the invocation only ws has been written -/
def On (l : Launch) (Z : State) (ws : List Addr) (R : Room) (own nm : String) (bytes : ByteArray) (maxL : Nat) (ret : Option FieldType) (C : Ctx) (T : State) (h : Heap) (cells slots : Nat) : Prop :=
  (C.p.tables.exec = Jvm.exec ∧ Z.Warmed39 C.s.vm ∧ C.c.code = bytes ∧ C.c.maxLocals = maxL ∧ C.s.vm.findClass own = some C.m.cls ∧ C.meth.name = nm ∧ C.meth.sig.returnType = ret ∧ C.meth.locks = false) ∧
  (∃ locs, Stand C.p l C.e R C.s C.m C.args C.below C.meth C.c T locs cells slots ∧ Wok C.s.heap.size ws locs) ∧ T.heap = h
def Post (ws : List Addr) (rc : Nat) (h0 : Heap) (Q : Option Value → Heap → Prop) (v : Option Value) (h : Heap) (L : List Loc) : Prop := Wok h0.size ws L ∧ Keep h0 h ws ∧ (rc = 0 → ws = [] → h = h0) ∧ Q v h
/-- from the state A the invocation comes to its end, with Q of what it returns and of the heap it leaves -/
def Go (C : Ctx) (ws : List Addr) (Q : Option Value → Heap → Prop) (k n : Nat) (A : State) : Prop :=
  ∃ U o, Steps C.p.tables C.e C.below A U ∧ U.status = .running ∧ Ended U C.below o ∧ ∃ v L, o = .returned v ∧ Post ws k C.s.heap Q v U.heap L ∧ FrameEnd C.s o U L k n
def Met (l : Launch) (Z : State) (y : MethodName) (bytes : ByteArray) (maxL : Nat) (ret : Option FieldType) (wds : List Cond) (rm : Room) (as' : Array Value) (ws : List Addr) (h0 : Heap) (Q : Option Value → Heap → Prop) : Prop :=
  MetFree l y (head1 (Cond.code y bytes maxL ret :: wds) rm) (fun a U => a = as' ∧ Z.Warmed39 U.vm ∧ U.heap = h0) (fun _ _ _ _ _ => True) (fun _ U o U' => ∃ v L, o = .returned v ∧ Post ws rm.cells h0 Q v U'.heap L ∧ FrameEnd U o U' L rm.cells rm.slots)
theorem Met.mk {l : Launch} {Z : State} {y : MethodName} {bytes : ByteArray} {maxL : Nat} {ret : Option FieldType} {wds : List Cond} {rm : Room} {as' : Array Value} {ws : List Addr} {h0 : Heap} {Q : Option Value → Heap → Prop} {Ls : Array Slot}
    (hp : plainFor y = true) (ef : ∀ m, entryFrame m as' maxL = mkF m 0 Ls [])
    (H : ∀ (C : Ctx) (T : State), C.s.heap = h0 → On l Z ws rm y.cls y.name bytes maxL ret C T h0 0 0 → Go C ws Q rm.cells rm.slots (T.setTop (mkF C.m 0 Ls []))) : Met l Z y bytes maxL ret wds rm as' ws h0 Q := by
  refine MetFree.of_bodySF hp hisR ?_
  intro p e s m args below meth c s₁ Bd hml0 hP hK
  obtain ⟨rfl, hZ, hh⟩ := hP
  have e0 : s₁.heap = h0 := by rw [← hh, Bd.state]; rfl
  have := H (p, e, s, m, args, below, meth, c) s₁ hh ⟨⟨Bd.exec, hZ, Bd.bytes, hml0, findClass_of_methodNamed Bd.named, (name_of_methodNamed Bd.named Bd.method).1, Bd.returns, Bd.notSynchronized⟩, ⟨[], Stand.of_body Bd, Wok.nil _ _⟩, e0⟩
  obtain ⟨U, o, h1, h2, h3, v, L, h4, h5, h6⟩ := this
  refine ⟨U, o, castTop (ef m) h1, h2, h3, v, L, h4, ?_, h6⟩
  rw [← hh]; exact h5
theorem Go.of {C : Ctx} {ws : List Addr} {Q : Option Value → Heap → Prop} {k n : Nat} {A B : State} (g : Go C ws Q k n B) (h : ∀ t, Steps C.p.tables C.e C.below B t → Steps C.p.tables C.e C.below A t) : Go C ws Q k n A := by
  obtain ⟨U, o, h1, r⟩ := g; exact ⟨U, o, h _ h1, r⟩
theorem Go.via {C : Ctx} {ws : List Addr} {Q : Option Value → Heap → Prop} {k n : Nat} {A B : State} (g : Go C ws Q k n B) (h : Steps C.p.tables C.e C.below A B) : Go C ws Q k n A := by
  obtain ⟨U, o, h1, r⟩ := g; exact ⟨U, o, h.trans h1, r⟩
section Steps
variable {l : Launch} {Z : State} {a0 : Array Value} {ws : List Addr} {R : Room} {own nm : String} {bytes : ByteArray} {maxL : Nat} {ret : Option FieldType} {C : Ctx} {T : State} {h : Heap} {cells slots k n : Nat} {Q : Option Value → Heap → Prop} {pc q : Nat} {Ls L' : Array Slot} {st : List Value}
theorem On.size (O : On l Z ws R own nm bytes maxL ret C T h cells slots) : C.s.heap.size ≤ h.size := by
  obtain ⟨-, ⟨_, X, -⟩, rfl⟩ := O; exact X.same.2.1
theorem On.kept (O : On l Z ws R own nm bytes maxL ret C T h cells slots) : Keep C.s.heap h ws := by
  obtain ⟨-, ⟨_, X, N⟩, rfl⟩ := O; exact keep_of_same (t := T.setVm C.s.vm) X.same N
theorem fin (O : On l Z ws R own nm bytes maxL ret C T h cells slots) {v : Option Value} (hv : ret = none → v = none) (hk : cells ≤ k) (hn : slots ≤ n) (hQ : Q v h)
    (stp : ∀ X : State, ∀ fs, (∀ (f : JFrame) (acts : List Action), f.method = C.m → f.locked = none → f.entered = [] → (doReturn C.e (T.setTop f) acts v).1 = T.setFrames fs) → X = T.setFrames fs → Steps C.p.tables C.e C.below (T.setTop (mkF C.m pc Ls st)) X) : Go C ws Q k n (T.setTop (mkF C.m pc Ls st)) := by
  obtain ⟨⟨hx, hZ, -, -, -, -, hret, hlk⟩, ⟨L, X, N⟩, eT⟩ := O
  obtain ⟨fs, hr, hrun, hended, hW, hsame⟩ := X.leave (v := v) (fun q => hv (hret ▸ q)) hlk
  refine ⟨_, _, stp _ fs hr rfl, hrun, hended, v, L, rfl, ⟨N, ?_, ?_, ?_⟩, ⟨_, rfl⟩, hW, hsame.mono hk hn⟩
  · exact keep_of_same (t := T.setVm C.s.vm) X.same N
  · rintro rfl rfl
    exact eq_of_same (t := T.setVm C.s.vm) (X.same.mono hk (Nat.le_refl _)) N
  · show Q v T.heap; rw [eT]; exact hQ
theorem ret0 (O : On l Z ws R own nm bytes maxL none C T h cells slots) (hd : decode bytes pc = .ok (.return_, 1)) (hk : cells ≤ k) (hn : slots ≤ n) (hQ : Q none h) : Go C ws Q k n (T.setTop (mkF C.m pc Ls [])) := by
  refine fin O (fun _ => rfl) hk hn hQ ?_
  obtain ⟨⟨hx, hZ, rfl, -, -, -, hret, hlk⟩, ⟨L, X, N⟩, eT⟩ := O
  rintro _ fs hr rfl
  exact X.returnOut hx hret hd hr
theorem retV {t : FieldType} {w w' : Value} {i : Instr} {rest : List Value} (O : On l Z ws R own nm bytes maxL (some t) C T h cells slots) (hd : decode bytes pc = .ok (i, 1)) (hw : w' = w) (hnw : narrow t w = w)
    (hi : (i = .ireturn ∧ (t = .int ∨ t = .boolean ∨ t = .byte ∨ t = .char ∨ t = .short) ∧ ∃ z, w = .int z) ∨ (i = .lreturn ∧ t = .long ∧ ∃ z, w = .long z) ∨ (i = .dreturn ∧ t = .double ∧ ∃ z, w = .double z) ∨ (i = .freturn ∧ t = .float ∧ ∃ z, w = .float z) ∨ (i = .areturn ∧ t.isReference = true ∧ w.isRef = true))
    (hk : cells ≤ k) (hn : slots ≤ n) (hQ : Q (some w) h) : Go C ws Q k n (T.setTop (mkF C.m pc Ls (w' :: rest))) := by
  subst hw
  refine fin O (fun q => nomatch q) hk hn hQ ?_
  obtain ⟨⟨hx, hZ, rfl, -, -, -, hret, hlk⟩, ⟨L, X, N⟩, eT⟩ := O
  rintro _ fs hr rfl
  exact retOut X hx hret hnw hi hd hr
theorem retI {z z' : Int32} {rest : List Value} (O : On l Z ws R own nm bytes maxL (some .int) C T h cells slots) (hd : decode bytes pc = .ok (.ireturn, 1)) (hz : z = z') (hk : cells ≤ k) (hn : slots ≤ n) (hQ : Q (some (.int z')) h) : Go C ws Q k n (T.setTop (mkF C.m pc Ls (.int z :: rest))) :=
  retV O hd (congrArg Value.int hz) rfl (Or.inl ⟨rfl, Or.inl rfl, _, rfl⟩) hk hn hQ
theorem retB {z z' : Int32} {rest : List Value} (O : On l Z ws R own nm bytes maxL (some .boolean) C T h cells slots) (hd : decode bytes pc = .ok (.ireturn, 1)) (hz : z = z') (h01 : z' = 0 ∨ z' = 1) (hk : cells ≤ k) (hn : slots ≤ n) (hQ : Q (some (.int z')) h) : Go C ws Q k n (T.setTop (mkF C.m pc Ls (.int z :: rest))) :=
  retV O hd (congrArg Value.int hz) (by rcases h01 with rfl | rfl <;> rfl) (Or.inl ⟨rfl, Or.inr (Or.inl rfl), _, rfl⟩) hk hn hQ
theorem retY {z z' : Int32} {rest : List Value} (O : On l Z ws R own nm bytes maxL (some .byte) C T h cells slots) (hd : decode bytes pc = .ok (.ireturn, 1)) (hz : z = z') (hb : z'.toInt8.toInt32 = z') (hk : cells ≤ k) (hn : slots ≤ n) (hQ : Q (some (.int z')) h) : Go C ws Q k n (T.setTop (mkF C.m pc Ls (.int z :: rest))) :=
  retV O hd (congrArg Value.int hz) (congrArg Value.int hb) (Or.inl ⟨rfl, Or.inr (Or.inr (Or.inl rfl)), _, rfl⟩) hk hn hQ
theorem retL {z z' : Int64} {rest : List Value} (O : On l Z ws R own nm bytes maxL (some .long) C T h cells slots) (hd : decode bytes pc = .ok (.lreturn, 1)) (hz : z = z') (hk : cells ≤ k) (hn : slots ≤ n) (hQ : Q (some (.long z')) h) : Go C ws Q k n (T.setTop (mkF C.m pc Ls (.long z :: rest))) :=
  retV O hd (congrArg Value.long hz) rfl (Or.inr (Or.inl ⟨rfl, rfl, _, rfl⟩)) hk hn hQ
theorem retA {t : FieldType} {w : Value} {rest : List Value} (O : On l Z ws R own nm bytes maxL (some t) C T h cells slots) (hd : decode bytes pc = .ok (.areturn, 1)) (ht : t.isReference = true) (hw : w.isRef = true) (hnw : narrow t w = w) (hk : cells ≤ k) (hn : slots ≤ n) (hQ : Q (some w) h) : Go C ws Q k n (T.setTop (mkF C.m pc Ls (w :: rest))) :=
  retV O hd rfl hnw (Or.inr (Or.inr (Or.inr (Or.inr ⟨rfl, ht, hw⟩)))) hk hn hQ
theorem iload (O : On l Z ws R own nm bytes maxL ret C T h cells slots) {i : Nat} {v : Int32} (hd : decode bytes pc = .ok (.iload i, 2)) (hl : Ls[i]? = some (.val (.int v))) (hq : pc + 2 = q)
    (K : Go C ws Q k n (T.setTop (mkF C.m q Ls (.int v :: st)))) : Go C ws Q k n (T.setTop (mkF C.m pc Ls (st))) := by
  obtain ⟨⟨hx, -, rfl, -⟩, ⟨_, X, -⟩, -⟩ := O; subst hq
  exact K.of fun _ kk => XS.iload X.here hx rfl hd hl kk
theorem iloadN (O : On l Z ws R own nm bytes maxL ret C T h cells slots) {i : Fin 4} {v : Int32} (hd : decode bytes pc = .ok (.iload_n i, 1)) (hl : Ls[i.val]? = some (.val (.int v))) (hq : pc + 1 = q)
    (K : Go C ws Q k n (T.setTop (mkF C.m q Ls (.int v :: st)))) : Go C ws Q k n (T.setTop (mkF C.m pc Ls (st))) := by
  obtain ⟨⟨hx, -, rfl, -⟩, ⟨_, X, -⟩, -⟩ := O; subst hq
  exact K.of fun _ kk => XS.iloadN X.here hx rfl hd hl kk
theorem lload (O : On l Z ws R own nm bytes maxL ret C T h cells slots) {i : Nat} {v : Int64} (hd : decode bytes pc = .ok (.lload i, 2)) (hl : Ls[i]? = some (.val (.long v))) (hq : pc + 2 = q)
    (K : Go C ws Q k n (T.setTop (mkF C.m q Ls (.long v :: st)))) : Go C ws Q k n (T.setTop (mkF C.m pc Ls (st))) := by
  obtain ⟨⟨hx, -, rfl, -⟩, ⟨_, X, -⟩, -⟩ := O; subst hq
  exact K.of fun _ kk => XS.lload X.here hx rfl hd hl kk
theorem lloadN (O : On l Z ws R own nm bytes maxL ret C T h cells slots) {i : Fin 4} {v : Int64} (hd : decode bytes pc = .ok (.lload_n i, 1)) (hl : Ls[i.val]? = some (.val (.long v))) (hq : pc + 1 = q)
    (K : Go C ws Q k n (T.setTop (mkF C.m q Ls (.long v :: st)))) : Go C ws Q k n (T.setTop (mkF C.m pc Ls (st))) := by
  obtain ⟨⟨hx, -, rfl, -⟩, ⟨_, X, -⟩, -⟩ := O; subst hq
  exact K.of fun _ kk => XS.lloadN X.here hx rfl hd hl kk
theorem aload (O : On l Z ws R own nm bytes maxL ret C T h cells slots) {i : Nat} {v : Value} (hd : decode bytes pc = .ok (.aload i, 2)) (hl : Ls[i]? = some (.val v)) (hv : v.isRef = true) (hq : pc + 2 = q)
    (K : Go C ws Q k n (T.setTop (mkF C.m q Ls (v :: st)))) : Go C ws Q k n (T.setTop (mkF C.m pc Ls (st))) := by
  obtain ⟨⟨hx, -, rfl, -⟩, ⟨_, X, -⟩, -⟩ := O; subst hq
  exact K.of fun _ kk => XS.aload X.here hx rfl hd hl hv kk
theorem aloadN (O : On l Z ws R own nm bytes maxL ret C T h cells slots) {i : Fin 4} {v : Value} (hd : decode bytes pc = .ok (.aload_n i, 1)) (hl : Ls[i.val]? = some (.val v)) (hv : v.isRef = true) (hq : pc + 1 = q)
    (K : Go C ws Q k n (T.setTop (mkF C.m q Ls (v :: st)))) : Go C ws Q k n (T.setTop (mkF C.m pc Ls (st))) := by
  obtain ⟨⟨hx, -, rfl, -⟩, ⟨_, X, -⟩, -⟩ := O; subst hq
  exact K.of fun _ kk => XS.aloadN X.here hx rfl hd hl hv kk
theorem istore (O : On l Z ws R own nm bytes maxL ret C T h cells slots) {i : Nat} {v : Int32} (hd : decode bytes pc = .ok (.istore i, 2)) (hl : storeLocals Ls i (.int v) = some L') (hq : pc + 2 = q)
    (K : Go C ws Q k n (T.setTop (mkF C.m q L' (st)))) : Go C ws Q k n (T.setTop (mkF C.m pc Ls (.int v :: st))) := by
  obtain ⟨⟨hx, -, rfl, -⟩, ⟨_, X, -⟩, -⟩ := O; subst hq
  exact K.of fun _ kk => XS.istore X.here hx rfl hd rfl hl kk
theorem istoreN (O : On l Z ws R own nm bytes maxL ret C T h cells slots) {i : Fin 4} {v : Int32} (hd : decode bytes pc = .ok (.istore_n i, 1)) (hl : storeLocals Ls i.val (.int v) = some L') (hq : pc + 1 = q)
    (K : Go C ws Q k n (T.setTop (mkF C.m q L' (st)))) : Go C ws Q k n (T.setTop (mkF C.m pc Ls (.int v :: st))) := by
  obtain ⟨⟨hx, -, rfl, -⟩, ⟨_, X, -⟩, -⟩ := O; subst hq
  exact K.of fun _ kk => XS.istoreN X.here hx rfl hd rfl hl kk
theorem lstore (O : On l Z ws R own nm bytes maxL ret C T h cells slots) {i : Nat} {v : Int64} (hd : decode bytes pc = .ok (.lstore i, 2)) (hl : storeLocals Ls i (.long v) = some L') (hq : pc + 2 = q)
    (K : Go C ws Q k n (T.setTop (mkF C.m q L' (st)))) : Go C ws Q k n (T.setTop (mkF C.m pc Ls (.long v :: st))) := by
  obtain ⟨⟨hx, -, rfl, -⟩, ⟨_, X, -⟩, -⟩ := O; subst hq
  exact K.of fun _ kk => XS.lstore X.here hx rfl hd rfl hl kk
theorem lstoreN (O : On l Z ws R own nm bytes maxL ret C T h cells slots) {i : Fin 4} {v : Int64} (hd : decode bytes pc = .ok (.lstore_n i, 1)) (hl : storeLocals Ls i.val (.long v) = some L') (hq : pc + 1 = q)
    (K : Go C ws Q k n (T.setTop (mkF C.m q L' (st)))) : Go C ws Q k n (T.setTop (mkF C.m pc Ls (.long v :: st))) := by
  obtain ⟨⟨hx, -, rfl, -⟩, ⟨_, X, -⟩, -⟩ := O; subst hq
  exact K.of fun _ kk => XS.lstoreN X.here hx rfl hd rfl hl kk
theorem astore (O : On l Z ws R own nm bytes maxL ret C T h cells slots) {i : Nat} {v : Value} (hd : decode bytes pc = .ok (.astore i, 2)) (hv : v.isRef = true) (hl : storeLocals Ls i v = some L') (hq : pc + 2 = q)
    (K : Go C ws Q k n (T.setTop (mkF C.m q L' (st)))) : Go C ws Q k n (T.setTop (mkF C.m pc Ls (v :: st))) := by
  obtain ⟨⟨hx, -, rfl, -⟩, ⟨_, X, -⟩, -⟩ := O; subst hq
  exact K.of fun _ kk => XS.astore X.here hx rfl hd rfl hv hl kk
theorem astoreN (O : On l Z ws R own nm bytes maxL ret C T h cells slots) {i : Fin 4} {v : Value} (hd : decode bytes pc = .ok (.astore_n i, 1)) (hv : v.isRef = true) (hl : storeLocals Ls i.val v = some L') (hq : pc + 1 = q)
    (K : Go C ws Q k n (T.setTop (mkF C.m q L' (st)))) : Go C ws Q k n (T.setTop (mkF C.m pc Ls (v :: st))) := by
  obtain ⟨⟨hx, -, rfl, -⟩, ⟨_, X, -⟩, -⟩ := O; subst hq
  exact K.of fun _ kk => XS.astoreN X.here hx rfl hd rfl hv hl kk
theorem iconst (O : On l Z ws R own nm bytes maxL ret C T h cells slots) {i : Int} {r : Int32} (hd : decode bytes pc = .ok (.iconst i, 1)) (hr : Int32.ofInt i = r) (hq : pc + 1 = q)
    (K : Go C ws Q k n (T.setTop (mkF C.m q Ls (.int r :: st)))) : Go C ws Q k n (T.setTop (mkF C.m pc Ls (st))) := by
  obtain ⟨⟨hx, -, rfl, -⟩, ⟨_, X, -⟩, -⟩ := O; subst hq hr
  exact K.of fun _ kk => XS.iconst X.here hx rfl hd kk
theorem bipush (O : On l Z ws R own nm bytes maxL ret C T h cells slots) {i : Int} {r : Int32} (hd : decode bytes pc = .ok (.bipush i, 2)) (hr : (Int8.ofInt i).toInt32 = r) (hq : pc + 2 = q)
    (K : Go C ws Q k n (T.setTop (mkF C.m q Ls (.int r :: st)))) : Go C ws Q k n (T.setTop (mkF C.m pc Ls (st))) := by
  obtain ⟨⟨hx, -, rfl, -⟩, ⟨_, X, -⟩, -⟩ := O; subst hq hr
  exact K.of fun _ kk => XS.bipush X.here hx rfl hd kk
theorem sipush (O : On l Z ws R own nm bytes maxL ret C T h cells slots) {i : Int} {r : Int32} (hd : decode bytes pc = .ok (.sipush i, 3)) (hr : (Int16.ofInt i).toInt32 = r) (hq : pc + 3 = q)
    (K : Go C ws Q k n (T.setTop (mkF C.m q Ls (.int r :: st)))) : Go C ws Q k n (T.setTop (mkF C.m pc Ls (st))) := by
  obtain ⟨⟨hx, -, rfl, -⟩, ⟨_, X, -⟩, -⟩ := O; subst hq hr
  exact K.of fun _ kk => XS.sipush X.here hx rfl hd kk
theorem lconst (O : On l Z ws R own nm bytes maxL ret C T h cells slots) {i : Fin 2} {r : Int64} (hd : decode bytes pc = .ok (.lconst i, 1)) (hr : Int64.ofNat i = r) (hq : pc + 1 = q)
    (K : Go C ws Q k n (T.setTop (mkF C.m q Ls (.long r :: st)))) : Go C ws Q k n (T.setTop (mkF C.m pc Ls (st))) := by
  obtain ⟨⟨hx, -, rfl, -⟩, ⟨_, X, -⟩, -⟩ := O; subst hq hr
  exact K.of fun _ kk => XS.lconst X.here hx rfl hd kk
theorem aconst_null (O : On l Z ws R own nm bytes maxL ret C T h cells slots)  (hd : decode bytes pc = .ok (.aconst_null, 1))  (hq : pc + 1 = q)
    (K : Go C ws Q k n (T.setTop (mkF C.m q Ls (.null :: st)))) : Go C ws Q k n (T.setTop (mkF C.m pc Ls (st))) := by
  obtain ⟨⟨hx, -, rfl, -⟩, ⟨_, X, -⟩, -⟩ := O; subst hq
  exact K.of fun _ kk => XS.aconstNull X.here hx rfl hd kk
theorem iadd (O : On l Z ws R own nm bytes maxL ret C T h cells slots) {x y r : Int32} (hd : decode bytes pc = .ok (.iadd, 1)) (hr : x + y = r) (hq : pc + 1 = q)
    (K : Go C ws Q k n (T.setTop (mkF C.m q Ls (.int r :: st)))) : Go C ws Q k n (T.setTop (mkF C.m pc Ls (.int y :: .int x :: st))) := by
  obtain ⟨⟨hx, -, rfl, -⟩, ⟨_, X, -⟩, -⟩ := O; subst hq hr
  exact K.of fun _ kk => XS.iadd X.here hx rfl hd rfl kk
theorem isub (O : On l Z ws R own nm bytes maxL ret C T h cells slots) {x y r : Int32} (hd : decode bytes pc = .ok (.isub, 1)) (hr : x - y = r) (hq : pc + 1 = q)
    (K : Go C ws Q k n (T.setTop (mkF C.m q Ls (.int r :: st)))) : Go C ws Q k n (T.setTop (mkF C.m pc Ls (.int y :: .int x :: st))) := by
  obtain ⟨⟨hx, -, rfl, -⟩, ⟨_, X, -⟩, -⟩ := O; subst hq hr
  exact K.of fun _ kk => XS.isub X.here hx rfl hd rfl kk
theorem imul (O : On l Z ws R own nm bytes maxL ret C T h cells slots) {x y r : Int32} (hd : decode bytes pc = .ok (.imul, 1)) (hr : x * y = r) (hq : pc + 1 = q)
    (K : Go C ws Q k n (T.setTop (mkF C.m q Ls (.int r :: st)))) : Go C ws Q k n (T.setTop (mkF C.m pc Ls (.int y :: .int x :: st))) := by
  obtain ⟨⟨hx, -, rfl, -⟩, ⟨_, X, -⟩, -⟩ := O; subst hq hr
  exact K.of fun _ kk => XS.imul X.here hx rfl hd rfl kk
theorem iand (O : On l Z ws R own nm bytes maxL ret C T h cells slots) {x y r : Int32} (hd : decode bytes pc = .ok (.iand, 1)) (hr : x &&& y = r) (hq : pc + 1 = q)
    (K : Go C ws Q k n (T.setTop (mkF C.m q Ls (.int r :: st)))) : Go C ws Q k n (T.setTop (mkF C.m pc Ls (.int y :: .int x :: st))) := by
  obtain ⟨⟨hx, -, rfl, -⟩, ⟨_, X, -⟩, -⟩ := O; subst hq hr
  exact K.of fun _ kk => XS.iand X.here hx rfl hd rfl kk
theorem ior (O : On l Z ws R own nm bytes maxL ret C T h cells slots) {x y r : Int32} (hd : decode bytes pc = .ok (.ior, 1)) (hr : x ||| y = r) (hq : pc + 1 = q)
    (K : Go C ws Q k n (T.setTop (mkF C.m q Ls (.int r :: st)))) : Go C ws Q k n (T.setTop (mkF C.m pc Ls (.int y :: .int x :: st))) := by
  obtain ⟨⟨hx, -, rfl, -⟩, ⟨_, X, -⟩, -⟩ := O; subst hq hr
  exact K.of fun _ kk => XS.ior X.here hx rfl hd rfl kk
theorem ixor (O : On l Z ws R own nm bytes maxL ret C T h cells slots) {x y r : Int32} (hd : decode bytes pc = .ok (.ixor, 1)) (hr : x ^^^ y = r) (hq : pc + 1 = q)
    (K : Go C ws Q k n (T.setTop (mkF C.m q Ls (.int r :: st)))) : Go C ws Q k n (T.setTop (mkF C.m pc Ls (.int y :: .int x :: st))) := by
  obtain ⟨⟨hx, -, rfl, -⟩, ⟨_, X, -⟩, -⟩ := O; subst hq hr
  exact K.of fun _ kk => XS.ixor X.here hx rfl hd rfl kk
theorem ishl (O : On l Z ws R own nm bytes maxL ret C T h cells slots) {x y r : Int32} (hd : decode bytes pc = .ok (.ishl, 1)) (hr : x <<< (y &&& 31) = r) (hq : pc + 1 = q)
    (K : Go C ws Q k n (T.setTop (mkF C.m q Ls (.int r :: st)))) : Go C ws Q k n (T.setTop (mkF C.m pc Ls (.int y :: .int x :: st))) := by
  obtain ⟨⟨hx, -, rfl, -⟩, ⟨_, X, -⟩, -⟩ := O; subst hq hr
  exact K.of fun _ kk => XS.ishl X.here hx rfl hd rfl kk
theorem ishr (O : On l Z ws R own nm bytes maxL ret C T h cells slots) {x y r : Int32} (hd : decode bytes pc = .ok (.ishr, 1)) (hr : x >>> (y &&& 31) = r) (hq : pc + 1 = q)
    (K : Go C ws Q k n (T.setTop (mkF C.m q Ls (.int r :: st)))) : Go C ws Q k n (T.setTop (mkF C.m pc Ls (.int y :: .int x :: st))) := by
  obtain ⟨⟨hx, -, rfl, -⟩, ⟨_, X, -⟩, -⟩ := O; subst hq hr
  exact K.of fun _ kk => XS.ishr X.here hx rfl hd rfl kk
theorem iushr (O : On l Z ws R own nm bytes maxL ret C T h cells slots) {x y r : Int32} (hd : decode bytes pc = .ok (.iushr, 1)) (hr : (x.toUInt32 >>> (y &&& 31).toUInt32).toInt32 = r) (hq : pc + 1 = q)
    (K : Go C ws Q k n (T.setTop (mkF C.m q Ls (.int r :: st)))) : Go C ws Q k n (T.setTop (mkF C.m pc Ls (.int y :: .int x :: st))) := by
  obtain ⟨⟨hx, -, rfl, -⟩, ⟨_, X, -⟩, -⟩ := O; subst hq hr
  exact K.of fun _ kk => XS.iushr X.here hx rfl hd rfl kk
theorem idiv (O : On l Z ws R own nm bytes maxL ret C T h cells slots) {x y r : Int32} (hd : decode bytes pc = .ok (.idiv, 1)) (hy : y ≠ 0) (hr : x / y = r) (hq : pc + 1 = q)
    (K : Go C ws Q k n (T.setTop (mkF C.m q Ls (.int r :: st)))) : Go C ws Q k n (T.setTop (mkF C.m pc Ls (.int y :: .int x :: st))) := by
  obtain ⟨⟨hx, -, rfl, -⟩, ⟨_, X, -⟩, -⟩ := O; subst hq hr
  exact K.of fun _ kk => XS.idiv X.here hx rfl hd rfl hy kk
theorem irem (O : On l Z ws R own nm bytes maxL ret C T h cells slots) {x y r : Int32} (hd : decode bytes pc = .ok (.irem, 1)) (hy : y ≠ 0) (hr : x % y = r) (hq : pc + 1 = q)
    (K : Go C ws Q k n (T.setTop (mkF C.m q Ls (.int r :: st)))) : Go C ws Q k n (T.setTop (mkF C.m pc Ls (.int y :: .int x :: st))) := by
  obtain ⟨⟨hx, -, rfl, -⟩, ⟨_, X, -⟩, -⟩ := O; subst hq hr; rw [← irem_eq_mod] at K
  exact K.of fun _ kk => XS.irem X.here hx rfl hd rfl hy kk
theorem ladd (O : On l Z ws R own nm bytes maxL ret C T h cells slots) {x y r : Int64} (hd : decode bytes pc = .ok (.ladd, 1)) (hr : x + y = r) (hq : pc + 1 = q)
    (K : Go C ws Q k n (T.setTop (mkF C.m q Ls (.long r :: st)))) : Go C ws Q k n (T.setTop (mkF C.m pc Ls (.long y :: .long x :: st))) := by
  obtain ⟨⟨hx, -, rfl, -⟩, ⟨_, X, -⟩, -⟩ := O; subst hq hr
  exact K.of fun _ kk => XS.ladd X.here hx rfl hd rfl kk
theorem lsub (O : On l Z ws R own nm bytes maxL ret C T h cells slots) {x y r : Int64} (hd : decode bytes pc = .ok (.lsub, 1)) (hr : x - y = r) (hq : pc + 1 = q)
    (K : Go C ws Q k n (T.setTop (mkF C.m q Ls (.long r :: st)))) : Go C ws Q k n (T.setTop (mkF C.m pc Ls (.long y :: .long x :: st))) := by
  obtain ⟨⟨hx, -, rfl, -⟩, ⟨_, X, -⟩, -⟩ := O; subst hq hr
  exact K.of fun _ kk => XS.lsub X.here hx rfl hd rfl kk
theorem lmul (O : On l Z ws R own nm bytes maxL ret C T h cells slots) {x y r : Int64} (hd : decode bytes pc = .ok (.lmul, 1)) (hr : x * y = r) (hq : pc + 1 = q)
    (K : Go C ws Q k n (T.setTop (mkF C.m q Ls (.long r :: st)))) : Go C ws Q k n (T.setTop (mkF C.m pc Ls (.long y :: .long x :: st))) := by
  obtain ⟨⟨hx, -, rfl, -⟩, ⟨_, X, -⟩, -⟩ := O; subst hq hr
  exact K.of fun _ kk => XS.lmul X.here hx rfl hd rfl kk
theorem land (O : On l Z ws R own nm bytes maxL ret C T h cells slots) {x y r : Int64} (hd : decode bytes pc = .ok (.land, 1)) (hr : x &&& y = r) (hq : pc + 1 = q)
    (K : Go C ws Q k n (T.setTop (mkF C.m q Ls (.long r :: st)))) : Go C ws Q k n (T.setTop (mkF C.m pc Ls (.long y :: .long x :: st))) := by
  obtain ⟨⟨hx, -, rfl, -⟩, ⟨_, X, -⟩, -⟩ := O; subst hq hr
  exact K.of fun _ kk => XS.land X.here hx rfl hd rfl kk
theorem lor (O : On l Z ws R own nm bytes maxL ret C T h cells slots) {x y r : Int64} (hd : decode bytes pc = .ok (.lor, 1)) (hr : x ||| y = r) (hq : pc + 1 = q)
    (K : Go C ws Q k n (T.setTop (mkF C.m q Ls (.long r :: st)))) : Go C ws Q k n (T.setTop (mkF C.m pc Ls (.long y :: .long x :: st))) := by
  obtain ⟨⟨hx, -, rfl, -⟩, ⟨_, X, -⟩, -⟩ := O; subst hq hr
  exact K.of fun _ kk => XS.lor X.here hx rfl hd rfl kk
theorem lxor (O : On l Z ws R own nm bytes maxL ret C T h cells slots) {x y r : Int64} (hd : decode bytes pc = .ok (.lxor, 1)) (hr : x ^^^ y = r) (hq : pc + 1 = q)
    (K : Go C ws Q k n (T.setTop (mkF C.m q Ls (.long r :: st)))) : Go C ws Q k n (T.setTop (mkF C.m pc Ls (.long y :: .long x :: st))) := by
  obtain ⟨⟨hx, -, rfl, -⟩, ⟨_, X, -⟩, -⟩ := O; subst hq hr
  exact K.of fun _ kk => XS.lxor X.here hx rfl hd rfl kk
theorem ldiv (O : On l Z ws R own nm bytes maxL ret C T h cells slots) {x y r : Int64} (hd : decode bytes pc = .ok (.ldiv, 1)) (hy : y ≠ 0) (hr : x / y = r) (hq : pc + 1 = q)
    (K : Go C ws Q k n (T.setTop (mkF C.m q Ls (.long r :: st)))) : Go C ws Q k n (T.setTop (mkF C.m pc Ls (.long y :: .long x :: st))) := by
  obtain ⟨⟨hx, -, rfl, -⟩, ⟨_, X, -⟩, -⟩ := O; subst hq hr
  exact K.of fun _ kk => XS.ldiv X.here hx rfl hd rfl hy kk
theorem lrem (O : On l Z ws R own nm bytes maxL ret C T h cells slots) {x y r : Int64} (hd : decode bytes pc = .ok (.lrem, 1)) (hy : y ≠ 0) (hr : x % y = r) (hq : pc + 1 = q)
    (K : Go C ws Q k n (T.setTop (mkF C.m q Ls (.long r :: st)))) : Go C ws Q k n (T.setTop (mkF C.m pc Ls (.long y :: .long x :: st))) := by
  obtain ⟨⟨hx, -, rfl, -⟩, ⟨_, X, -⟩, -⟩ := O; subst hq hr; rw [← lrem_mod] at K
  exact K.of fun _ kk => XS.lrem X.here hx rfl hd rfl hy kk
theorem lshl (O : On l Z ws R own nm bytes maxL ret C T h cells slots) {x r : Int64} {y : Int32} (hd : decode bytes pc = .ok (.lshl, 1)) (hr : x <<< (y &&& 0x3f).toInt64 = r) (hq : pc + 1 = q)
    (K : Go C ws Q k n (T.setTop (mkF C.m q Ls (.long r :: st)))) : Go C ws Q k n (T.setTop (mkF C.m pc Ls (.int y :: .long x :: st))) := by
  obtain ⟨⟨hx, -, rfl, -⟩, ⟨_, X, -⟩, -⟩ := O; subst hq hr
  exact K.of fun _ kk => XS.lshl X.here hx rfl hd rfl kk
theorem lshr (O : On l Z ws R own nm bytes maxL ret C T h cells slots) {x r : Int64} {y : Int32} (hd : decode bytes pc = .ok (.lshr, 1)) (hr : x >>> (y &&& 0x3f).toInt64 = r) (hq : pc + 1 = q)
    (K : Go C ws Q k n (T.setTop (mkF C.m q Ls (.long r :: st)))) : Go C ws Q k n (T.setTop (mkF C.m pc Ls (.int y :: .long x :: st))) := by
  obtain ⟨⟨hx, -, rfl, -⟩, ⟨_, X, -⟩, -⟩ := O; subst hq hr
  exact K.of fun _ kk => XS.lshr X.here hx rfl hd rfl kk
theorem lushr (O : On l Z ws R own nm bytes maxL ret C T h cells slots) {x r : Int64} {y : Int32} (hd : decode bytes pc = .ok (.lushr, 1)) (hr : (x.toUInt64 >>> (y &&& 0x3f).toInt64.toUInt64).toInt64 = r) (hq : pc + 1 = q)
    (K : Go C ws Q k n (T.setTop (mkF C.m q Ls (.long r :: st)))) : Go C ws Q k n (T.setTop (mkF C.m pc Ls (.int y :: .long x :: st))) := by
  obtain ⟨⟨hx, -, rfl, -⟩, ⟨_, X, -⟩, -⟩ := O; subst hq hr
  exact K.of fun _ kk => XS.lushr X.here hx rfl hd rfl kk
theorem ineg (O : On l Z ws R own nm bytes maxL ret C T h cells slots) {x : Int32} {r : Int32} (hd : decode bytes pc = .ok (.ineg, 1)) (hr : -x = r) (hq : pc + 1 = q)
    (K : Go C ws Q k n (T.setTop (mkF C.m q Ls (.int r :: st)))) : Go C ws Q k n (T.setTop (mkF C.m pc Ls (.int x :: st))) := by
  obtain ⟨⟨hx, -, rfl, -⟩, ⟨_, X, -⟩, -⟩ := O; subst hq hr
  exact K.of fun _ kk => XS.ineg X.here hx rfl hd rfl kk
theorem lneg (O : On l Z ws R own nm bytes maxL ret C T h cells slots) {x : Int64} {r : Int64} (hd : decode bytes pc = .ok (.lneg, 1)) (hr : -x = r) (hq : pc + 1 = q)
    (K : Go C ws Q k n (T.setTop (mkF C.m q Ls (.long r :: st)))) : Go C ws Q k n (T.setTop (mkF C.m pc Ls (.long x :: st))) := by
  obtain ⟨⟨hx, -, rfl, -⟩, ⟨_, X, -⟩, -⟩ := O; subst hq hr
  exact K.of fun _ kk => XS.lneg X.here hx rfl hd rfl kk
theorem i2l (O : On l Z ws R own nm bytes maxL ret C T h cells slots) {x : Int32} {r : Int64} (hd : decode bytes pc = .ok (.i2l, 1)) (hr : x.toInt64 = r) (hq : pc + 1 = q)
    (K : Go C ws Q k n (T.setTop (mkF C.m q Ls (.long r :: st)))) : Go C ws Q k n (T.setTop (mkF C.m pc Ls (.int x :: st))) := by
  obtain ⟨⟨hx, -, rfl, -⟩, ⟨_, X, -⟩, -⟩ := O; subst hq hr
  exact K.of fun _ kk => XS.i2l X.here hx rfl hd rfl kk
theorem l2i (O : On l Z ws R own nm bytes maxL ret C T h cells slots) {x : Int64} {r : Int32} (hd : decode bytes pc = .ok (.l2i, 1)) (hr : x.toInt32 = r) (hq : pc + 1 = q)
    (K : Go C ws Q k n (T.setTop (mkF C.m q Ls (.int r :: st)))) : Go C ws Q k n (T.setTop (mkF C.m pc Ls (.long x :: st))) := by
  obtain ⟨⟨hx, -, rfl, -⟩, ⟨_, X, -⟩, -⟩ := O; subst hq hr
  exact K.of fun _ kk => XS.l2i X.here hx rfl hd rfl kk
theorem i2b (O : On l Z ws R own nm bytes maxL ret C T h cells slots) {x : Int32} {r : Int32} (hd : decode bytes pc = .ok (.i2b, 1)) (hr : x.toInt8.toInt32 = r) (hq : pc + 1 = q)
    (K : Go C ws Q k n (T.setTop (mkF C.m q Ls (.int r :: st)))) : Go C ws Q k n (T.setTop (mkF C.m pc Ls (.int x :: st))) := by
  obtain ⟨⟨hx, -, rfl, -⟩, ⟨_, X, -⟩, -⟩ := O; subst hq hr
  exact K.of fun _ kk => XS.i2b X.here hx rfl hd rfl kk
theorem i2c (O : On l Z ws R own nm bytes maxL ret C T h cells slots) {x : Int32} {r : Int32} (hd : decode bytes pc = .ok (.i2c, 1)) (hr : x.toUInt32.toUInt16.toUInt32.toInt32 = r) (hq : pc + 1 = q)
    (K : Go C ws Q k n (T.setTop (mkF C.m q Ls (.int r :: st)))) : Go C ws Q k n (T.setTop (mkF C.m pc Ls (.int x :: st))) := by
  obtain ⟨⟨hx, -, rfl, -⟩, ⟨_, X, -⟩, -⟩ := O; subst hq hr
  exact K.of fun _ kk => XS.i2c X.here hx rfl hd rfl kk
theorem i2s (O : On l Z ws R own nm bytes maxL ret C T h cells slots) {x : Int32} {r : Int32} (hd : decode bytes pc = .ok (.i2s, 1)) (hr : x.toInt16.toInt32 = r) (hq : pc + 1 = q)
    (K : Go C ws Q k n (T.setTop (mkF C.m q Ls (.int r :: st)))) : Go C ws Q k n (T.setTop (mkF C.m pc Ls (.int x :: st))) := by
  obtain ⟨⟨hx, -, rfl, -⟩, ⟨_, X, -⟩, -⟩ := O; subst hq hr
  exact K.of fun _ kk => XS.i2s X.here hx rfl hd rfl kk
theorem lcmp (O : On l Z ws R own nm bytes maxL ret C T h cells slots) {x y : Int64} {r : Int32} (hd : decode bytes pc = .ok (.lcmp, 1)) (hr : lcmpW x y = r) (hq : pc + 1 = q)
    (K : Go C ws Q k n (T.setTop (mkF C.m q Ls (.int r :: st)))) : Go C ws Q k n (T.setTop (mkF C.m pc Ls (.long y :: .long x :: st))) := by
  obtain ⟨⟨hx, -, rfl, -⟩, ⟨_, X, -⟩, -⟩ := O; subst hq hr
  exact K.of fun _ kk => XS.lcmp X.here hx rfl hd rfl kk
theorem iinc (O : On l Z ws R own nm bytes maxL ret C T h cells slots) {i : Nat} {cst : Int} {x : Int32} (hd : decode bytes pc = .ok (.iinc i cst, 3)) (hl : Ls[i]? = some (.val (.int x))) (hl' : storeLocals Ls i (.int (x + Int32.ofInt cst)) = some L') (hq : pc + 3 = q)
    (K : Go C ws Q k n (T.setTop (mkF C.m q L' (st)))) : Go C ws Q k n (T.setTop (mkF C.m pc Ls (st))) := by
  obtain ⟨⟨hx, -, rfl, -⟩, ⟨_, X, -⟩, -⟩ := O; subst hq
  exact K.of fun _ kk => XS.iinc X.here hx rfl hd hl hl' kk
theorem dup (O : On l Z ws R own nm bytes maxL ret C T h cells slots) {v : Value} (hd : decode bytes pc = .ok (.dup, 1)) (hc : v.category = 1) (hq : pc + 1 = q)
    (K : Go C ws Q k n (T.setTop (mkF C.m q Ls (v :: v :: st)))) : Go C ws Q k n (T.setTop (mkF C.m pc Ls (v :: st))) := by
  obtain ⟨⟨hx, -, rfl, -⟩, ⟨_, X, -⟩, -⟩ := O; subst hq
  exact K.of fun _ kk => XS.dup X.here hx rfl hd rfl hc kk
theorem pop (O : On l Z ws R own nm bytes maxL ret C T h cells slots) {v : Value} (hd : decode bytes pc = .ok (.pop, 1)) (hc : v.category = 1) (hq : pc + 1 = q)
    (K : Go C ws Q k n (T.setTop (mkF C.m q Ls (st)))) : Go C ws Q k n (T.setTop (mkF C.m pc Ls (v :: st))) := by
  obtain ⟨⟨hx, -, rfl, -⟩, ⟨_, X, -⟩, -⟩ := O; subst hq
  exact K.of fun _ kk => XS.pop X.here hx rfl hd rfl hc kk
theorem dup_x1 (O : On l Z ws R own nm bytes maxL ret C T h cells slots) {v w : Value} (hd : decode bytes pc = .ok (.dup_x1, 1)) (hc : v.category = 1) (hc' : w.category = 1) (hq : pc + 1 = q)
    (K : Go C ws Q k n (T.setTop (mkF C.m q Ls (v :: w :: v :: st)))) : Go C ws Q k n (T.setTop (mkF C.m pc Ls (v :: w :: st))) := by
  obtain ⟨⟨hx, -, rfl, -⟩, ⟨_, X, -⟩, -⟩ := O; subst hq
  exact K.of fun _ kk => XS.dupX1 X.here hx rfl hd rfl hc hc' kk
theorem dup2 (O : On l Z ws R own nm bytes maxL ret C T h cells slots) {v w : Value} (hd : decode bytes pc = .ok (.dup2, 1)) (hc : v.category = 1) (hc' : w.category = 1) (hq : pc + 1 = q)
    (K : Go C ws Q k n (T.setTop (mkF C.m q Ls (v :: w :: v :: w :: st)))) : Go C ws Q k n (T.setTop (mkF C.m pc Ls (v :: w :: st))) := by
  obtain ⟨⟨hx, -, rfl, -⟩, ⟨_, X, -⟩, -⟩ := O; subst hq
  exact K.of fun _ kk => XT.dup2 X.here hx rfl hd rfl hc hc' kk
theorem dup2L (O : On l Z ws R own nm bytes maxL ret C T h cells slots) {v : Int64} (hd : decode bytes pc = .ok (.dup2, 1))  (hq : pc + 1 = q)
    (K : Go C ws Q k n (T.setTop (mkF C.m q Ls (.long v :: .long v :: st)))) : Go C ws Q k n (T.setTop (mkF C.m pc Ls (.long v :: st))) := by
  obtain ⟨⟨hx, -, rfl, -⟩, ⟨_, X, -⟩, -⟩ := O; subst hq
  exact K.of fun _ kk => XT.dup2L X.here hx rfl hd rfl kk
theorem goto (O : On l Z ws R own nm bytes maxL ret C T h cells slots)  {o : Int} (hd : decode bytes pc = .ok (.goto o, 3))  (ho : 0 ≤ (pc : Int) + o) (hq : ((pc : Int) + o).toNat = q)
    (K : Go C ws Q k n (T.setTop (mkF C.m q Ls st))) : Go C ws Q k n (T.setTop (mkF C.m pc Ls (st))) := by
  obtain ⟨⟨hx, -, rfl, -⟩, ⟨_, X, -⟩, -⟩ := O
  exact K.of fun _ kk => XS.goto X.here hx rfl (pc0 := pc) (pc' := q) rfl hd  ho hq kk
theorem ifYes (O : On l Z ws R own nm bytes maxL ret C T h cells slots) {cd : ClassFile.Cond} {x : Int32} {o : Int} (hd : decode bytes pc = .ok (.ifCond cd o, 3)) (hc : ifCond.holds cd x = true) (ho : 0 ≤ (pc : Int) + o) (hq : ((pc : Int) + o).toNat = q)
    (K : Go C ws Q k n (T.setTop (mkF C.m q Ls st))) : Go C ws Q k n (T.setTop (mkF C.m pc Ls (.int x :: st))) := by
  obtain ⟨⟨hx, -, rfl, -⟩, ⟨_, X, -⟩, -⟩ := O
  exact K.of fun _ kk => XS.ifYes X.here hx rfl (pc0 := pc) (pc' := q) rfl hd rfl hc ho hq kk
theorem icmpYes (O : On l Z ws R own nm bytes maxL ret C T h cells slots) {cd : ClassFile.Cond} {x y : Int32} {o : Int} (hd : decode bytes pc = .ok (.if_icmp cd o, 3)) (hc : if_icmp.holds cd x y = true) (ho : 0 ≤ (pc : Int) + o) (hq : ((pc : Int) + o).toNat = q)
    (K : Go C ws Q k n (T.setTop (mkF C.m q Ls st))) : Go C ws Q k n (T.setTop (mkF C.m pc Ls (.int y :: .int x :: st))) := by
  obtain ⟨⟨hx, -, rfl, -⟩, ⟨_, X, -⟩, -⟩ := O
  exact K.of fun _ kk => XS.icmpYes X.here hx rfl (pc0 := pc) (pc' := q) rfl hd rfl hc ho hq kk
theorem ifnullYes (O : On l Z ws R own nm bytes maxL ret C T h cells slots)  {o : Int} (hd : decode bytes pc = .ok (.ifnull o, 3))  (ho : 0 ≤ (pc : Int) + o) (hq : ((pc : Int) + o).toNat = q)
    (K : Go C ws Q k n (T.setTop (mkF C.m q Ls st))) : Go C ws Q k n (T.setTop (mkF C.m pc Ls (.null :: st))) := by
  obtain ⟨⟨hx, -, rfl, -⟩, ⟨_, X, -⟩, -⟩ := O
  exact K.of fun _ kk => XS.ifnullYes X.here hx rfl (pc0 := pc) (pc' := q) rfl hd rfl ho hq kk
theorem ifnonnullYes (O : On l Z ws R own nm bytes maxL ret C T h cells slots) {b : Addr} {o : Int} (hd : decode bytes pc = .ok (.ifnonnull o, 3))  (ho : 0 ≤ (pc : Int) + o) (hq : ((pc : Int) + o).toNat = q)
    (K : Go C ws Q k n (T.setTop (mkF C.m q Ls st))) : Go C ws Q k n (T.setTop (mkF C.m pc Ls (.ref b :: st))) := by
  obtain ⟨⟨hx, -, rfl, -⟩, ⟨_, X, -⟩, -⟩ := O
  exact K.of fun _ kk => XS.ifnonnullYes X.here hx rfl (pc0 := pc) (pc' := q) rfl hd rfl ho hq kk
theorem ifNo (O : On l Z ws R own nm bytes maxL ret C T h cells slots) {cd : ClassFile.Cond} {x : Int32} {o : Int} (hd : decode bytes pc = .ok (.ifCond cd o, 3)) (hc : ifCond.holds cd x = false) (hq : pc + 3 = q)
    (K : Go C ws Q k n (T.setTop (mkF C.m q Ls (st)))) : Go C ws Q k n (T.setTop (mkF C.m pc Ls (.int x :: st))) := by
  obtain ⟨⟨hx, -, rfl, -⟩, ⟨_, X, -⟩, -⟩ := O; subst hq
  exact K.of fun _ kk => XS.ifNo X.here hx rfl hd rfl hc kk
theorem icmpNo (O : On l Z ws R own nm bytes maxL ret C T h cells slots) {cd : ClassFile.Cond} {x y : Int32} {o : Int} (hd : decode bytes pc = .ok (.if_icmp cd o, 3)) (hc : if_icmp.holds cd x y = false) (hq : pc + 3 = q)
    (K : Go C ws Q k n (T.setTop (mkF C.m q Ls (st)))) : Go C ws Q k n (T.setTop (mkF C.m pc Ls (.int y :: .int x :: st))) := by
  obtain ⟨⟨hx, -, rfl, -⟩, ⟨_, X, -⟩, -⟩ := O; subst hq
  exact K.of fun _ kk => XS.icmpNo X.here hx rfl hd rfl hc kk
theorem ifnullNo (O : On l Z ws R own nm bytes maxL ret C T h cells slots) {b : Addr} {o : Int} (hd : decode bytes pc = .ok (.ifnull o, 3))  (hq : pc + 3 = q)
    (K : Go C ws Q k n (T.setTop (mkF C.m q Ls (st)))) : Go C ws Q k n (T.setTop (mkF C.m pc Ls (.ref b :: st))) := by
  obtain ⟨⟨hx, -, rfl, -⟩, ⟨_, X, -⟩, -⟩ := O; subst hq
  exact K.of fun _ kk => XS.ifnullNo X.here hx rfl hd rfl kk
theorem ifnonnullNo (O : On l Z ws R own nm bytes maxL ret C T h cells slots) {o : Int} (hd : decode bytes pc = .ok (.ifnonnull o, 3))  (hq : pc + 3 = q)
    (K : Go C ws Q k n (T.setTop (mkF C.m q Ls (st)))) : Go C ws Q k n (T.setTop (mkF C.m pc Ls (.null :: st))) := by
  obtain ⟨⟨hx, -, rfl, -⟩, ⟨_, X, -⟩, -⟩ := O; subst hq
  exact K.of fun _ kk => XS.ifnonnullNo X.here hx rfl hd rfl kk
theorem acmp (O : On l Z ws R own nm bytes maxL ret C T h cells slots) {cd : ACond} {x y : Value} {o : Int} {same : Bool} (hd : decode bytes pc = .ok (.if_acmp cd o, 3)) (h1 : x.isRef = true) (h2 : y.isRef = true) (hs : decide (x = y) = same) (ho : 0 ≤ (pc : Int) + o) (hq : q = if acV cd same = true then ((pc : Int) + o).toNat else pc + 3)
    (K : Go C ws Q k n (T.setTop (mkF C.m q Ls st))) : Go C ws Q k n (T.setTop (mkF C.m pc Ls (y :: x :: st))) := by
  obtain ⟨⟨hx, -, rfl, -⟩, ⟨_, X, -⟩, -⟩ := O
  exact K.of fun _ kk => Jvm.RoadKit.acmp (g := mkF C.m pc Ls (y :: x :: st)) X hx rfl h1 h2 (pc0 := pc) (pc' := q) rfl hd rfl hs ho hq kk
theorem ldcI (O : On l Z ws R own nm bytes maxL ret C T h cells slots) {i : Nat} {v : Int32} (hd : decode bytes pc = .ok (.ldc i, 2)) (w : (Cond.constant own i v).before a0 Z = true) (hq : pc + 2 = q)
    (K : Go C ws Q k n (T.setTop (mkF C.m q Ls (.int v :: st)))) : Go C ws Q k n (T.setTop (mkF C.m pc Ls st)) := by
  obtain ⟨⟨hx, hZ, rfl, -, hown, -⟩, ⟨_, X, -⟩, -⟩ := O; subst hq
  exact K.of fun _ kk => X.ldcInt hx hown (mvT hZ w) (g := mkF C.m pc Ls st) rfl hd _ kk
theorem ldcwI (O : On l Z ws R own nm bytes maxL ret C T h cells slots) {i : Nat} {v : Int32} (hd : decode bytes pc = .ok (.ldc_w i, 3)) (w : (Cond.constant own i v).before a0 Z = true) (hq : pc + 3 = q)
    (K : Go C ws Q k n (T.setTop (mkF C.m q Ls (.int v :: st)))) : Go C ws Q k n (T.setTop (mkF C.m pc Ls st)) := by
  obtain ⟨⟨hx, hZ, rfl, -, hown, -⟩, ⟨_, X, -⟩, -⟩ := O; subst hq
  exact K.of fun _ kk => X.ldcwInt hx hown (mvT hZ w) (g := mkF C.m pc Ls st) rfl hd _ kk
theorem ldcL (O : On l Z ws R own nm bytes maxL ret C T h cells slots) {i : Nat} {v : Int64} (hd : decode bytes pc = .ok (.ldc2_w i, 3)) (w : (Cond.constantLong own i v).before a0 Z = true) (hq : pc + 3 = q)
    (K : Go C ws Q k n (T.setTop (mkF C.m q Ls (.long v :: st)))) : Go C ws Q k n (T.setTop (mkF C.m pc Ls st)) := by
  obtain ⟨⟨hx, hZ, rfl, -, hown, -⟩, ⟨_, X, -⟩, -⟩ := O; subst hq
  exact K.of fun _ kk => X.ldc2Long hx hown (mvT hZ w) (g := mkF C.m pc Ls st) rfl hd _ kk
theorem getF (O : On l Z ws R own nm bytes maxL ret C T h cells slots) {i : Nat} {R0 D f d host : String} {a : Addr} {v : Value} (hd : decode bytes pc = .ok (.getfield i, 3)) (w : (Cond.fieldLink own i R0 f d).before a0 Z = true ∨ (Cond.fieldLinkNest own i R0 f d host).before a0 Z = true) (via : Via Z R0 D f d) (F : Fld Z h a D f d v) (hq : pc + 3 = q)
    (K : ∀ T', On l Z ws R own nm bytes maxL ret C T' h cells slots → Go C ws Q k n (T'.setTop (mkF C.m q Ls (v :: st)))) : Go C ws Q k n (T.setTop (mkF C.m pc Ls (.ref a :: st))) := by
  obtain ⟨⟨hx, hZ, rfl, r1, hown, r2⟩, ⟨_, X, N⟩, eT⟩ := O; subst hq
  obtain ⟨T', X', e', stp⟩ := Jvm.RoadKit.getF X hx hZ hown w via eT F (g := mkF C.m pc Ls (.ref a :: st)) rfl rfl hd
  exact (K T' ⟨⟨hx, hZ, rfl, r1, hown, r2⟩, ⟨_, X', N⟩, e'⟩).of fun _ kk => stp _ kk
theorem getS (O : On l Z ws R own nm bytes maxL ret C T h cells slots) {i : Nat} {D f d : String} {v : Value} (hd : decode bytes pc = .ok (.getstatic i, 3)) (w : (Cond.fieldLink own i D f d).before a0 Z = true) (F : Sta Z h D f d v) (hq : pc + 3 = q)
    (K : ∀ T', On l Z ws R own nm bytes maxL ret C T' h cells slots → Go C ws Q k n (T'.setTop (mkF C.m q Ls (v :: st)))) : Go C ws Q k n (T.setTop (mkF C.m pc Ls st)) := by
  obtain ⟨⟨hx, hZ, rfl, r1, hown, r2⟩, ⟨_, X, N⟩, eT⟩ := O; subst hq
  obtain ⟨T', X', e', stp⟩ := Jvm.RoadKit.getS (host := "") X hx hZ hown w Via.refl eT F (g := mkF C.m pc Ls st) rfl hd
  exact (K T' ⟨⟨hx, hZ, rfl, r1, hown, r2⟩, ⟨_, X', N⟩, e'⟩).of fun _ kk => stp _ kk
theorem putF (O : On l Z ws R own nm bytes maxL ret C T h cells slots) {i kk : Nat} {R0 D f d host K0 : String} {ty : FieldType} {a : Addr} {v old : Value} (hd : decode bytes pc = .ok (.putfield i, 3)) (w : (Cond.fieldLink own i R0 f d).before a0 Z = true ∨ (Cond.fieldLinkNest own i R0 f d host).before a0 Z = true) (via : Via Z R0 D f d)
    (F : Fld Z h a D f d old) (E : Exa Z h a K0) (L : (Cond.lays K0 D f d).before a0 Z = true ∨ ((Cond.laysFinal K0 D f d).before a0 Z = true ∧ own = D ∧ nm = "<init>")) (wi : (Cond.instantiable K0 kk).before a0 Z = true) (hty : parseFieldDescriptor d = some ty) (hn : narrow ty v = v) (hf : fits ty v = true) (ha : a ∈ ws ∨ C.s.heap.size ≤ a) (hq : pc + 3 = q)
    (K : ∀ T' h', On l Z ws R own nm bytes maxL ret C T' h' cells slots → Wr h h' a (Jvm.RoadKit.slotOf Z D f d) v → Go C ws Q k n (T'.setTop (mkF C.m q Ls st))) : Go C ws Q k n (T.setTop (mkF C.m pc Ls (v :: .ref a :: st))) := by
  obtain ⟨⟨hx, hZ, rfl, r1, hown, hnm, r2⟩, ⟨_, X, N⟩, eT⟩ := O; subst hq
  obtain ⟨T', h', X', e', W, stp⟩ := Jvm.RoadKit.putF X hx hZ hown w via eT F E (L.imp id fun q => ⟨q.1, q.2.1, hnm.trans q.2.2⟩) wi hty hn hf (g := mkF C.m pc Ls (v :: .ref a :: st)) rfl rfl hd
  exact (K T' h' ⟨⟨hx, hZ, rfl, r1, hown, hnm, r2⟩, ⟨_, X', N.snoc ha⟩, e'⟩ W).of fun _ kk => stp _ kk
theorem newO (O : On l Z ws R own nm bytes maxL ret C T h cells slots) {i ns c2 s2 : Nat} {K0 : String} (hd : decode bytes pc = .ok (.new i, 3)) (w : (Cond.classLink own i K0).before a0 Z = true) (wi : (Cond.instantiable K0 ns).before a0 Z = true) (wz : (Cond.initialized K0).before a0 Z = true) (hc2 : cells + 1 = c2) (hs2 : slots + ns = s2) (hc : c2 ≤ R.cells) (hl : s2 ≤ R.slots) (hq : pc + 3 = q)
    (K : ∀ a T' h', a = h.size → C.s.heap.size ≤ a → On l Z ws R own nm bytes maxL ret C T' h' c2 s2 → Ext h h' → Exa Z h' a K0 → (∀ {O nm d : String} {ty : FieldType}, Laid Z a0 K0 O nm d → parseFieldDescriptor d = some ty → Fld Z h' a O nm d (defaultValue ty)) → Go C ws Q k n (T'.setTop (mkF C.m q Ls (.ref a :: st)))) : Go C ws Q k n (T.setTop (mkF C.m pc Ls st)) := by
  obtain ⟨⟨hx, hZ, rfl, r1, hown, r2⟩, ⟨_, X, N⟩, eT⟩ := O; subst hq hc2 hs2
  obtain ⟨T', h', X', e', E, A, D, -, stp⟩ := Jvm.RoadKit.newO X hx hZ hown w wi wz eT (g := mkF C.m pc Ls st) rfl hd hc hl
  exact (K _ T' h' rfl (eT ▸ X.same.2.1) ⟨⟨hx, hZ, rfl, r1, hown, r2⟩, ⟨_, X', N⟩, e'⟩ E A D).of fun _ kk => stp _ kk
theorem newP (O : On l Z ws R own nm bytes maxL ret C T h cells slots) {aty : ArrayType} {c2 s2 : Nat} (hd : decode bytes pc = .ok (.newarray aty, 2)) (w : (Cond.arrayClass (newarray.typeOf aty)).before a0 Z = true) {z : Int32} (hn : ¬ z < 0) {cap : Nat} (hcap : z.toNatClampNeg ≤ cap) (hb : cap * 8 ≤ 536870912) (hc2 : cells + 1 = c2) (hs2 : slots + cap = s2) (hc : c2 ≤ R.cells) (hl : s2 ≤ R.slots) (hq : pc + 2 = q)
    (K : ∀ a T' h' cA, a = h.size → C.s.heap.size ≤ a → On l Z ws R own nm bytes maxL ret C T' h' c2 s2 → Ext h h' → Arr Z h' a (newA cA (newarray.typeOf aty) z) (newarray.typeOf aty) → Go C ws Q k n (T'.setTop (mkF C.m q Ls (.ref a :: st)))) : Go C ws Q k n (T.setTop (mkF C.m pc Ls (.int z :: st))) := by
  obtain ⟨⟨hx, hZ, rfl, r1, hown, r2⟩, ⟨_, X, N⟩, eT⟩ := O; subst hq hc2 hs2
  obtain ⟨T', h', cA, X', e', E, A, stp⟩ := Jvm.RoadKit.newP X hx hZ w eT (g := mkF C.m pc Ls (.int z :: st)) rfl hd rfl hn hcap hb hc hl
  exact (K _ T' h' cA rfl (eT ▸ X.same.2.1) ⟨⟨hx, hZ, rfl, r1, hown, r2⟩, ⟨_, X', N⟩, e'⟩ E A).of fun _ kk => stp _ kk
theorem initO (O : On l Z ws R own nm bytes maxL ret C T h cells slots) {i : Nat} {a : Addr} (hd : decode bytes pc = .ok (.invokespecial i, 3)) (w1 : (Cond.methodLink own i Lib.objectInit).before a0 Z = true) (w2 : (Cond.instanceMethod Lib.objectInit).before a0 Z = true) (w3 : (Cond.code Lib.objectInit ⟨#[0xb1]⟩ 1 none).before a0 Z = true) (hsz : Ls.size = maxL) (hf : 1 ≤ R.frames) {W : Nat} (hW : (st.map fun v => v.category).sum ≤ W) (hl : W + 12 ≤ R.locals) (hq : pc + 3 = q)
    (K : ∀ T', On l Z ws R own nm bytes maxL ret C T' h cells slots → Go C ws Q k n (T'.setTop (mkF C.m q Ls st))) : Go C ws Q k n (T.setTop (mkF C.m pc Ls (.ref a :: st))) := by
  obtain ⟨⟨hx, hZ, rfl, r1, hown, r2⟩, ⟨_, X, N⟩, eT⟩ := O; subst hq
  obtain ⟨T', X', e', stp⟩ := Jvm.RoadKit.initO X hx hZ hown w1 w2 w3 eT (g := mkF C.m pc Ls (.ref a :: st)) rfl (hsz.trans r1.symm) rfl hd hf (W := W) (by show 2 * 0 + _ ≤ _; rw [Nat.mul_zero, Nat.zero_add]; exact hW) hl
  exact (K T' ⟨⟨hx, hZ, rfl, r1, hown, r2⟩, ⟨_, X', N⟩, e'⟩).of fun _ kk => stp _ kk
theorem iaload (O : On l Z ws R own nm bytes maxL ret C T h cells slots) {a : Addr} {cl : Cell} {j : Int32} {v : Value} (hd : decode bytes pc = .ok (.iaload, 1)) (A : Arr Z h a cl .int) (hin : ¬ (j < 0 ∨ cl.slots.size ≤ j.toNatClampNeg)) (hv : cl.slots[j.toNatClampNeg]? = some v) (hq : pc + 1 = q)
    (K : Go C ws Q k n (T.setTop (mkF C.m q Ls (v :: st)))) : Go C ws Q k n (T.setTop (mkF C.m pc Ls (.int j :: .ref a :: st))) := by
  obtain ⟨⟨hx, hZ, rfl, -⟩, ⟨_, X, N⟩, eT⟩ := O; subst hq
  exact K.of fun _ kk => X.iaload hx (by rw [eT]; exact A.1) (State.isArrayOf_alike hZ.alike A.2.1) A.2.2 hin hv (g := mkF C.m pc Ls (.int j :: .ref a :: st)) rfl rfl hd _ kk
theorem laload (O : On l Z ws R own nm bytes maxL ret C T h cells slots) {a : Addr} {cl : Cell} {j : Int32} {v : Value} (hd : decode bytes pc = .ok (.laload, 1)) (A : Arr Z h a cl .long) (hin : ¬ (j < 0 ∨ cl.slots.size ≤ j.toNatClampNeg)) (hv : cl.slots[j.toNatClampNeg]? = some v) (hq : pc + 1 = q)
    (K : Go C ws Q k n (T.setTop (mkF C.m q Ls (v :: st)))) : Go C ws Q k n (T.setTop (mkF C.m pc Ls (.int j :: .ref a :: st))) := by
  obtain ⟨⟨hx, hZ, rfl, -⟩, ⟨_, X, N⟩, eT⟩ := O; subst hq
  exact K.of fun _ kk => X.laload hx (by rw [eT]; exact A.1) (State.isArrayOf_alike hZ.alike A.2.1) A.2.2 hin hv (g := mkF C.m pc Ls (.int j :: .ref a :: st)) rfl rfl hd _ kk
theorem baload (O : On l Z ws R own nm bytes maxL ret C T h cells slots) {a : Addr} {cl : Cell} {j : Int32} {v : Value} (hd : decode bytes pc = .ok (.baload, 1)) (A : Arr Z h a cl .byte) (hin : ¬ (j < 0 ∨ cl.slots.size ≤ j.toNatClampNeg)) (hv : cl.slots[j.toNatClampNeg]? = some v) (hq : pc + 1 = q)
    (K : Go C ws Q k n (T.setTop (mkF C.m q Ls (v :: st)))) : Go C ws Q k n (T.setTop (mkF C.m pc Ls (.int j :: .ref a :: st))) := by
  obtain ⟨⟨hx, hZ, rfl, -⟩, ⟨_, X, N⟩, eT⟩ := O; subst hq
  exact K.of fun _ kk => X.baloadBytes hx (by rw [eT]; exact A.1) (State.isArrayOf_alike hZ.alike A.2.1) A.2.2 hin hv (g := mkF C.m pc Ls (.int j :: .ref a :: st)) rfl rfl hd _ kk
theorem aaload (O : On l Z ws R own nm bytes maxL ret C T h cells slots) {a : Addr} {cl : Cell} {ty : FieldType} {j : Int32} {v : Value} (hd : decode bytes pc = .ok (.aaload, 1)) (A : Arr Z h a cl ty) (hty : ty.isReference = true) (hin : ¬ (j < 0 ∨ cl.slots.size ≤ j.toNatClampNeg)) (hv : cl.slots[j.toNatClampNeg]? = some v) (hq : pc + 1 = q)
    (K : Go C ws Q k n (T.setTop (mkF C.m q Ls (v :: st)))) : Go C ws Q k n (T.setTop (mkF C.m pc Ls (.int j :: .ref a :: st))) := by
  obtain ⟨⟨hx, hZ, rfl, -⟩, ⟨_, X, N⟩, eT⟩ := O; subst hq
  exact K.of fun _ kk => X.aaload hx (by rw [eT]; exact A.1) (State.isArrayOf_alike hZ.alike A.2.1) hty A.2.2 hin hv (g := mkF C.m pc Ls (.int j :: .ref a :: st)) rfl rfl hd _ kk
theorem arraylength (O : On l Z ws R own nm bytes maxL ret C T h cells slots) {a : Addr} {cl : Cell} {ty : FieldType} {z : Int32} (hd : decode bytes pc = .ok (.arraylength, 1)) (A : Arr Z h a cl ty) (hz : cl.slots.size.toInt32 = z) (hq : pc + 1 = q)
    (K : Go C ws Q k n (T.setTop (mkF C.m q Ls (.int z :: st)))) : Go C ws Q k n (T.setTop (mkF C.m pc Ls (.ref a :: st))) := by
  obtain ⟨⟨hx, hZ, rfl, -⟩, ⟨_, X, N⟩, eT⟩ := O; subst hq hz
  exact K.of fun _ kk => X.arraylength hx (by rw [eT]; exact A.1) (State.isArrayOf_alike hZ.alike A.2.1) (g := mkF C.m pc Ls (.ref a :: st)) rfl rfl hd _ kk
theorem iastore (O : On l Z ws R own nm bytes maxL ret C T h cells slots) {a : Addr} {cl : Cell} {j : Int32} {x : Int32} (hd : decode bytes pc = .ok (.iastore, 1)) (A : Arr Z h a cl .int) (hin : ¬ (j < 0 ∨ cl.slots.size ≤ j.toNatClampNeg)) (ha : a ∈ ws ∨ C.s.heap.size ≤ a) (hq : pc + 1 = q)
    (K : ∀ T' h', On l Z ws R own nm bytes maxL ret C T' h' cells slots → Wr h h' a j.toNatClampNeg (.int x) → Go C ws Q k n (T'.setTop (mkF C.m q Ls st))) : Go C ws Q k n (T.setTop (mkF C.m pc Ls (.int x :: .int j :: .ref a :: st))) := by
  obtain ⟨⟨hx, hZ, rfl, r1, hown, r2⟩, ⟨_, X, N⟩, eT⟩ := O; subst hq
  obtain ⟨T', h', X', e', W, stp⟩ := Jvm.RoadKit.stI X hx hZ eT A hin (g := mkF C.m pc Ls (.int x :: .int j :: .ref a :: st)) rfl rfl hd
  exact (K T' h' ⟨⟨hx, hZ, rfl, r1, hown, r2⟩, ⟨_, X', N.snoc ha⟩, e'⟩ W).of fun _ kk => stp _ kk
theorem lastore (O : On l Z ws R own nm bytes maxL ret C T h cells slots) {a : Addr} {cl : Cell} {j : Int32} {x : Int64} (hd : decode bytes pc = .ok (.lastore, 1)) (A : Arr Z h a cl .long) (hin : ¬ (j < 0 ∨ cl.slots.size ≤ j.toNatClampNeg)) (ha : a ∈ ws ∨ C.s.heap.size ≤ a) (hq : pc + 1 = q)
    (K : ∀ T' h', On l Z ws R own nm bytes maxL ret C T' h' cells slots → Wr h h' a j.toNatClampNeg (.long x) → Go C ws Q k n (T'.setTop (mkF C.m q Ls st))) : Go C ws Q k n (T.setTop (mkF C.m pc Ls (.long x :: .int j :: .ref a :: st))) := by
  obtain ⟨⟨hx, hZ, rfl, r1, hown, r2⟩, ⟨_, X, N⟩, eT⟩ := O; subst hq
  obtain ⟨T', h', X', e', W, stp⟩ := Jvm.RoadKit.stJ X hx hZ eT A hin (g := mkF C.m pc Ls (.long x :: .int j :: .ref a :: st)) rfl rfl hd
  exact (K T' h' ⟨⟨hx, hZ, rfl, r1, hown, r2⟩, ⟨_, X', N.snoc ha⟩, e'⟩ W).of fun _ kk => stp _ kk
theorem bastore (O : On l Z ws R own nm bytes maxL ret C T h cells slots) {a : Addr} {cl : Cell} {j : Int32} {x : Int32} (hd : decode bytes pc = .ok (.bastore, 1)) (A : Arr Z h a cl .byte) (hin : ¬ (j < 0 ∨ cl.slots.size ≤ j.toNatClampNeg)) (ha : a ∈ ws ∨ C.s.heap.size ≤ a) (hq : pc + 1 = q)
    (K : ∀ T' h', On l Z ws R own nm bytes maxL ret C T' h' cells slots → Wr h h' a j.toNatClampNeg (.int (nar .byte x)) → Go C ws Q k n (T'.setTop (mkF C.m q Ls st))) : Go C ws Q k n (T.setTop (mkF C.m pc Ls (.int x :: .int j :: .ref a :: st))) := by
  obtain ⟨⟨hx, hZ, rfl, r1, hown, r2⟩, ⟨_, X, N⟩, eT⟩ := O; subst hq
  obtain ⟨T', h', X', e', W, stp⟩ := Jvm.RoadKit.stB X hx hZ eT A hin (g := mkF C.m pc Ls (.int x :: .int j :: .ref a :: st)) rfl rfl hd
  exact (K T' h' ⟨⟨hx, hZ, rfl, r1, hown, r2⟩, ⟨_, X', N.snoc ha⟩, e'⟩ W).of fun _ kk => stp _ kk
theorem callS (O : On l Z ws R own nm bytes maxL ret C T h cells slots) {i : Nat} {y : MethodName} {yb : ByteArray} {yl : Nat} {yr : Option FieldType} {rm : Room} {argsL rest : List Value} {wsc : List Addr} {Qc : Option Value → Heap → Prop} {ps : List FieldType} {rr : Option FieldType} {W c2 s2 : Nat}
    (hd : decode bytes pc = .ok (.invokestatic i, 3)) (w1 : (Cond.methodLink own i y).before a0 Z = true) (w2 : (Cond.static y).before a0 Z = true) (w3 : (Cond.initialized y.cls).before a0 Z = true) (w4 : (Cond.code y yb yl yr).before a0 Z = true) (hy : y.cls ≠ "java/lang/invoke/MethodHandle" ∧ y.cls ≠ "java/lang/invoke/VarHandle")
    (hM : Met l Z y yb yl yr [] rm (argsL).toArray wsc h Qc) (hsz : Ls.size = maxL) (hpd : parseMethodDescriptor y.desc = some ⟨ps, rr⟩) (hlen : argsL.length = ps.length) (hst : st = argsL.reverse ++ rest) (hW : (rest.map fun v => v.category).sum ≤ W)
    (hf : rm.frames + 1 ≤ R.frames) (hl : W + (yl + 11) + rm.locals ≤ R.locals) (hc2 : cells + rm.cells = c2) (hs2 : slots + rm.slots = s2) (hcl : c2 ≤ R.cells) (hsl : s2 ≤ R.slots) (hws : ∀ x ∈ wsc, x ∈ ws ∨ C.s.heap.size ≤ x) (hq : pc + 3 = q)
    (K : ∀ v T' h', On l Z ws R own nm bytes maxL ret C T' h' c2 s2 → Keep h h' wsc → Qc v h' → Go C ws Q k n (T'.setTop (mkF C.m q Ls (v.toList ++ rest)))) : Go C ws Q k n (T.setTop (mkF C.m pc Ls st)) := by
  obtain ⟨⟨hx, hZ, rfl, r1, hown, r2⟩, ⟨locs, X, N⟩, eT⟩ := O; subst hq hc2 hs2
  obtain ⟨v, _, ⟨T', L', k', n'⟩, -, X', ⟨Lc, hQ, l', y', z'⟩, stp⟩ := Jvm.LawKit.callS X hx (y := y) hown (mvT hZ w1) (mvT hZ w2) (mvT hZ w3) (mvT hZ w4) hy (backOf (W := W) (Q := Post wsc rm.cells h Qc) hM hZ w4 w3 hf hl) (g := mkF C.m pc Ls st) rfl (hsz.trans r1.symm) (argsL := argsL) (rest := rest) (lenOf hpd hlen) hst (by show 2 * 0 + _ ≤ _; rw [Nat.mul_zero, Nat.zero_add]; exact hW) hd (fun _ _ => ⟨rfl, eT, hcl, hsl⟩)
  dsimp only [Pt.U, Pt.locs, Pt.cells, Pt.slots] at X' l' y' z' stp hQ
  subst l' y' z'
  obtain ⟨hF, hK, hE, hQ⟩ := hQ
  have hb : C.s.heap.size ≤ h.size := eT ▸ X.same.2.1
  exact (K v T' T'.heap ⟨⟨hx, hZ, rfl, r1, hown, r2⟩, ⟨_, X', N.app fun y hy => (hF y hy).elim (hws _) fun z => Or.inr (Nat.le_trans hb z)⟩, rfl⟩ hK hQ).of fun _ kk => stp _ kk
theorem callS0 (O : On l Z ws R own nm bytes maxL ret C T h cells slots) {i : Nat} {y : MethodName} {yb : ByteArray} {yl : Nat} {yr : Option FieldType} {rm : Room} {argsL rest : List Value} {wsc : List Addr} {Qc : Option Value → Heap → Prop} {ps : List FieldType} {rr : Option FieldType} {W c2 s2 : Nat}
    (hd : decode bytes pc = .ok (.invokestatic i, 3)) (w1 : (Cond.methodLink own i y).before a0 Z = true) (w2 : (Cond.static y).before a0 Z = true) (w3 : (Cond.initialized y.cls).before a0 Z = true) (w4 : (Cond.code y yb yl yr).before a0 Z = true) (hy : y.cls ≠ "java/lang/invoke/MethodHandle" ∧ y.cls ≠ "java/lang/invoke/VarHandle")
    (hM : Met l Z y yb yl yr [] rm (argsL).toArray wsc h Qc) (hsz : Ls.size = maxL) (hpd : parseMethodDescriptor y.desc = some ⟨ps, rr⟩) (hlen : argsL.length = ps.length) (hst : st = argsL.reverse ++ rest) (hW : (rest.map fun v => v.category).sum ≤ W)
    (hf : rm.frames + 1 ≤ R.frames) (hl : W + (yl + 11) + rm.locals ≤ R.locals) (hc2 : cells + rm.cells = c2) (hs2 : slots + rm.slots = s2) (hcl : c2 ≤ R.cells) (hsl : s2 ≤ R.slots) (hrc : rm.cells = 0) (hwc : wsc = []) (hq : pc + 3 = q)
    (K : ∀ v T', On l Z ws R own nm bytes maxL ret C T' h c2 s2 → Qc v h → Go C ws Q k n (T'.setTop (mkF C.m q Ls (v.toList ++ rest)))) : Go C ws Q k n (T.setTop (mkF C.m pc Ls st)) := by
  obtain ⟨⟨hx, hZ, rfl, r1, hown, r2⟩, ⟨locs, X, N⟩, eT⟩ := O; subst hq hc2 hs2
  obtain ⟨v, _, ⟨T', L', k', n'⟩, -, X', ⟨Lc, hQ, l', y', z'⟩, stp⟩ := Jvm.LawKit.callS X hx (y := y) hown (mvT hZ w1) (mvT hZ w2) (mvT hZ w3) (mvT hZ w4) hy (backOf (W := W) (Q := Post wsc rm.cells h Qc) hM hZ w4 w3 hf hl) (g := mkF C.m pc Ls st) rfl (hsz.trans r1.symm) (argsL := argsL) (rest := rest) (lenOf hpd hlen) hst (by show 2 * 0 + _ ≤ _; rw [Nat.mul_zero, Nat.zero_add]; exact hW) hd (fun _ _ => ⟨rfl, eT, hcl, hsl⟩)
  dsimp only [Pt.U, Pt.locs, Pt.cells, Pt.slots] at X' l' y' z' stp hQ
  subst l' y' z'
  obtain ⟨hF, hK, hE, hQ⟩ := hQ
  have hb : C.s.heap.size ≤ h.size := eT ▸ X.same.2.1
  have he : T'.heap = h := hE hrc hwc
  refine (K v T' ⟨⟨hx, hZ, rfl, r1, hown, r2⟩, ⟨_, X', N.app fun y hy => (hF y hy).elim (fun z => by rw [hwc] at z; cases z) fun z => Or.inr (Nat.le_trans hb z)⟩, he⟩ (he ▸ hQ)).of fun _ kk => stp _ kk
theorem callI (O : On l Z ws R own nm bytes maxL ret C T h cells slots) {i : Nat} {y : MethodName} {yb : ByteArray} {yl : Nat} {rm : Room} {argsL rest : List Value} {wsc : List Addr} {Qc : Option Value → Heap → Prop} {ps : List FieldType} {rr : Option FieldType} {W c2 s2 : Nat} {a : Addr}
    (hd : decode bytes pc = .ok (.invokespecial i, 3)) (hy1 : y.name = "<init>") (w1 : (Cond.methodLink own i y).before a0 Z = true) (w2 : (Cond.instanceMethod y).before a0 Z = true) (w3 : (Cond.initialized y.cls).before a0 Z = true) (w4 : (Cond.code y yb yl none).before a0 Z = true) (hy : y.cls ≠ "java/lang/invoke/MethodHandle" ∧ y.cls ≠ "java/lang/invoke/VarHandle")
    (hM : Met l Z y yb yl none [] rm (Value.ref a :: argsL).toArray wsc h Qc) (hsz : Ls.size = maxL) (hpd : parseMethodDescriptor y.desc = some ⟨ps, rr⟩) (hlen : argsL.length = ps.length) (hst : st = argsL.reverse ++ .ref a :: rest) (hW : (rest.map fun v => v.category).sum ≤ W)
    (hf : rm.frames + 1 ≤ R.frames) (hl : W + (yl + 11) + rm.locals ≤ R.locals) (hc2 : cells + rm.cells = c2) (hs2 : slots + rm.slots = s2) (hcl : c2 ≤ R.cells) (hsl : s2 ≤ R.slots) (hws : ∀ x ∈ wsc, x ∈ ws ∨ C.s.heap.size ≤ x) (hq : pc + 3 = q)
    (K : ∀ v T' h', On l Z ws R own nm bytes maxL ret C T' h' c2 s2 → Keep h h' wsc → Qc v h' → Go C ws Q k n (T'.setTop (mkF C.m q Ls (v.toList ++ rest)))) : Go C ws Q k n (T.setTop (mkF C.m pc Ls st)) := by
  obtain ⟨⟨hx, hZ, rfl, r1, hown, r2⟩, ⟨locs, X, N⟩, eT⟩ := O; subst hq hc2 hs2
  obtain ⟨v, _, ⟨T', L', k', n'⟩, -, X', ⟨Lc, hQ, l', y', z'⟩, stp⟩ := X.specialBack hx (y := y) hy1 hown (mvT hZ w1) (mvT hZ w2) (mvT hZ w4) hy (backOf (W := W) (Q := Post wsc rm.cells h Qc) hM hZ w4 w3 hf hl) (g := mkF C.m pc Ls st) rfl (hsz.trans r1.symm) (Steps.refl _) (a := a) (argsL := argsL) (rest := rest) (lenOf hpd hlen) hst (by show 2 * 0 + _ ≤ _; rw [Nat.mul_zero, Nat.zero_add]; exact hW) hd (fun _ _ => ⟨rfl, eT, hcl, hsl⟩)
  dsimp only [Pt.U, Pt.locs, Pt.cells, Pt.slots] at X' l' y' z' stp hQ
  subst l' y' z'
  obtain ⟨hF, hK, hE, hQ⟩ := hQ
  have hb : C.s.heap.size ≤ h.size := eT ▸ X.same.2.1
  exact (K v T' T'.heap ⟨⟨hx, hZ, rfl, r1, hown, r2⟩, ⟨_, X', N.app fun y hy => (hF y hy).elim (hws _) fun z => Or.inr (Nat.le_trans hb z)⟩, rfl⟩ hK hQ).via (stp)
theorem callI0 (O : On l Z ws R own nm bytes maxL ret C T h cells slots) {i : Nat} {y : MethodName} {yb : ByteArray} {yl : Nat} {rm : Room} {argsL rest : List Value} {wsc : List Addr} {Qc : Option Value → Heap → Prop} {ps : List FieldType} {rr : Option FieldType} {W c2 s2 : Nat} {a : Addr}
    (hd : decode bytes pc = .ok (.invokespecial i, 3)) (hy1 : y.name = "<init>") (w1 : (Cond.methodLink own i y).before a0 Z = true) (w2 : (Cond.instanceMethod y).before a0 Z = true) (w3 : (Cond.initialized y.cls).before a0 Z = true) (w4 : (Cond.code y yb yl none).before a0 Z = true) (hy : y.cls ≠ "java/lang/invoke/MethodHandle" ∧ y.cls ≠ "java/lang/invoke/VarHandle")
    (hM : Met l Z y yb yl none [] rm (Value.ref a :: argsL).toArray wsc h Qc) (hsz : Ls.size = maxL) (hpd : parseMethodDescriptor y.desc = some ⟨ps, rr⟩) (hlen : argsL.length = ps.length) (hst : st = argsL.reverse ++ .ref a :: rest) (hW : (rest.map fun v => v.category).sum ≤ W)
    (hf : rm.frames + 1 ≤ R.frames) (hl : W + (yl + 11) + rm.locals ≤ R.locals) (hc2 : cells + rm.cells = c2) (hs2 : slots + rm.slots = s2) (hcl : c2 ≤ R.cells) (hsl : s2 ≤ R.slots) (hrc : rm.cells = 0) (hwc : wsc = []) (hq : pc + 3 = q)
    (K : ∀ v T', On l Z ws R own nm bytes maxL ret C T' h c2 s2 → Qc v h → Go C ws Q k n (T'.setTop (mkF C.m q Ls (v.toList ++ rest)))) : Go C ws Q k n (T.setTop (mkF C.m pc Ls st)) := by
  obtain ⟨⟨hx, hZ, rfl, r1, hown, r2⟩, ⟨locs, X, N⟩, eT⟩ := O; subst hq hc2 hs2
  obtain ⟨v, _, ⟨T', L', k', n'⟩, -, X', ⟨Lc, hQ, l', y', z'⟩, stp⟩ := X.specialBack hx (y := y) hy1 hown (mvT hZ w1) (mvT hZ w2) (mvT hZ w4) hy (backOf (W := W) (Q := Post wsc rm.cells h Qc) hM hZ w4 w3 hf hl) (g := mkF C.m pc Ls st) rfl (hsz.trans r1.symm) (Steps.refl _) (a := a) (argsL := argsL) (rest := rest) (lenOf hpd hlen) hst (by show 2 * 0 + _ ≤ _; rw [Nat.mul_zero, Nat.zero_add]; exact hW) hd (fun _ _ => ⟨rfl, eT, hcl, hsl⟩)
  dsimp only [Pt.U, Pt.locs, Pt.cells, Pt.slots] at X' l' y' z' stp hQ
  subst l' y' z'
  obtain ⟨hF, hK, hE, hQ⟩ := hQ
  have hb : C.s.heap.size ≤ h.size := eT ▸ X.same.2.1
  have he : T'.heap = h := hE hrc hwc
  refine (K v T' ⟨⟨hx, hZ, rfl, r1, hown, r2⟩, ⟨_, X', N.app fun y hy => (hF y hy).elim (fun z => by rw [hwc] at z; cases z) fun z => Or.inr (Nat.le_trans hb z)⟩, he⟩ (he ▸ hQ)).via (stp)
theorem callV (O : On l Z ws R own nm bytes maxL ret C T h cells slots) {i : Nat} {y z : MethodName} {yb : ByteArray} {yl : Nat} {yr : Option FieldType} {rm : Room} {argsL rest : List Value} {wsc : List Addr} {Qc : Option Value → Heap → Prop} {ps : List FieldType} {rr : Option FieldType} {W c2 s2 : Nat} {a : Addr} {K0 : String}
    (hd : decode bytes pc = .ok (.invokevirtual i, 3)) (w1 : (Cond.methodLink own i y).before a0 Z = true) (wd : (Cond.declares y).before a0 Z = true) (ws1 : (Cond.selects K0 y z).before a0 Z = true) (hyz : y = z) (w2 : (Cond.instanceMethod z).before a0 Z = true) (w3 : (Cond.initialized z.cls).before a0 Z = true) (w4 : (Cond.code z yb yl yr).before a0 Z = true) (hy : y.cls ≠ "java/lang/invoke/MethodHandle" ∧ y.cls ≠ "java/lang/invoke/VarHandle")
    (hM : Met l Z z yb yl yr [] rm (Value.ref a :: argsL).toArray wsc h Qc) (E : Exa Z h a K0) (hsz : Ls.size = maxL) (hpd : parseMethodDescriptor y.desc = some ⟨ps, rr⟩) (hlen : argsL.length = ps.length) (hst : st = argsL.reverse ++ .ref a :: rest) (hW : (rest.map fun v => v.category).sum ≤ W)
    (hf : rm.frames + 1 ≤ R.frames) (hl : W + (yl + 11) + rm.locals ≤ R.locals) (hc2 : cells + rm.cells = c2) (hs2 : slots + rm.slots = s2) (hcl : c2 ≤ R.cells) (hsl : s2 ≤ R.slots) (hws : ∀ x ∈ wsc, x ∈ ws ∨ C.s.heap.size ≤ x) (hq : pc + 3 = q)
    (K : ∀ v T' h', On l Z ws R own nm bytes maxL ret C T' h' c2 s2 → Keep h h' wsc → Qc v h' → Go C ws Q k n (T'.setTop (mkF C.m q Ls (v.toList ++ rest)))) : Go C ws Q k n (T.setTop (mkF C.m pc Ls st)) := by
  obtain ⟨⟨hx, hZ, rfl, r1, hown, r2⟩, ⟨locs, X, N⟩, eT⟩ := O; subst hq hc2 hs2
  subst hyz
  obtain ⟨_, _, q1, -, q3⟩ := isOf hZ eT E
  obtain ⟨v, _, ⟨T', L', k', n'⟩, -, X', ⟨Lc, hQ, l', y', z'⟩, stp⟩ := X.virtualBack hx (y := y) (z := y) hown (mvT hZ w1) (mvT hZ wd) (notFace_of_selects (args := #[]) (mvT hZ ws1)) (mvT hZ ws1) (mvT hZ w2) hy (backOf (W := W) (Q := Post wsc rm.cells h Qc) hM hZ w4 w3 hf hl) q1 q3 (g := mkF C.m pc Ls st) rfl (hsz.trans r1.symm) (Steps.refl _) (argsL := argsL) (rest := rest) (lenOf hpd hlen) hst (by show 2 * 0 + _ ≤ _; rw [Nat.mul_zero, Nat.zero_add]; exact hW) hd (fun _ _ => ⟨rfl, eT, hcl, hsl⟩)
  dsimp only [Pt.U, Pt.locs, Pt.cells, Pt.slots] at X' l' y' z' stp hQ
  subst l' y' z'
  obtain ⟨hF, hK, hE, hQ⟩ := hQ
  have hb : C.s.heap.size ≤ h.size := eT ▸ X.same.2.1
  exact (K v T' T'.heap ⟨⟨hx, hZ, rfl, r1, hown, r2⟩, ⟨_, X', N.app fun y hy => (hF y hy).elim (hws _) fun z => Or.inr (Nat.le_trans hb z)⟩, rfl⟩ hK hQ).via (stp)
theorem callV0 (O : On l Z ws R own nm bytes maxL ret C T h cells slots) {i : Nat} {y z : MethodName} {yb : ByteArray} {yl : Nat} {yr : Option FieldType} {rm : Room} {argsL rest : List Value} {wsc : List Addr} {Qc : Option Value → Heap → Prop} {ps : List FieldType} {rr : Option FieldType} {W c2 s2 : Nat} {a : Addr} {K0 : String}
    (hd : decode bytes pc = .ok (.invokevirtual i, 3)) (w1 : (Cond.methodLink own i y).before a0 Z = true) (wd : (Cond.declares y).before a0 Z = true) (ws1 : (Cond.selects K0 y z).before a0 Z = true) (hyz : y = z) (w2 : (Cond.instanceMethod z).before a0 Z = true) (w3 : (Cond.initialized z.cls).before a0 Z = true) (w4 : (Cond.code z yb yl yr).before a0 Z = true) (hy : y.cls ≠ "java/lang/invoke/MethodHandle" ∧ y.cls ≠ "java/lang/invoke/VarHandle")
    (hM : Met l Z z yb yl yr [] rm (Value.ref a :: argsL).toArray wsc h Qc) (E : Exa Z h a K0) (hsz : Ls.size = maxL) (hpd : parseMethodDescriptor y.desc = some ⟨ps, rr⟩) (hlen : argsL.length = ps.length) (hst : st = argsL.reverse ++ .ref a :: rest) (hW : (rest.map fun v => v.category).sum ≤ W)
    (hf : rm.frames + 1 ≤ R.frames) (hl : W + (yl + 11) + rm.locals ≤ R.locals) (hc2 : cells + rm.cells = c2) (hs2 : slots + rm.slots = s2) (hcl : c2 ≤ R.cells) (hsl : s2 ≤ R.slots) (hrc : rm.cells = 0) (hwc : wsc = []) (hq : pc + 3 = q)
    (K : ∀ v T', On l Z ws R own nm bytes maxL ret C T' h c2 s2 → Qc v h → Go C ws Q k n (T'.setTop (mkF C.m q Ls (v.toList ++ rest)))) : Go C ws Q k n (T.setTop (mkF C.m pc Ls st)) := by
  obtain ⟨⟨hx, hZ, rfl, r1, hown, r2⟩, ⟨locs, X, N⟩, eT⟩ := O; subst hq hc2 hs2
  subst hyz
  obtain ⟨_, _, q1, -, q3⟩ := isOf hZ eT E
  obtain ⟨v, _, ⟨T', L', k', n'⟩, -, X', ⟨Lc, hQ, l', y', z'⟩, stp⟩ := X.virtualBack hx (y := y) (z := y) hown (mvT hZ w1) (mvT hZ wd) (notFace_of_selects (args := #[]) (mvT hZ ws1)) (mvT hZ ws1) (mvT hZ w2) hy (backOf (W := W) (Q := Post wsc rm.cells h Qc) hM hZ w4 w3 hf hl) q1 q3 (g := mkF C.m pc Ls st) rfl (hsz.trans r1.symm) (Steps.refl _) (argsL := argsL) (rest := rest) (lenOf hpd hlen) hst (by show 2 * 0 + _ ≤ _; rw [Nat.mul_zero, Nat.zero_add]; exact hW) hd (fun _ _ => ⟨rfl, eT, hcl, hsl⟩)
  dsimp only [Pt.U, Pt.locs, Pt.cells, Pt.slots] at X' l' y' z' stp hQ
  subst l' y' z'
  obtain ⟨hF, hK, hE, hQ⟩ := hQ
  have hb : C.s.heap.size ≤ h.size := eT ▸ X.same.2.1
  have he : T'.heap = h := hE hrc hwc
  refine (K v T' ⟨⟨hx, hZ, rfl, r1, hown, r2⟩, ⟨_, X', N.app fun y hy => (hF y hy).elim (fun z => by rw [hwc] at z; cases z) fun z => Or.inr (Nat.le_trans hb z)⟩, he⟩ (he ▸ hQ)).via (stp)
theorem tltL {x y : Int64} (h : x < y) : ifCond.holds .lt (lcmpW x y) = true ∧ ifCond.holds .ge (lcmpW x y) = false ∧ ifCond.holds .gt (lcmpW y x) = true ∧ ifCond.holds .le (lcmpW y x) = false := by
  rw [if0, if0, if0, if0]
  exact ⟨(tlt ((lw_lt x y).mpr h)).1, (tlt ((lw_lt x y).mpr h)).2.1, (tlt ((lw_gt y x).mpr h)).2.2.1, (tlt ((lw_gt y x).mpr h)).2.2.2⟩
theorem fltL {x y : Int64} (h : ¬ x < y) : ifCond.holds .lt (lcmpW x y) = false ∧ ifCond.holds .ge (lcmpW x y) = true ∧ ifCond.holds .gt (lcmpW y x) = false ∧ ifCond.holds .le (lcmpW y x) = true := by
  rw [if0, if0, if0, if0]
  have h1 : ¬ lcmpW x y < 0 := fun q => h ((lw_lt x y).mp q)
  have h2 : ¬ 0 < lcmpW y x := fun q => h ((lw_gt y x).mp q)
  exact ⟨(flt h1).1, (flt h1).2.1, (flt h2).2.2.1, (flt h2).2.2.2⟩
theorem teqL {x y : Int64} (h : x = y) : ifCond.holds .eq (lcmpW x y) = true ∧ ifCond.holds .ne (lcmpW x y) = false := by
  rw [if0, if0]; exact teq ((lw_eq x y).mpr h)
theorem feqL {x y : Int64} (h : ¬ x = y) : ifCond.holds .eq (lcmpW x y) = false ∧ ifCond.holds .ne (lcmpW x y) = true := by
  rw [if0, if0]; exact feq fun q => h ((lw_eq x y).mp q)
theorem tlt0 {x : Int32} (h : x < 0) : ifCond.holds .lt x = true ∧ ifCond.holds .ge x = false := by rw [if0, if0]; exact ⟨(tlt h).1, (tlt h).2.1⟩
theorem flt0 {x : Int32} (h : ¬ x < 0) : ifCond.holds .lt x = false ∧ ifCond.holds .ge x = true := by rw [if0, if0]; exact ⟨(flt h).1, (flt h).2.1⟩
theorem tgt0 {x : Int32} (h : 0 < x) : ifCond.holds .gt x = true ∧ ifCond.holds .le x = false := by rw [if0, if0]; exact ⟨(tlt h).2.2.1, (tlt h).2.2.2⟩
theorem fgt0 {x : Int32} (h : ¬ 0 < x) : ifCond.holds .gt x = false ∧ ifCond.holds .le x = true := by rw [if0, if0]; exact ⟨(flt h).2.2.1, (flt h).2.2.2⟩
theorem teq0 {x : Int32} (h : x = 0) : ifCond.holds .eq x = true ∧ ifCond.holds .ne x = false := by rw [if0, if0]; exact teq h
theorem feq0 {x : Int32} (h : ¬ x = 0) : ifCond.holds .eq x = false ∧ ifCond.holds .ne x = true := by rw [if0, if0]; exact feq h
end Steps
end Jvm.OwnW

namespace Jvm.OwnW
open Sem ClassFile Op Lib Jvm.Free Jvm.Stand Jvm.LawKit Jvm.RoadKit
/-- an array of n places of the kind ty; place j holds f j -/
def Ar (Z : State) (h : Heap) (a : Addr) (ty : FieldType) (n : Nat) (f : Nat → Value) : Prop := ∃ cl : Cell, Arr Z h a cl ty ∧ cl.slots.size = n ∧ n < 2147483648 ∧ ∀ j, j < n → cl.slots[j]? = some (f j)
/-- the values of a list by their places -/
def lf (vs : List Value) : Nat → Value := fun j => vs.getD j .null
def updV (f : Nat → Value) (i : Nat) (v : Value) : Nat → Value := fun j => if j = i then v else f j
section Arrs
variable {Z : State} {h h' : Heap} {a b : Addr} {ty : FieldType} {n i sl : Nat} {f g : Nat → Value} {v : Value} {ws : List Addr} {vs : List Value}
theorem Ar.lt (F : Ar Z h a ty n f) : a < h.size := by obtain ⟨_, A, -⟩ := F; exact A.lt
theorem Ar.ext (F : Ar Z h a ty n f) (E : Ext h h') : Ar Z h' a ty n f := by obtain ⟨c, A, r⟩ := F; exact ⟨c, A.ext E, r⟩
theorem Ar.keep (F : Ar Z h a ty n f) (K : Keep h h' ws) (q : a ∉ ws) : Ar Z h' a ty n f := by obtain ⟨c, A, r⟩ := F; exact ⟨c, ⟨K.2.1 a c A.1 q, A.2⟩, r⟩
theorem Ar.other (F : Ar Z h b ty n f) (W : Wr h h' a sl v) (q : b ≠ a) : Ar Z h' b ty n f := by obtain ⟨c, A, r⟩ := F; exact ⟨c, A.other W q, r⟩
theorem Ar.congr (F : Ar Z h a ty n f) (q : ∀ j, j < n → f j = g j) : Ar Z h a ty n g := by obtain ⟨c, A, r1, r2, r3⟩ := F; exact ⟨c, A, r1, r2, fun j hj => by rw [r3 j hj, q j hj]⟩
theorem Ar.small (F : Ar Z h a ty n f) : n < 2147483648 := by obtain ⟨c, A, r1, r2, r3⟩ := F; exact r2
theorem toNat_of {z : Int32} {n : Nat} (hz : z.toInt = n) : z.toNatClampNeg = n := by simp only [Int32.toNatClampNeg, hz, Int.toNat_natCast]
theorem Ar.new {k : ClassId} {z : Int32} (A : Arr Z h a (newA k ty z) ty) (hz : z.toInt = n) : Ar Z h a ty n (fun _ => defaultValue ty) := by
  have q := toNat_of hz
  refine ⟨_, A, by rw [sz_new, q], ?_, fun j hj => ?_⟩
  · have := z.toInt_lt; omega
  · simp [newA, q, hj]
theorem Ar.set (F : Ar Z h a ty n f) (W : Wr h h' a i v) (hi : i < n) : Ar Z h' a ty n (updV f i v) := by
  obtain ⟨c, A, r1, r2, r3⟩ := F
  refine ⟨_, A.same W, by rw [sz_set]; exact r1, r2, fun j hj => ?_⟩
  by_cases e : j = i
  · subst e; simp [Cell.setSlot, updV, r1, hi]
  · simp only [Cell.setSlot, updV, if_neg e]; rw [Array.getElem?_setIfInBounds_ne (Ne.symm e)]; exact r3 j hj
theorem Ar.setL (F : Ar Z h a ty n (lf vs)) (W : Wr h h' a i v) (hi : i < n) (hl : i < vs.length) : Ar Z h' a ty n (lf (vs.set i v)) := (F.set W hi).congr fun j _ => by
  simp only [updV, lf, List.getD_eq_getElem?_getD]
  by_cases e : j = i
  · subst e; simp [hl]
  · rw [if_neg e, List.getElem?_set_ne (Ne.symm e)]
theorem lf_rep (n : Nat) (d : Value) (j : Nat) (hj : j < n) : d = lf (List.replicate n d) j := by simp [lf, hj]
theorem updV_lf (L : List Value) (hi : i < L.length) : updV (lf L) i v = lf (L.set i v) := by
  funext j
  simp only [updV, lf, List.getD_eq_getElem?_getD]
  by_cases e : j = i
  · subst e; simp [hi]
  · rw [if_neg e, List.getElem?_set_ne (Ne.symm e)]
theorem fill_step (N : Nat → Value) (d : Value) (i j : Nat) : updV (fun j => if j < i then N j else d) i (N i) j = if j < i + 1 then N j else d := by
  simp only [updV]
  by_cases e : j = i
  · subst e; rw [if_pos rfl, if_pos (Nat.lt_succ_self j)]
  · rw [if_neg e]
    by_cases q : j < i
    · rw [if_pos q, if_pos (by omega)]
    · rw [if_neg q, if_neg (by omega)]
theorem Ar.of_arr {cl : Cell} (A : Arr Z h a cl ty) (hn : cl.slots.size = n) (h31 : n < 2147483648) : ∃ f, Ar Z h a ty n f :=
  ⟨fun j => cl.slots.getD j .null, cl, A, hn, h31, fun j hj => by simp [Array.getD, hn, hj]⟩
theorem staKeep {D n d : String} (F : Sta Z h D n d v) (K : Keep h h' []) : Sta Z h' D n d v := by
  obtain ⟨cf, i, k, f, st, cell, h1, h2, h3, h4, h5, r⟩ := F
  exact ⟨cf, i, k, f, st, cell, h1, h2, h3, h4, K.2.1 _ _ h5 (fun q => nomatch q), r⟩
theorem inb {z : Int32} {m : Nat} (hz : z.toInt = (i : Int)) (hm : m = n) (hi : i < n) : ¬ (z < 0 ∨ m ≤ z.toNatClampNeg) := by
  rw [toNat_of hz, Int32.lt_iff_toInt_lt, hz, hm]
  have : (0 : Int32).toInt = 0 := rfl
  rw [this]; omega
theorem len32 {m : Nat} {z : Int32} (hm : m = n) (hn : n < 2147483648) (hz : z.toInt = n) : m.toInt32 = z := by
  apply Int32.toInt_inj.mp; rw [hz, hm]; exact len_toInt hn
end Arrs
section ArrSteps
variable {l : Launch} {Z : State} {a0 : Array Value} {ws : List Addr} {R : Room} {own nm : String} {bytes : ByteArray} {maxL : Nat} {ret : Option FieldType} {C : Ctx} {T : State} {h : Heap} {cells slots k n : Nat} {Q : Option Value → Heap → Prop} {pc q : Nat} {Ls L' : Array Slot} {st : List Value}
  {a : Addr} {j : Int32} {i N : Nat} {f : Nat → Value} {v : Value} {ty : FieldType}
theorem ialA (O : On l Z ws R own nm bytes maxL ret C T h cells slots) (hd : decode bytes pc = .ok (.iaload, 1)) (V : Ar Z h a .int N f) (hj : j.toInt = (i : Int)) (hi : i < N) (hv : f i = v) (hq : pc + 1 = q)
    (K : Go C ws Q k n (T.setTop (mkF C.m q Ls (v :: st)))) : Go C ws Q k n (T.setTop (mkF C.m pc Ls (.int j :: .ref a :: st))) := by
  obtain ⟨c, A, r1, r2, r3⟩ := V
  exact iaload O hd A (inb hj r1 hi) (by rw [toNat_of hj, ← hv]; exact r3 i hi) hq K
theorem lalA (O : On l Z ws R own nm bytes maxL ret C T h cells slots) (hd : decode bytes pc = .ok (.laload, 1)) (V : Ar Z h a .long N f) (hj : j.toInt = (i : Int)) (hi : i < N) (hv : f i = v) (hq : pc + 1 = q)
    (K : Go C ws Q k n (T.setTop (mkF C.m q Ls (v :: st)))) : Go C ws Q k n (T.setTop (mkF C.m pc Ls (.int j :: .ref a :: st))) := by
  obtain ⟨c, A, r1, r2, r3⟩ := V
  exact laload O hd A (inb hj r1 hi) (by rw [toNat_of hj, ← hv]; exact r3 i hi) hq K
theorem balA (O : On l Z ws R own nm bytes maxL ret C T h cells slots) (hd : decode bytes pc = .ok (.baload, 1)) (V : Ar Z h a .byte N f) (hj : j.toInt = (i : Int)) (hi : i < N) (hv : f i = v) (hq : pc + 1 = q)
    (K : Go C ws Q k n (T.setTop (mkF C.m q Ls (v :: st)))) : Go C ws Q k n (T.setTop (mkF C.m pc Ls (.int j :: .ref a :: st))) := by
  obtain ⟨c, A, r1, r2, r3⟩ := V
  exact baload O hd A (inb hj r1 hi) (by rw [toNat_of hj, ← hv]; exact r3 i hi) hq K
theorem aalA (O : On l Z ws R own nm bytes maxL ret C T h cells slots) (hd : decode bytes pc = .ok (.aaload, 1)) (V : Ar Z h a ty N f) (hty : ty.isReference = true) (hj : j.toInt = (i : Int)) (hi : i < N) (hv : f i = v) (hq : pc + 1 = q)
    (K : Go C ws Q k n (T.setTop (mkF C.m q Ls (v :: st)))) : Go C ws Q k n (T.setTop (mkF C.m pc Ls (.int j :: .ref a :: st))) := by
  obtain ⟨c, A, r1, r2, r3⟩ := V
  exact aaload O hd A hty (inb hj r1 hi) (by rw [toNat_of hj, ← hv]; exact r3 i hi) hq K
theorem lenA (O : On l Z ws R own nm bytes maxL ret C T h cells slots) (hd : decode bytes pc = .ok (.arraylength, 1)) (V : Ar Z h a ty N f) {z : Int32} (hz : z.toInt = N) (hq : pc + 1 = q)
    (K : Go C ws Q k n (T.setTop (mkF C.m q Ls (.int z :: st)))) : Go C ws Q k n (T.setTop (mkF C.m pc Ls (.ref a :: st))) := by
  obtain ⟨c, A, r1, r2, r3⟩ := V
  exact arraylength O hd A (len32 r1 r2 hz) hq K
theorem iasA (O : On l Z ws R own nm bytes maxL ret C T h cells slots) {x : Int32} (hd : decode bytes pc = .ok (.iastore, 1)) (V : Ar Z h a .int N f) (hj : j.toInt = (i : Int)) (hi : i < N) (ha : a ∈ ws ∨ C.s.heap.size ≤ a) (hq : pc + 1 = q)
    (K : ∀ T' h', On l Z ws R own nm bytes maxL ret C T' h' cells slots → Wr h h' a i (.int x) → Go C ws Q k n (T'.setTop (mkF C.m q Ls st))) : Go C ws Q k n (T.setTop (mkF C.m pc Ls (.int x :: .int j :: .ref a :: st))) := by
  obtain ⟨c, A, r1, r2, r3⟩ := V
  exact iastore O hd A (inb hj r1 hi) ha hq fun T' h' O' W => K T' h' O' (toNat_of hj ▸ W)
theorem lasA (O : On l Z ws R own nm bytes maxL ret C T h cells slots) {x : Int64} (hd : decode bytes pc = .ok (.lastore, 1)) (V : Ar Z h a .long N f) (hj : j.toInt = (i : Int)) (hi : i < N) (ha : a ∈ ws ∨ C.s.heap.size ≤ a) (hq : pc + 1 = q)
    (K : ∀ T' h', On l Z ws R own nm bytes maxL ret C T' h' cells slots → Wr h h' a i (.long x) → Go C ws Q k n (T'.setTop (mkF C.m q Ls st))) : Go C ws Q k n (T.setTop (mkF C.m pc Ls (.long x :: .int j :: .ref a :: st))) := by
  obtain ⟨c, A, r1, r2, r3⟩ := V
  exact lastore O hd A (inb hj r1 hi) ha hq fun T' h' O' W => K T' h' O' (toNat_of hj ▸ W)
theorem basA (O : On l Z ws R own nm bytes maxL ret C T h cells slots) {x y : Int32} (hd : decode bytes pc = .ok (.bastore, 1)) (V : Ar Z h a .byte N f) (hj : j.toInt = (i : Int)) (hi : i < N) (ha : a ∈ ws ∨ C.s.heap.size ≤ a) (hy : x.toInt8.toInt32 = y) (hq : pc + 1 = q)
    (K : ∀ T' h', On l Z ws R own nm bytes maxL ret C T' h' cells slots → Wr h h' a i (.int y) → Go C ws Q k n (T'.setTop (mkF C.m q Ls st))) : Go C ws Q k n (T.setTop (mkF C.m pc Ls (.int x :: .int j :: .ref a :: st))) := by
  obtain ⟨c, A, r1, r2, r3⟩ := V
  subst hy
  exact bastore O hd A (inb hj r1 hi) ha hq fun T' h' O' W => K T' h' O' (toNat_of hj ▸ W)
theorem newA' (O : On l Z ws R own nm bytes maxL ret C T h cells slots) {aty : ArrayType} {c2 s2 : Nat} (hd : decode bytes pc = .ok (.newarray aty, 2)) (ht : newarray.typeOf aty = ty) (w : (Cond.arrayClass ty).before a0 Z = true) {z : Int32} (hz : z.toInt = N) {cap : Nat} (hcap : N ≤ cap) (hb : cap * 8 ≤ 536870912) (hc2 : cells + 1 = c2) (hs2 : slots + cap = s2) (hc : c2 ≤ R.cells) (hl : s2 ≤ R.slots) (hq : pc + 2 = q)
    (K : ∀ a T' h', a = h.size → C.s.heap.size ≤ a → On l Z ws R own nm bytes maxL ret C T' h' c2 s2 → Ext h h' → Ar Z h' a ty N (fun _ => defaultValue ty) → Go C ws Q k n (T'.setTop (mkF C.m q Ls (.ref a :: st)))) : Go C ws Q k n (T.setTop (mkF C.m pc Ls (.int z :: st))) := by
  subst ht
  refine newP O hd w ?_ (by rw [toNat_of hz]; exact hcap) hb hc2 hs2 hc hl hq fun a T' h' cA e1 e2 O' E A => K a T' h' e1 e2 O' E (Ar.new A hz)
  rw [Int32.lt_iff_toInt_lt, hz]
  have : (0 : Int32).toInt = 0 := rfl
  rw [this]; omega
end ArrSteps
end Jvm.OwnW

namespace Jvm.OwnW
open Jvm.RoadKit
theorem add32 {x y : Int32} (h1 : -2147483648 ≤ x.toInt + y.toInt) (h2 : x.toInt + y.toInt < 2147483648) : (x + y).toInt = x.toInt + y.toInt := by
  have := c_iadd x y; have := rng32 (x + y); omega
theorem sub32 {x y : Int32} (h1 : -2147483648 ≤ x.toInt - y.toInt) (h2 : x.toInt - y.toInt < 2147483648) : (x - y).toInt = x.toInt - y.toInt := by
  have := c_isub x y; have := rng32 (x - y); omega
theorem mul32 {x y : Int32} (h1 : -2147483648 ≤ x.toInt * y.toInt) (h2 : x.toInt * y.toInt < 2147483648) : (x * y).toInt = x.toInt * y.toInt := by
  have := c_imul x y; have := rng32 (x * y); omega
theorem add64 {x y : Int64} (h1 : -9223372036854775808 ≤ x.toInt + y.toInt) (h2 : x.toInt + y.toInt < 9223372036854775808) : (x + y).toInt = x.toInt + y.toInt := by
  have := c_ladd x y; have := rng64 (x + y); omega
theorem sub64 {x y : Int64} (h1 : -9223372036854775808 ≤ x.toInt - y.toInt) (h2 : x.toInt - y.toInt < 9223372036854775808) : (x - y).toInt = x.toInt - y.toInt := by
  have := c_lsub x y; have := rng64 (x - y); omega
theorem mul64 {x y : Int64} (h1 : -9223372036854775808 ≤ x.toInt * y.toInt) (h2 : x.toInt * y.toInt < 9223372036854775808) : (x * y).toInt = x.toInt * y.toInt := by
  have := c_lmul x y; have := rng64 (x * y); omega
theorem ne0_32 {z : Int32} (h : 0 < z.toInt) : z ≠ 0 := fun e => by subst e; exact absurd h (by decide)
theorem ne0_64 {z : Int64} (h : 0 < z.toInt) : z ≠ 0 := fun e => by subst e; exact absurd h (by decide)
theorem lt32 {x y : Int32} (h : x.toInt < y.toInt) : x < y := Int32.lt_iff_toInt_lt.mpr h
theorem nlt32 {x y : Int32} (h : y.toInt ≤ x.toInt) : ¬ x < y := fun q => by rw [Int32.lt_iff_toInt_lt] at q; omega
theorem lt64 {x y : Int64} (h : x.toInt < y.toInt) : x < y := Int64.lt_iff_toInt_lt.mpr h
theorem nlt64 {x y : Int64} (h : y.toInt ≤ x.toInt) : ¬ x < y := fun q => by rw [Int64.lt_iff_toInt_lt] at q; omega
theorem eq32 {x y : Int32} (h : x.toInt = y.toInt) : x = y := Int32.toInt_inj.mp h
theorem ne32 {x y : Int32} (h : x.toInt ≠ y.toInt) : ¬ x = y := fun e => h (congrArg _ e)
theorem ne64 {x y : Int64} (h : x.toInt ≠ y.toInt) : ¬ x = y := fun e => h (congrArg _ e)
/-- (s & 0x7fffffff) % z for a z above 0 -/
theorem rem_in (s z : Int32) (hz : 0 < z.toInt) : ∃ i : Nat, ((s &&& 2147483647) % z).toInt = (i : Int) ∧ (i : Int) < z.toInt := by
  have h1 := c_mask s 2147483647 31 (by decide) (by decide)
  have h2 := (c_iremV (s &&& 2147483647) z).1 (by omega) hz
  exact ⟨((s &&& 2147483647) % z).toInt.toNat, by omega, by omega⟩
theorem b8 (x : Int32) : x.toInt8.toInt32.toInt8.toInt32 = x.toInt8.toInt32 := by
  have h := c_i2b x; have h2 := c_i2b x.toInt8.toInt32
  apply Int32.toInt_inj.mp; omega
theorem lf_int (L : List Int32) (j : Nat) (hj : j < L.length) : lf (L.map Value.int) j = .int (L.getD j 0) := by
  simp [lf, List.getD_eq_getElem?_getD, hj]
theorem lf_long (L : List Int64) (j : Nat) (hj : j < L.length) : lf (L.map Value.long) j = .long (L.getD j 0) := by
  simp [lf, List.getD_eq_getElem?_getD, hj]
end Jvm.OwnW

namespace Jvm.Pilot.@@N@@
open Jvm Jvm.ClassFile Sem Op Lib Jvm.Free Jvm.Stand Jvm.LawKit Jvm.RoadKit Bundle Jvm.OwnW Jvm.Pilot.@@N@@.Jvm.D

theorem d1_0 : decode method_2_code 0 = .ok (.bipush 48, 2) := by decide +kernel
theorem d1_2 : decode method_2_code 2 = .ok (.lload_n 0, 1) := by decide +kernel
theorem d1_3 : decode method_2_code 3 = .ok (.bipush 7, 2) := by decide +kernel
theorem d1_5 : decode method_2_code 5 = .ok (.iload_n 2, 1) := by decide +kernel
theorem d1_6 : decode method_2_code 6 = .ok (.imul, 1) := by decide +kernel
theorem d1_7 : decode method_2_code 7 = .ok (.lushr, 1) := by decide +kernel
theorem d1_8 : decode method_2_code 8 = .ok (.ldc2_w 7, 3) := by decide +kernel
theorem d1_11 : decode method_2_code 11 = .ok (.land, 1) := by decide +kernel
theorem d1_12 : decode method_2_code 12 = .ok (.ldc2_w 9, 3) := by decide +kernel
theorem d1_15 : decode method_2_code 15 = .ok (.lrem, 1) := by decide +kernel
theorem d1_16 : decode method_2_code 16 = .ok (.l2i, 1) := by decide +kernel
theorem d1_17 : decode method_2_code 17 = .ok (.iadd, 1) := by decide +kernel
theorem d1_18 : decode method_2_code 18 = .ok (.i2b, 1) := by decide +kernel
theorem d1_19 : decode method_2_code 19 = .ok (.ireturn, 1) := by decide +kernel
def fn_1 (p1 : Int64) (p2 : Int32) : Int32 := ((48 : Int32) + ((((p1.toUInt64 >>> (((7 : Int32) * p2) &&& 0x3f).toInt64.toUInt64).toInt64) &&& (127 : Int64)) % (10 : Int64)).toInt32).toInt8.toInt32
theorem ef_1 (p1 : Int64) (p2 : Int32) (m : MethodId) : entryFrame m #[(.long p1), (.int p2)] 3 = mkF m 0 #[.val (.long p1), .second, .val (.int p2)] [] := by first | (simp [entryFrame, mkF, argsToLocals, Value.category, maxLocals]; done) | rfl
theorem pn_1 : plainFor (⟨"com/example/vary5/vary5/DecimalDigitsToLongPinLaw", "dig", "(JI)B"⟩ : MethodName) = true := by first | exact plainFor_of_name (by first | (simp [plainName, overriddenIn]; done) | decide +kernel) | decide +kernel
set_option maxRecDepth 65536 in
set_option maxHeartbeats 40000000 in
theorem rm_1 (l : Launch) (Z : State) (a0 : Array Value) (hw : ∀ d ∈ tables_1, d.before a0 Z = true) (p1 : Int64) (p2 : Int32) (h0 : Heap)  :
    Met l Z (⟨"com/example/vary5/vary5/DecimalDigitsToLongPinLaw", "dig", "(JI)B"⟩ : MethodName) method_2_code 3 (some .byte) [] ({ frames := 0, cells := 0, slots := 0, locals := 0 } : Room) #[(.long p1), (.int p2)] [] h0 (fun v h => v = some (Value.int (fn_1 p1 p2))) := by
  refine Met.mk pn_1 (ef_1 p1 p2) ?_
  intro C T hs0 O
  show Go C [] (fun v h => v = some (Value.int (fn_1 p1 p2))) 0 0 (T.setTop (mkF C.m 0 #[.val (.long p1), .second, .val (.int p2)] []))
  refine Jvm.OwnW.bipush O d1_0 (r := (48 : Int32)) rfl (q := 2) rfl ?_
  refine Jvm.OwnW.lloadN O d1_2 rfl (q := 3) rfl ?_
  refine Jvm.OwnW.bipush O d1_3 (r := (7 : Int32)) rfl (q := 5) rfl ?_
  refine Jvm.OwnW.iloadN O d1_5 rfl (q := 6) rfl ?_
  refine Jvm.OwnW.imul O d1_6 rfl (q := 7) rfl ?_
  refine Jvm.OwnW.lushr O d1_7 rfl (q := 8) rfl ?_
  refine Jvm.OwnW.ldcL O d1_8 (hw _ (List.mem_of_getElem? (i := 5) rfl)) (q := 11) rfl ?_
  refine Jvm.OwnW.land O d1_11 rfl (q := 12) rfl ?_
  refine Jvm.OwnW.ldcL O d1_12 (hw _ (List.mem_of_getElem? (i := 6) rfl)) (q := 15) rfl ?_
  refine Jvm.OwnW.lrem O d1_15 (by decide) rfl (q := 16) rfl ?_
  refine Jvm.OwnW.l2i O d1_16 rfl (q := 17) rfl ?_
  refine Jvm.OwnW.iadd O d1_17 rfl (q := 18) rfl ?_
  refine Jvm.OwnW.i2b O d1_18 rfl (q := 19) rfl ?_
  exact Jvm.OwnW.retY O d1_19 rfl (b8 _) (by decide) (by decide) (by show some (Value.int ((48 : Int32) + ((((p1.toUInt64 >>> (((7 : Int32) * p2) &&& 0x3f).toInt64.toUInt64).toInt64) &&& (127 : Int64)) % (10 : Int64)).toInt32).toInt8.toInt32) = some (Value.int (fn_1 p1 p2)); rw [fn_1])
theorem own_b (p1 : Int64) (p2 : Int32) : (fn_1 p1 p2).toInt8.toInt32 = fn_1 p1 p2 := b8 _
def own_val (g : Nat → Int32) : Nat → Nat → Int64 → Int64
  | _, 0, acc => acc
  | i, k + 1, acc => own_val g (i + 1) k (acc * 10 + (g i - 48).toInt64)
def own_p : Nat → Int64
  | 0 => 1
  | n + 1 => own_p n * 10
theorem own_add (g : Nat → Int32) (b : Nat) : ∀ (a i : Nat) (acc : Int64), own_val g i (a + b) acc = own_val g (i + a) b (own_val g i a acc)
  | 0, i, acc => by rw [Nat.zero_add]; rfl
  | a + 1, i, acc => by
    rw [Nat.add_right_comm a 1 b]
    show own_val g (i + 1) (a + b) _ = own_val g (i + (a + 1)) b (own_val g (i + 1) a _)
    rw [own_add g b a (i + 1), Nat.add_assoc i 1 a, Nat.add_comm 1 a]
theorem own_lin (g : Nat → Int32) : ∀ (k i : Nat) (acc : Int64), own_val g i k acc = acc * own_p k + own_val g i k 0
  | 0, i, acc => by show acc = acc * 1 + 0; rw [Int64.mul_one, Int64.add_zero]
  | k + 1, i, acc => by
    show own_val g (i + 1) k (acc * 10 + (g i - 48).toInt64) = acc * (own_p k * 10) + own_val g (i + 1) k (0 * 10 + (g i - 48).toInt64)
    rw [own_lin g k (i + 1) (acc * 10 + _), own_lin g k (i + 1) (0 * 10 + _), Int64.zero_mul, Int64.zero_add, Int64.add_mul, Int64.mul_assoc acc 10, Int64.mul_comm 10 (own_p k), Int64.add_assoc]
theorem own_cat (g : Nat → Int32) (s m e : Nat) (h1 : s ≤ m) (h2 : m ≤ e) : own_val g s (e - s) 0 = own_val g s (m - s) 0 * own_p (e - m) + own_val g m (e - m) 0 := by
  have e1 : e - s = (m - s) + (e - m) := by omega
  have e2 : s + (m - s) = m := by omega
  rw [e1, own_add, e2]; exact own_lin g _ _ _
theorem own_one (g : Nat → Int32) (k : Nat) : own_val g k 1 0 = (g k - 48).toInt64 := by
  show 0 * 10 + (g k - 48).toInt64 = _
  rw [Int64.zero_mul, Int64.zero_add]
theorem d2_0 : decode prog_2_method_7_code 0 = .ok (.lconst 0, 1) := by decide +kernel
theorem d2_1 : decode prog_2_method_7_code 1 = .ok (.lstore_n 3, 1) := by decide +kernel
theorem d2_2 : decode prog_2_method_7_code 2 = .ok (.iload_n 1, 1) := by decide +kernel
theorem d2_3 : decode prog_2_method_7_code 3 = .ok (.istore 5, 2) := by decide +kernel
theorem d2_5 : decode prog_2_method_7_code 5 = .ok (.iload 5, 2) := by decide +kernel
theorem d2_7 : decode prog_2_method_7_code 7 = .ok (.iload_n 2, 1) := by decide +kernel
theorem d2_8 : decode prog_2_method_7_code 8 = .ok (.if_icmp .ge 24, 3) := by decide +kernel
theorem d2_11 : decode prog_2_method_7_code 11 = .ok (.lload_n 3, 1) := by decide +kernel
theorem d2_12 : decode prog_2_method_7_code 12 = .ok (.ldc2_w 93, 3) := by decide +kernel
theorem d2_15 : decode prog_2_method_7_code 15 = .ok (.lmul, 1) := by decide +kernel
theorem d2_16 : decode prog_2_method_7_code 16 = .ok (.aload_n 0, 1) := by decide +kernel
theorem d2_17 : decode prog_2_method_7_code 17 = .ok (.iload 5, 2) := by decide +kernel
theorem d2_19 : decode prog_2_method_7_code 19 = .ok (.baload, 1) := by decide +kernel
theorem d2_20 : decode prog_2_method_7_code 20 = .ok (.bipush 48, 2) := by decide +kernel
theorem d2_22 : decode prog_2_method_7_code 22 = .ok (.isub, 1) := by decide +kernel
theorem d2_23 : decode prog_2_method_7_code 23 = .ok (.i2l, 1) := by decide +kernel
theorem d2_24 : decode prog_2_method_7_code 24 = .ok (.ladd, 1) := by decide +kernel
theorem d2_25 : decode prog_2_method_7_code 25 = .ok (.lstore_n 3, 1) := by decide +kernel
theorem d2_26 : decode prog_2_method_7_code 26 = .ok (.iinc 5 1, 3) := by decide +kernel
theorem d2_29 : decode prog_2_method_7_code 29 = .ok (.goto (-24), 3) := by decide +kernel
theorem d2_32 : decode prog_2_method_7_code 32 = .ok (.lload_n 3, 1) := by decide +kernel
theorem d2_33 : decode prog_2_method_7_code 33 = .ok (.lreturn, 1) := by decide +kernel
theorem ef_2 (a1 : Addr) (p2 : Int32) (p3 : Int32) (m : MethodId) : entryFrame m #[(.ref a1), (.int p2), (.int p3)] 6 = mkF m 0 #[.val (.ref a1), .val (.int p2), .val (.int p3), .unset, .unset, .unset] [] := by first | (simp [entryFrame, mkF, argsToLocals, Value.category, maxLocals]; done) | rfl
theorem pn_2 : plainFor (⟨"com/example/vary5/vary5/DecimalDigits", "toLong", "([BII)J"⟩ : MethodName) = true := by first | exact plainFor_of_name (by first | (simp [plainName, overriddenIn]; done) | decide +kernel) | decide +kernel
set_option maxRecDepth 65536 in
set_option maxHeartbeats 40000000 in
theorem rm_2 (l : Launch) (Z : State) (a0 : Array Value) (hw : ∀ d ∈ tables_1, d.before a0 Z = true) (a1 : Addr) (p2 : Int32) (p3 : Int32) (g : Nat → Int32) (sn en : Nat) (h0 : Heap) (V_a1 : Ar Z h0 a1 .byte 18 (fun j => .int (g j))) (hs : p2.toInt = (sn : Int)) (he : p3.toInt = (en : Int)) (hle : sn ≤ en) (h18 : en ≤ 18) :
    Met l Z (⟨"com/example/vary5/vary5/DecimalDigits", "toLong", "([BII)J"⟩ : MethodName) prog_2_method_7_code 6 (some .long) [] ({ frames := 0, cells := 0, slots := 0, locals := 0 } : Room) #[(.ref a1), (.int p2), (.int p3)] [] h0 (fun v h => v = some (.long (own_val g sn (en - sn) 0))) := by
  refine Met.mk pn_2 (ef_2 a1 p2 p3) ?_
  intro C T hs0 O
  show Go C [] (fun v h => v = some (.long (own_val g sn (en - sn) 0))) 0 0 (T.setTop (mkF C.m 0 #[.val (.ref a1), .val (.int p2), .val (.int p3), .unset, .unset, .unset] []))
  refine Jvm.OwnW.lconst O d2_0 (r := (0 : Int64)) rfl (q := 1) rfl ?_
  refine Jvm.OwnW.lstoreN O d2_1 (L' := #[.val (.ref a1), .val (.int p2), .val (.int p3), .val (.long (0 : Int64)), .second, .unset]) rfl (q := 2) rfl ?_
  refine Jvm.OwnW.iloadN O d2_2 rfl (q := 3) rfl ?_
  refine Jvm.OwnW.istore O d2_3 (L' := #[.val (.ref a1), .val (.int p2), .val (.int p3), .val (.long (0 : Int64)), .second, .val (.int p2)]) rfl (q := 5) rfl ?_
  have lp : ∀ (k : Nat) (T1 : State), On l Z [] ({ frames := 0, cells := 0, slots := 0, locals := 0 } : Room) "com/example/vary5/vary5/DecimalDigits" "toLong" prog_2_method_7_code 6 (some .long) C T1 h0 0 0 → ∀ (i : Nat), ∀ (z : Int32), ∀ (acc : Int64), ∀ (hi : z.toInt = (i : Int)), ∀ (hk : i + k = en), ∀ (hacc : own_val g i k acc = own_val g sn (en - sn) 0), Go C [] (fun v h => v = some (.long (own_val g sn (en - sn) 0))) 0 0 (T1.setTop (mkF C.m 5 #[.val (.ref a1), .val (.int p2), .val (.int p3), .val (.long acc), .second, .val (.int z)] [])) := by
    intro k
    induction k with
    | zero =>
      intro T1 O1 i z acc hi hk hacc 
      refine Jvm.OwnW.iload O1 d2_5 rfl (q := 7) rfl ?_
      refine Jvm.OwnW.iloadN O1 d2_7 rfl (q := 8) rfl ?_
      refine Jvm.OwnW.icmpYes O1 d2_8 (flt (show ¬ (z < p3) from nlt32 (by omega))).2.1 (by decide) (q := 32) rfl ?_
      refine Jvm.OwnW.lloadN O1 d2_32 rfl (q := 33) rfl ?_
      exact Jvm.OwnW.retL O1 d2_33 hacc (by decide) (by decide) rfl
    | succ k ih =>
      intro T1 O1 i z acc hi hk hacc 
      refine Jvm.OwnW.iload O1 d2_5 rfl (q := 7) rfl ?_
      refine Jvm.OwnW.iloadN O1 d2_7 rfl (q := 8) rfl ?_
      refine Jvm.OwnW.icmpNo O1 d2_8 (tlt (show z < p3 from lt32 (by omega))).2.1 (q := 11) rfl ?_
      refine Jvm.OwnW.lloadN O1 d2_11 rfl (q := 12) rfl ?_
      refine Jvm.OwnW.ldcL O1 d2_12 (hw _ (List.mem_of_getElem? (i := 12) rfl)) (q := 15) rfl ?_
      refine Jvm.OwnW.lmul O1 d2_15 rfl (q := 16) rfl ?_
      refine Jvm.OwnW.aloadN O1 d2_16 rfl rfl (q := 17) rfl ?_
      refine Jvm.OwnW.iload O1 d2_17 rfl (q := 19) rfl ?_
      refine Jvm.OwnW.balA O1 d2_19 V_a1 (i := i) hi (by omega) (v := (.int (g i))) rfl (q := 20) rfl ?_
      refine Jvm.OwnW.bipush O1 d2_20 (r := (48 : Int32)) rfl (q := 22) rfl ?_
      refine Jvm.OwnW.isub O1 d2_22 rfl (q := 23) rfl ?_
      refine Jvm.OwnW.i2l O1 d2_23 rfl (q := 24) rfl ?_
      refine Jvm.OwnW.ladd O1 d2_24 rfl (q := 25) rfl ?_
      refine Jvm.OwnW.lstoreN O1 d2_25 (L' := #[.val (.ref a1), .val (.int p2), .val (.int p3), .val (.long ((acc * (10 : Int64)) + ((g i) - (48 : Int32)).toInt64)), .second, .val (.int z)]) rfl (q := 26) rfl ?_
      refine Jvm.OwnW.iinc O1 d2_26 rfl (L' := #[.val (.ref a1), .val (.int p2), .val (.int p3), .val (.long ((acc * (10 : Int64)) + ((g i) - (48 : Int32)).toInt64)), .second, .val (.int (z + (1 : Int32)))]) rfl (q := 29) rfl ?_
      refine Jvm.OwnW.goto O1 d2_29 (by decide) (q := 5) rfl ?_
      exact ih _ O1 (i + 1) _ _ (by rw [add32 (by rw [hi]; show _ ≤ _ + (1 : Int); omega) (by rw [hi]; show _ + (1 : Int) < _; omega), hi]; rfl) (by omega) hacc 
  exact lp (en - sn) _ O sn _ _ hs (by omega) rfl
theorem own_tab : ∀ (i : Nat), i < 19 → lf [(.long (1 : Int64)), (.long (10 : Int64)), (.long (100 : Int64)), (.long (1000 : Int64)), (.long (10000 : Int64)), (.long (100000 : Int64)), (.long (1000000 : Int64)), (.long (10000000 : Int64)), (.long (100000000 : Int64)), (.long (1000000000 : Int64)), (.long (10000000000 : Int64)), (.long (100000000000 : Int64)), (.long (1000000000000 : Int64)), (.long (10000000000000 : Int64)), (.long (100000000000000 : Int64)), (.long (1000000000000000 : Int64)), (.long (10000000000000000 : Int64)), (.long (100000000000000000 : Int64)), (.long (1000000000000000000 : Int64))] i = .long (own_p i)
  | 0, _ => congrArg Value.long (by decide)
  | 1, _ => congrArg Value.long (by decide)
  | 2, _ => congrArg Value.long (by decide)
  | 3, _ => congrArg Value.long (by decide)
  | 4, _ => congrArg Value.long (by decide)
  | 5, _ => congrArg Value.long (by decide)
  | 6, _ => congrArg Value.long (by decide)
  | 7, _ => congrArg Value.long (by decide)
  | 8, _ => congrArg Value.long (by decide)
  | 9, _ => congrArg Value.long (by decide)
  | 10, _ => congrArg Value.long (by decide)
  | 11, _ => congrArg Value.long (by decide)
  | 12, _ => congrArg Value.long (by decide)
  | 13, _ => congrArg Value.long (by decide)
  | 14, _ => congrArg Value.long (by decide)
  | 15, _ => congrArg Value.long (by decide)
  | 16, _ => congrArg Value.long (by decide)
  | 17, _ => congrArg Value.long (by decide)
  | 18, _ => congrArg Value.long (by decide)
  | n + 19, h => absurd h (by omega)
theorem d3_0 : decode method_3_code 0 = .ok (.bipush 19, 2) := by decide +kernel
theorem d3_2 : decode method_3_code 2 = .ok (.newarray .long, 2) := by decide +kernel
theorem d3_4 : decode method_3_code 4 = .ok (.dup, 1) := by decide +kernel
theorem d3_5 : decode method_3_code 5 = .ok (.iconst 0, 1) := by decide +kernel
theorem d3_6 : decode method_3_code 6 = .ok (.lconst 1, 1) := by decide +kernel
theorem d3_7 : decode method_3_code 7 = .ok (.lastore, 1) := by decide +kernel
theorem d3_8 : decode method_3_code 8 = .ok (.dup, 1) := by decide +kernel
theorem d3_9 : decode method_3_code 9 = .ok (.iconst 1, 1) := by decide +kernel
theorem d3_10 : decode method_3_code 10 = .ok (.ldc2_w 9, 3) := by decide +kernel
theorem d3_13 : decode method_3_code 13 = .ok (.lastore, 1) := by decide +kernel
theorem d3_14 : decode method_3_code 14 = .ok (.dup, 1) := by decide +kernel
theorem d3_15 : decode method_3_code 15 = .ok (.iconst 2, 1) := by decide +kernel
theorem d3_16 : decode method_3_code 16 = .ok (.ldc2_w 11, 3) := by decide +kernel
theorem d3_19 : decode method_3_code 19 = .ok (.lastore, 1) := by decide +kernel
theorem d3_20 : decode method_3_code 20 = .ok (.dup, 1) := by decide +kernel
theorem d3_21 : decode method_3_code 21 = .ok (.iconst 3, 1) := by decide +kernel
theorem d3_22 : decode method_3_code 22 = .ok (.ldc2_w 13, 3) := by decide +kernel
theorem d3_25 : decode method_3_code 25 = .ok (.lastore, 1) := by decide +kernel
theorem d3_26 : decode method_3_code 26 = .ok (.dup, 1) := by decide +kernel
theorem d3_27 : decode method_3_code 27 = .ok (.iconst 4, 1) := by decide +kernel
theorem d3_28 : decode method_3_code 28 = .ok (.ldc2_w 15, 3) := by decide +kernel
theorem d3_31 : decode method_3_code 31 = .ok (.lastore, 1) := by decide +kernel
theorem d3_32 : decode method_3_code 32 = .ok (.dup, 1) := by decide +kernel
theorem d3_33 : decode method_3_code 33 = .ok (.iconst 5, 1) := by decide +kernel
theorem d3_34 : decode method_3_code 34 = .ok (.ldc2_w 17, 3) := by decide +kernel
theorem d3_37 : decode method_3_code 37 = .ok (.lastore, 1) := by decide +kernel
theorem d3_38 : decode method_3_code 38 = .ok (.dup, 1) := by decide +kernel
theorem d3_39 : decode method_3_code 39 = .ok (.bipush 6, 2) := by decide +kernel
theorem d3_41 : decode method_3_code 41 = .ok (.ldc2_w 19, 3) := by decide +kernel
theorem d3_44 : decode method_3_code 44 = .ok (.lastore, 1) := by decide +kernel
theorem d3_45 : decode method_3_code 45 = .ok (.dup, 1) := by decide +kernel
theorem d3_46 : decode method_3_code 46 = .ok (.bipush 7, 2) := by decide +kernel
theorem d3_48 : decode method_3_code 48 = .ok (.ldc2_w 21, 3) := by decide +kernel
theorem d3_51 : decode method_3_code 51 = .ok (.lastore, 1) := by decide +kernel
theorem d3_52 : decode method_3_code 52 = .ok (.dup, 1) := by decide +kernel
theorem d3_53 : decode method_3_code 53 = .ok (.bipush 8, 2) := by decide +kernel
theorem d3_55 : decode method_3_code 55 = .ok (.ldc2_w 23, 3) := by decide +kernel
theorem d3_58 : decode method_3_code 58 = .ok (.lastore, 1) := by decide +kernel
theorem d3_59 : decode method_3_code 59 = .ok (.dup, 1) := by decide +kernel
theorem d3_60 : decode method_3_code 60 = .ok (.bipush 9, 2) := by decide +kernel
theorem d3_62 : decode method_3_code 62 = .ok (.ldc2_w 25, 3) := by decide +kernel
theorem d3_65 : decode method_3_code 65 = .ok (.lastore, 1) := by decide +kernel
theorem d3_66 : decode method_3_code 66 = .ok (.dup, 1) := by decide +kernel
theorem d3_67 : decode method_3_code 67 = .ok (.bipush 10, 2) := by decide +kernel
theorem d3_69 : decode method_3_code 69 = .ok (.ldc2_w 27, 3) := by decide +kernel
theorem d3_72 : decode method_3_code 72 = .ok (.lastore, 1) := by decide +kernel
theorem d3_73 : decode method_3_code 73 = .ok (.dup, 1) := by decide +kernel
theorem d3_74 : decode method_3_code 74 = .ok (.bipush 11, 2) := by decide +kernel
theorem d3_76 : decode method_3_code 76 = .ok (.ldc2_w 29, 3) := by decide +kernel
theorem d3_79 : decode method_3_code 79 = .ok (.lastore, 1) := by decide +kernel
theorem d3_80 : decode method_3_code 80 = .ok (.dup, 1) := by decide +kernel
theorem d3_81 : decode method_3_code 81 = .ok (.bipush 12, 2) := by decide +kernel
theorem d3_83 : decode method_3_code 83 = .ok (.ldc2_w 31, 3) := by decide +kernel
theorem d3_86 : decode method_3_code 86 = .ok (.lastore, 1) := by decide +kernel
theorem d3_87 : decode method_3_code 87 = .ok (.dup, 1) := by decide +kernel
theorem d3_88 : decode method_3_code 88 = .ok (.bipush 13, 2) := by decide +kernel
theorem d3_90 : decode method_3_code 90 = .ok (.ldc2_w 33, 3) := by decide +kernel
theorem d3_93 : decode method_3_code 93 = .ok (.lastore, 1) := by decide +kernel
theorem d3_94 : decode method_3_code 94 = .ok (.dup, 1) := by decide +kernel
theorem d3_95 : decode method_3_code 95 = .ok (.bipush 14, 2) := by decide +kernel
theorem d3_97 : decode method_3_code 97 = .ok (.ldc2_w 35, 3) := by decide +kernel
theorem d3_100 : decode method_3_code 100 = .ok (.lastore, 1) := by decide +kernel
theorem d3_101 : decode method_3_code 101 = .ok (.dup, 1) := by decide +kernel
theorem d3_102 : decode method_3_code 102 = .ok (.bipush 15, 2) := by decide +kernel
theorem d3_104 : decode method_3_code 104 = .ok (.ldc2_w 37, 3) := by decide +kernel
theorem d3_107 : decode method_3_code 107 = .ok (.lastore, 1) := by decide +kernel
theorem d3_108 : decode method_3_code 108 = .ok (.dup, 1) := by decide +kernel
theorem d3_109 : decode method_3_code 109 = .ok (.bipush 16, 2) := by decide +kernel
theorem d3_111 : decode method_3_code 111 = .ok (.ldc2_w 39, 3) := by decide +kernel
theorem d3_114 : decode method_3_code 114 = .ok (.lastore, 1) := by decide +kernel
theorem d3_115 : decode method_3_code 115 = .ok (.dup, 1) := by decide +kernel
theorem d3_116 : decode method_3_code 116 = .ok (.bipush 17, 2) := by decide +kernel
theorem d3_118 : decode method_3_code 118 = .ok (.ldc2_w 41, 3) := by decide +kernel
theorem d3_121 : decode method_3_code 121 = .ok (.lastore, 1) := by decide +kernel
theorem d3_122 : decode method_3_code 122 = .ok (.dup, 1) := by decide +kernel
theorem d3_123 : decode method_3_code 123 = .ok (.bipush 18, 2) := by decide +kernel
theorem d3_125 : decode method_3_code 125 = .ok (.ldc2_w 43, 3) := by decide +kernel
theorem d3_128 : decode method_3_code 128 = .ok (.lastore, 1) := by decide +kernel
theorem d3_129 : decode method_3_code 129 = .ok (.astore_n 1, 1) := by decide +kernel
theorem d3_130 : decode method_3_code 130 = .ok (.aload_n 1, 1) := by decide +kernel
theorem d3_131 : decode method_3_code 131 = .ok (.iload_n 0, 1) := by decide +kernel
theorem d3_132 : decode method_3_code 132 = .ok (.laload, 1) := by decide +kernel
theorem d3_133 : decode method_3_code 133 = .ok (.lreturn, 1) := by decide +kernel
theorem ef_3 (p1 : Int32) (m : MethodId) : entryFrame m #[(.int p1)] 2 = mkF m 0 #[.val (.int p1), .unset] [] := by first | (simp [entryFrame, mkF, argsToLocals, Value.category, maxLocals]; done) | rfl
theorem pn_3 : plainFor (⟨"com/example/vary5/vary5/DecimalDigitsToLongPinLaw", "pow10", "(I)J"⟩ : MethodName) = true := by first | exact plainFor_of_name (by first | (simp [plainName, overriddenIn]; done) | decide +kernel) | decide +kernel
set_option maxRecDepth 65536 in
set_option maxHeartbeats 40000000 in
theorem rm_3 (l : Launch) (Z : State) (a0 : Array Value) (hw : ∀ d ∈ tables_1, d.before a0 Z = true) (p1 : Int32) (nn : Nat) (h0 : Heap) (hn : p1.toInt = (nn : Int)) (hlt : nn < 19) :
    Met l Z (⟨"com/example/vary5/vary5/DecimalDigitsToLongPinLaw", "pow10", "(I)J"⟩ : MethodName) method_3_code 2 (some .long) [] ({ frames := 0, cells := 1, slots := 19, locals := 0 } : Room) #[(.int p1)] [] h0 (fun v h => v = some (.long (own_p nn))) := by
  refine Met.mk pn_3 (ef_3 p1) ?_
  intro C T hs0 O
  show Go C [] (fun v h => v = some (.long (own_p nn))) 1 19 (T.setTop (mkF C.m 0 #[.val (.int p1), .unset] []))
  refine Jvm.OwnW.bipush O d3_0 (r := (19 : Int32)) rfl (q := 2) rfl ?_
  refine Jvm.OwnW.newA' O d3_2 (ty := .long) rfl (hw _ (List.mem_of_getElem? (i := 16) rfl)) (N := 19) rfl (cap := 19) (by decide) (by decide) (c2 := 1) (s2 := 19) rfl rfl (by decide) (by decide) (q := 4) rfl ?_
  intro a1 T1 h1 g1 N1 O1 X1 V_a1
  have V_a1 : Ar Z h1 a1 .long 19 (lf [(.long (0 : Int64)), (.long (0 : Int64)), (.long (0 : Int64)), (.long (0 : Int64)), (.long (0 : Int64)), (.long (0 : Int64)), (.long (0 : Int64)), (.long (0 : Int64)), (.long (0 : Int64)), (.long (0 : Int64)), (.long (0 : Int64)), (.long (0 : Int64)), (.long (0 : Int64)), (.long (0 : Int64)), (.long (0 : Int64)), (.long (0 : Int64)), (.long (0 : Int64)), (.long (0 : Int64)), (.long (0 : Int64))]) := V_a1.congr (lf_rep 19 _)
  refine Jvm.OwnW.dup O1 d3_4 rfl (q := 5) rfl ?_
  refine Jvm.OwnW.iconst O1 d3_5 (r := (0 : Int32)) rfl (q := 6) rfl ?_
  refine Jvm.OwnW.lconst O1 d3_6 (r := (1 : Int64)) rfl (q := 7) rfl ?_
  refine Jvm.OwnW.lasA O1 d3_7 V_a1 (i := 0) rfl (by decide) (Or.inr N1) (q := 8) rfl ?_
  intro T2 h2 O2 W2
  have V_a1 : Ar Z h2 a1 .long 19 (lf [(.long (1 : Int64)), (.long (0 : Int64)), (.long (0 : Int64)), (.long (0 : Int64)), (.long (0 : Int64)), (.long (0 : Int64)), (.long (0 : Int64)), (.long (0 : Int64)), (.long (0 : Int64)), (.long (0 : Int64)), (.long (0 : Int64)), (.long (0 : Int64)), (.long (0 : Int64)), (.long (0 : Int64)), (.long (0 : Int64)), (.long (0 : Int64)), (.long (0 : Int64)), (.long (0 : Int64)), (.long (0 : Int64))]) := V_a1.setL W2 (by decide) (Nat.le_of_ble_eq_true rfl)
  refine Jvm.OwnW.dup O2 d3_8 rfl (q := 9) rfl ?_
  refine Jvm.OwnW.iconst O2 d3_9 (r := (1 : Int32)) rfl (q := 10) rfl ?_
  refine Jvm.OwnW.ldcL O2 d3_10 (hw _ (List.mem_of_getElem? (i := 6) rfl)) (q := 13) rfl ?_
  refine Jvm.OwnW.lasA O2 d3_13 V_a1 (i := 1) rfl (by decide) (Or.inr N1) (q := 14) rfl ?_
  intro T3 h3 O3 W3
  have V_a1 : Ar Z h3 a1 .long 19 (lf [(.long (1 : Int64)), (.long (10 : Int64)), (.long (0 : Int64)), (.long (0 : Int64)), (.long (0 : Int64)), (.long (0 : Int64)), (.long (0 : Int64)), (.long (0 : Int64)), (.long (0 : Int64)), (.long (0 : Int64)), (.long (0 : Int64)), (.long (0 : Int64)), (.long (0 : Int64)), (.long (0 : Int64)), (.long (0 : Int64)), (.long (0 : Int64)), (.long (0 : Int64)), (.long (0 : Int64)), (.long (0 : Int64))]) := V_a1.setL W3 (by decide) (Nat.le_of_ble_eq_true rfl)
  refine Jvm.OwnW.dup O3 d3_14 rfl (q := 15) rfl ?_
  refine Jvm.OwnW.iconst O3 d3_15 (r := (2 : Int32)) rfl (q := 16) rfl ?_
  refine Jvm.OwnW.ldcL O3 d3_16 (hw _ (List.mem_of_getElem? (i := 17) rfl)) (q := 19) rfl ?_
  refine Jvm.OwnW.lasA O3 d3_19 V_a1 (i := 2) rfl (by decide) (Or.inr N1) (q := 20) rfl ?_
  intro T4 h4 O4 W4
  have V_a1 : Ar Z h4 a1 .long 19 (lf [(.long (1 : Int64)), (.long (10 : Int64)), (.long (100 : Int64)), (.long (0 : Int64)), (.long (0 : Int64)), (.long (0 : Int64)), (.long (0 : Int64)), (.long (0 : Int64)), (.long (0 : Int64)), (.long (0 : Int64)), (.long (0 : Int64)), (.long (0 : Int64)), (.long (0 : Int64)), (.long (0 : Int64)), (.long (0 : Int64)), (.long (0 : Int64)), (.long (0 : Int64)), (.long (0 : Int64)), (.long (0 : Int64))]) := V_a1.setL W4 (by decide) (Nat.le_of_ble_eq_true rfl)
  refine Jvm.OwnW.dup O4 d3_20 rfl (q := 21) rfl ?_
  refine Jvm.OwnW.iconst O4 d3_21 (r := (3 : Int32)) rfl (q := 22) rfl ?_
  refine Jvm.OwnW.ldcL O4 d3_22 (hw _ (List.mem_of_getElem? (i := 18) rfl)) (q := 25) rfl ?_
  refine Jvm.OwnW.lasA O4 d3_25 V_a1 (i := 3) rfl (by decide) (Or.inr N1) (q := 26) rfl ?_
  intro T5 h5 O5 W5
  have V_a1 : Ar Z h5 a1 .long 19 (lf [(.long (1 : Int64)), (.long (10 : Int64)), (.long (100 : Int64)), (.long (1000 : Int64)), (.long (0 : Int64)), (.long (0 : Int64)), (.long (0 : Int64)), (.long (0 : Int64)), (.long (0 : Int64)), (.long (0 : Int64)), (.long (0 : Int64)), (.long (0 : Int64)), (.long (0 : Int64)), (.long (0 : Int64)), (.long (0 : Int64)), (.long (0 : Int64)), (.long (0 : Int64)), (.long (0 : Int64)), (.long (0 : Int64))]) := V_a1.setL W5 (by decide) (Nat.le_of_ble_eq_true rfl)
  refine Jvm.OwnW.dup O5 d3_26 rfl (q := 27) rfl ?_
  refine Jvm.OwnW.iconst O5 d3_27 (r := (4 : Int32)) rfl (q := 28) rfl ?_
  refine Jvm.OwnW.ldcL O5 d3_28 (hw _ (List.mem_of_getElem? (i := 19) rfl)) (q := 31) rfl ?_
  refine Jvm.OwnW.lasA O5 d3_31 V_a1 (i := 4) rfl (by decide) (Or.inr N1) (q := 32) rfl ?_
  intro T6 h6 O6 W6
  have V_a1 : Ar Z h6 a1 .long 19 (lf [(.long (1 : Int64)), (.long (10 : Int64)), (.long (100 : Int64)), (.long (1000 : Int64)), (.long (10000 : Int64)), (.long (0 : Int64)), (.long (0 : Int64)), (.long (0 : Int64)), (.long (0 : Int64)), (.long (0 : Int64)), (.long (0 : Int64)), (.long (0 : Int64)), (.long (0 : Int64)), (.long (0 : Int64)), (.long (0 : Int64)), (.long (0 : Int64)), (.long (0 : Int64)), (.long (0 : Int64)), (.long (0 : Int64))]) := V_a1.setL W6 (by decide) (Nat.le_of_ble_eq_true rfl)
  refine Jvm.OwnW.dup O6 d3_32 rfl (q := 33) rfl ?_
  refine Jvm.OwnW.iconst O6 d3_33 (r := (5 : Int32)) rfl (q := 34) rfl ?_
  refine Jvm.OwnW.ldcL O6 d3_34 (hw _ (List.mem_of_getElem? (i := 20) rfl)) (q := 37) rfl ?_
  refine Jvm.OwnW.lasA O6 d3_37 V_a1 (i := 5) rfl (by decide) (Or.inr N1) (q := 38) rfl ?_
  intro T7 h7 O7 W7
  have V_a1 : Ar Z h7 a1 .long 19 (lf [(.long (1 : Int64)), (.long (10 : Int64)), (.long (100 : Int64)), (.long (1000 : Int64)), (.long (10000 : Int64)), (.long (100000 : Int64)), (.long (0 : Int64)), (.long (0 : Int64)), (.long (0 : Int64)), (.long (0 : Int64)), (.long (0 : Int64)), (.long (0 : Int64)), (.long (0 : Int64)), (.long (0 : Int64)), (.long (0 : Int64)), (.long (0 : Int64)), (.long (0 : Int64)), (.long (0 : Int64)), (.long (0 : Int64))]) := V_a1.setL W7 (by decide) (Nat.le_of_ble_eq_true rfl)
  refine Jvm.OwnW.dup O7 d3_38 rfl (q := 39) rfl ?_
  refine Jvm.OwnW.bipush O7 d3_39 (r := (6 : Int32)) rfl (q := 41) rfl ?_
  refine Jvm.OwnW.ldcL O7 d3_41 (hw _ (List.mem_of_getElem? (i := 21) rfl)) (q := 44) rfl ?_
  refine Jvm.OwnW.lasA O7 d3_44 V_a1 (i := 6) rfl (by decide) (Or.inr N1) (q := 45) rfl ?_
  intro T8 h8 O8 W8
  have V_a1 : Ar Z h8 a1 .long 19 (lf [(.long (1 : Int64)), (.long (10 : Int64)), (.long (100 : Int64)), (.long (1000 : Int64)), (.long (10000 : Int64)), (.long (100000 : Int64)), (.long (1000000 : Int64)), (.long (0 : Int64)), (.long (0 : Int64)), (.long (0 : Int64)), (.long (0 : Int64)), (.long (0 : Int64)), (.long (0 : Int64)), (.long (0 : Int64)), (.long (0 : Int64)), (.long (0 : Int64)), (.long (0 : Int64)), (.long (0 : Int64)), (.long (0 : Int64))]) := V_a1.setL W8 (by decide) (Nat.le_of_ble_eq_true rfl)
  refine Jvm.OwnW.dup O8 d3_45 rfl (q := 46) rfl ?_
  refine Jvm.OwnW.bipush O8 d3_46 (r := (7 : Int32)) rfl (q := 48) rfl ?_
  refine Jvm.OwnW.ldcL O8 d3_48 (hw _ (List.mem_of_getElem? (i := 22) rfl)) (q := 51) rfl ?_
  refine Jvm.OwnW.lasA O8 d3_51 V_a1 (i := 7) rfl (by decide) (Or.inr N1) (q := 52) rfl ?_
  intro T9 h9 O9 W9
  have V_a1 : Ar Z h9 a1 .long 19 (lf [(.long (1 : Int64)), (.long (10 : Int64)), (.long (100 : Int64)), (.long (1000 : Int64)), (.long (10000 : Int64)), (.long (100000 : Int64)), (.long (1000000 : Int64)), (.long (10000000 : Int64)), (.long (0 : Int64)), (.long (0 : Int64)), (.long (0 : Int64)), (.long (0 : Int64)), (.long (0 : Int64)), (.long (0 : Int64)), (.long (0 : Int64)), (.long (0 : Int64)), (.long (0 : Int64)), (.long (0 : Int64)), (.long (0 : Int64))]) := V_a1.setL W9 (by decide) (Nat.le_of_ble_eq_true rfl)
  refine Jvm.OwnW.dup O9 d3_52 rfl (q := 53) rfl ?_
  refine Jvm.OwnW.bipush O9 d3_53 (r := (8 : Int32)) rfl (q := 55) rfl ?_
  refine Jvm.OwnW.ldcL O9 d3_55 (hw _ (List.mem_of_getElem? (i := 23) rfl)) (q := 58) rfl ?_
  refine Jvm.OwnW.lasA O9 d3_58 V_a1 (i := 8) rfl (by decide) (Or.inr N1) (q := 59) rfl ?_
  intro T10 h10 O10 W10
  have V_a1 : Ar Z h10 a1 .long 19 (lf [(.long (1 : Int64)), (.long (10 : Int64)), (.long (100 : Int64)), (.long (1000 : Int64)), (.long (10000 : Int64)), (.long (100000 : Int64)), (.long (1000000 : Int64)), (.long (10000000 : Int64)), (.long (100000000 : Int64)), (.long (0 : Int64)), (.long (0 : Int64)), (.long (0 : Int64)), (.long (0 : Int64)), (.long (0 : Int64)), (.long (0 : Int64)), (.long (0 : Int64)), (.long (0 : Int64)), (.long (0 : Int64)), (.long (0 : Int64))]) := V_a1.setL W10 (by decide) (Nat.le_of_ble_eq_true rfl)
  refine Jvm.OwnW.dup O10 d3_59 rfl (q := 60) rfl ?_
  refine Jvm.OwnW.bipush O10 d3_60 (r := (9 : Int32)) rfl (q := 62) rfl ?_
  refine Jvm.OwnW.ldcL O10 d3_62 (hw _ (List.mem_of_getElem? (i := 24) rfl)) (q := 65) rfl ?_
  refine Jvm.OwnW.lasA O10 d3_65 V_a1 (i := 9) rfl (by decide) (Or.inr N1) (q := 66) rfl ?_
  intro T11 h11 O11 W11
  have V_a1 : Ar Z h11 a1 .long 19 (lf [(.long (1 : Int64)), (.long (10 : Int64)), (.long (100 : Int64)), (.long (1000 : Int64)), (.long (10000 : Int64)), (.long (100000 : Int64)), (.long (1000000 : Int64)), (.long (10000000 : Int64)), (.long (100000000 : Int64)), (.long (1000000000 : Int64)), (.long (0 : Int64)), (.long (0 : Int64)), (.long (0 : Int64)), (.long (0 : Int64)), (.long (0 : Int64)), (.long (0 : Int64)), (.long (0 : Int64)), (.long (0 : Int64)), (.long (0 : Int64))]) := V_a1.setL W11 (by decide) (Nat.le_of_ble_eq_true rfl)
  refine Jvm.OwnW.dup O11 d3_66 rfl (q := 67) rfl ?_
  refine Jvm.OwnW.bipush O11 d3_67 (r := (10 : Int32)) rfl (q := 69) rfl ?_
  refine Jvm.OwnW.ldcL O11 d3_69 (hw _ (List.mem_of_getElem? (i := 25) rfl)) (q := 72) rfl ?_
  refine Jvm.OwnW.lasA O11 d3_72 V_a1 (i := 10) rfl (by decide) (Or.inr N1) (q := 73) rfl ?_
  intro T12 h12 O12 W12
  have V_a1 : Ar Z h12 a1 .long 19 (lf [(.long (1 : Int64)), (.long (10 : Int64)), (.long (100 : Int64)), (.long (1000 : Int64)), (.long (10000 : Int64)), (.long (100000 : Int64)), (.long (1000000 : Int64)), (.long (10000000 : Int64)), (.long (100000000 : Int64)), (.long (1000000000 : Int64)), (.long (10000000000 : Int64)), (.long (0 : Int64)), (.long (0 : Int64)), (.long (0 : Int64)), (.long (0 : Int64)), (.long (0 : Int64)), (.long (0 : Int64)), (.long (0 : Int64)), (.long (0 : Int64))]) := V_a1.setL W12 (by decide) (Nat.le_of_ble_eq_true rfl)
  refine Jvm.OwnW.dup O12 d3_73 rfl (q := 74) rfl ?_
  refine Jvm.OwnW.bipush O12 d3_74 (r := (11 : Int32)) rfl (q := 76) rfl ?_
  refine Jvm.OwnW.ldcL O12 d3_76 (hw _ (List.mem_of_getElem? (i := 26) rfl)) (q := 79) rfl ?_
  refine Jvm.OwnW.lasA O12 d3_79 V_a1 (i := 11) rfl (by decide) (Or.inr N1) (q := 80) rfl ?_
  intro T13 h13 O13 W13
  have V_a1 : Ar Z h13 a1 .long 19 (lf [(.long (1 : Int64)), (.long (10 : Int64)), (.long (100 : Int64)), (.long (1000 : Int64)), (.long (10000 : Int64)), (.long (100000 : Int64)), (.long (1000000 : Int64)), (.long (10000000 : Int64)), (.long (100000000 : Int64)), (.long (1000000000 : Int64)), (.long (10000000000 : Int64)), (.long (100000000000 : Int64)), (.long (0 : Int64)), (.long (0 : Int64)), (.long (0 : Int64)), (.long (0 : Int64)), (.long (0 : Int64)), (.long (0 : Int64)), (.long (0 : Int64))]) := V_a1.setL W13 (by decide) (Nat.le_of_ble_eq_true rfl)
  refine Jvm.OwnW.dup O13 d3_80 rfl (q := 81) rfl ?_
  refine Jvm.OwnW.bipush O13 d3_81 (r := (12 : Int32)) rfl (q := 83) rfl ?_
  refine Jvm.OwnW.ldcL O13 d3_83 (hw _ (List.mem_of_getElem? (i := 27) rfl)) (q := 86) rfl ?_
  refine Jvm.OwnW.lasA O13 d3_86 V_a1 (i := 12) rfl (by decide) (Or.inr N1) (q := 87) rfl ?_
  intro T14 h14 O14 W14
  have V_a1 : Ar Z h14 a1 .long 19 (lf [(.long (1 : Int64)), (.long (10 : Int64)), (.long (100 : Int64)), (.long (1000 : Int64)), (.long (10000 : Int64)), (.long (100000 : Int64)), (.long (1000000 : Int64)), (.long (10000000 : Int64)), (.long (100000000 : Int64)), (.long (1000000000 : Int64)), (.long (10000000000 : Int64)), (.long (100000000000 : Int64)), (.long (1000000000000 : Int64)), (.long (0 : Int64)), (.long (0 : Int64)), (.long (0 : Int64)), (.long (0 : Int64)), (.long (0 : Int64)), (.long (0 : Int64))]) := V_a1.setL W14 (by decide) (Nat.le_of_ble_eq_true rfl)
  refine Jvm.OwnW.dup O14 d3_87 rfl (q := 88) rfl ?_
  refine Jvm.OwnW.bipush O14 d3_88 (r := (13 : Int32)) rfl (q := 90) rfl ?_
  refine Jvm.OwnW.ldcL O14 d3_90 (hw _ (List.mem_of_getElem? (i := 28) rfl)) (q := 93) rfl ?_
  refine Jvm.OwnW.lasA O14 d3_93 V_a1 (i := 13) rfl (by decide) (Or.inr N1) (q := 94) rfl ?_
  intro T15 h15 O15 W15
  have V_a1 : Ar Z h15 a1 .long 19 (lf [(.long (1 : Int64)), (.long (10 : Int64)), (.long (100 : Int64)), (.long (1000 : Int64)), (.long (10000 : Int64)), (.long (100000 : Int64)), (.long (1000000 : Int64)), (.long (10000000 : Int64)), (.long (100000000 : Int64)), (.long (1000000000 : Int64)), (.long (10000000000 : Int64)), (.long (100000000000 : Int64)), (.long (1000000000000 : Int64)), (.long (10000000000000 : Int64)), (.long (0 : Int64)), (.long (0 : Int64)), (.long (0 : Int64)), (.long (0 : Int64)), (.long (0 : Int64))]) := V_a1.setL W15 (by decide) (Nat.le_of_ble_eq_true rfl)
  refine Jvm.OwnW.dup O15 d3_94 rfl (q := 95) rfl ?_
  refine Jvm.OwnW.bipush O15 d3_95 (r := (14 : Int32)) rfl (q := 97) rfl ?_
  refine Jvm.OwnW.ldcL O15 d3_97 (hw _ (List.mem_of_getElem? (i := 29) rfl)) (q := 100) rfl ?_
  refine Jvm.OwnW.lasA O15 d3_100 V_a1 (i := 14) rfl (by decide) (Or.inr N1) (q := 101) rfl ?_
  intro T16 h16 O16 W16
  have V_a1 : Ar Z h16 a1 .long 19 (lf [(.long (1 : Int64)), (.long (10 : Int64)), (.long (100 : Int64)), (.long (1000 : Int64)), (.long (10000 : Int64)), (.long (100000 : Int64)), (.long (1000000 : Int64)), (.long (10000000 : Int64)), (.long (100000000 : Int64)), (.long (1000000000 : Int64)), (.long (10000000000 : Int64)), (.long (100000000000 : Int64)), (.long (1000000000000 : Int64)), (.long (10000000000000 : Int64)), (.long (100000000000000 : Int64)), (.long (0 : Int64)), (.long (0 : Int64)), (.long (0 : Int64)), (.long (0 : Int64))]) := V_a1.setL W16 (by decide) (Nat.le_of_ble_eq_true rfl)
  refine Jvm.OwnW.dup O16 d3_101 rfl (q := 102) rfl ?_
  refine Jvm.OwnW.bipush O16 d3_102 (r := (15 : Int32)) rfl (q := 104) rfl ?_
  refine Jvm.OwnW.ldcL O16 d3_104 (hw _ (List.mem_of_getElem? (i := 30) rfl)) (q := 107) rfl ?_
  refine Jvm.OwnW.lasA O16 d3_107 V_a1 (i := 15) rfl (by decide) (Or.inr N1) (q := 108) rfl ?_
  intro T17 h17 O17 W17
  have V_a1 : Ar Z h17 a1 .long 19 (lf [(.long (1 : Int64)), (.long (10 : Int64)), (.long (100 : Int64)), (.long (1000 : Int64)), (.long (10000 : Int64)), (.long (100000 : Int64)), (.long (1000000 : Int64)), (.long (10000000 : Int64)), (.long (100000000 : Int64)), (.long (1000000000 : Int64)), (.long (10000000000 : Int64)), (.long (100000000000 : Int64)), (.long (1000000000000 : Int64)), (.long (10000000000000 : Int64)), (.long (100000000000000 : Int64)), (.long (1000000000000000 : Int64)), (.long (0 : Int64)), (.long (0 : Int64)), (.long (0 : Int64))]) := V_a1.setL W17 (by decide) (Nat.le_of_ble_eq_true rfl)
  refine Jvm.OwnW.dup O17 d3_108 rfl (q := 109) rfl ?_
  refine Jvm.OwnW.bipush O17 d3_109 (r := (16 : Int32)) rfl (q := 111) rfl ?_
  refine Jvm.OwnW.ldcL O17 d3_111 (hw _ (List.mem_of_getElem? (i := 31) rfl)) (q := 114) rfl ?_
  refine Jvm.OwnW.lasA O17 d3_114 V_a1 (i := 16) rfl (by decide) (Or.inr N1) (q := 115) rfl ?_
  intro T18 h18 O18 W18
  have V_a1 : Ar Z h18 a1 .long 19 (lf [(.long (1 : Int64)), (.long (10 : Int64)), (.long (100 : Int64)), (.long (1000 : Int64)), (.long (10000 : Int64)), (.long (100000 : Int64)), (.long (1000000 : Int64)), (.long (10000000 : Int64)), (.long (100000000 : Int64)), (.long (1000000000 : Int64)), (.long (10000000000 : Int64)), (.long (100000000000 : Int64)), (.long (1000000000000 : Int64)), (.long (10000000000000 : Int64)), (.long (100000000000000 : Int64)), (.long (1000000000000000 : Int64)), (.long (10000000000000000 : Int64)), (.long (0 : Int64)), (.long (0 : Int64))]) := V_a1.setL W18 (by decide) (Nat.le_of_ble_eq_true rfl)
  refine Jvm.OwnW.dup O18 d3_115 rfl (q := 116) rfl ?_
  refine Jvm.OwnW.bipush O18 d3_116 (r := (17 : Int32)) rfl (q := 118) rfl ?_
  refine Jvm.OwnW.ldcL O18 d3_118 (hw _ (List.mem_of_getElem? (i := 32) rfl)) (q := 121) rfl ?_
  refine Jvm.OwnW.lasA O18 d3_121 V_a1 (i := 17) rfl (by decide) (Or.inr N1) (q := 122) rfl ?_
  intro T19 h19 O19 W19
  have V_a1 : Ar Z h19 a1 .long 19 (lf [(.long (1 : Int64)), (.long (10 : Int64)), (.long (100 : Int64)), (.long (1000 : Int64)), (.long (10000 : Int64)), (.long (100000 : Int64)), (.long (1000000 : Int64)), (.long (10000000 : Int64)), (.long (100000000 : Int64)), (.long (1000000000 : Int64)), (.long (10000000000 : Int64)), (.long (100000000000 : Int64)), (.long (1000000000000 : Int64)), (.long (10000000000000 : Int64)), (.long (100000000000000 : Int64)), (.long (1000000000000000 : Int64)), (.long (10000000000000000 : Int64)), (.long (100000000000000000 : Int64)), (.long (0 : Int64))]) := V_a1.setL W19 (by decide) (Nat.le_of_ble_eq_true rfl)
  refine Jvm.OwnW.dup O19 d3_122 rfl (q := 123) rfl ?_
  refine Jvm.OwnW.bipush O19 d3_123 (r := (18 : Int32)) rfl (q := 125) rfl ?_
  refine Jvm.OwnW.ldcL O19 d3_125 (hw _ (List.mem_of_getElem? (i := 33) rfl)) (q := 128) rfl ?_
  refine Jvm.OwnW.lasA O19 d3_128 V_a1 (i := 18) rfl (by decide) (Or.inr N1) (q := 129) rfl ?_
  intro T20 h20 O20 W20
  have V_a1 : Ar Z h20 a1 .long 19 (lf [(.long (1 : Int64)), (.long (10 : Int64)), (.long (100 : Int64)), (.long (1000 : Int64)), (.long (10000 : Int64)), (.long (100000 : Int64)), (.long (1000000 : Int64)), (.long (10000000 : Int64)), (.long (100000000 : Int64)), (.long (1000000000 : Int64)), (.long (10000000000 : Int64)), (.long (100000000000 : Int64)), (.long (1000000000000 : Int64)), (.long (10000000000000 : Int64)), (.long (100000000000000 : Int64)), (.long (1000000000000000 : Int64)), (.long (10000000000000000 : Int64)), (.long (100000000000000000 : Int64)), (.long (1000000000000000000 : Int64))]) := V_a1.setL W20 (by decide) (Nat.le_of_ble_eq_true rfl)
  refine Jvm.OwnW.astoreN O20 d3_129 rfl (L' := #[.val (.int p1), .val (.ref a1)]) rfl (q := 130) rfl ?_
  refine Jvm.OwnW.aloadN O20 d3_130 rfl rfl (q := 131) rfl ?_
  refine Jvm.OwnW.iloadN O20 d3_131 rfl (q := 132) rfl ?_
  refine Jvm.OwnW.lalA O20 d3_132 V_a1 (i := nn) hn hlt (v := (.long (own_p nn))) (own_tab nn hlt) (q := 133) rfl ?_
  exact Jvm.OwnW.retL O20 d3_133 rfl (by decide) (by decide) rfl
theorem pd_0 : parseMethodDescriptor "(JI)B" = some ⟨[.long, .int], some .byte⟩ := by decide +kernel
theorem pd_1 : parseMethodDescriptor "([BII)J" = some ⟨[(.array .byte), .int, .int], some .long⟩ := by decide +kernel
theorem pd_2 : parseMethodDescriptor "(I)J" = some ⟨[.int], some .long⟩ := by decide +kernel
theorem ef_0 (p0 : Int64) (p1 : Int64) (p2 : Int32) (p3 : Int32) (p4 : Int32) (p5 : Int32) (m : MethodId) : entryFrame m #[(.long p0), (.long p1), (.int p2), (.int p3), (.int p4), (.int p5)] maxLocals = mkF m 0 #[.val (.long p0), .second, .val (.long p1), .second, .val (.int p2), .val (.int p3), .val (.int p4), .val (.int p5), .unset, .unset, .unset, .unset, .unset, .unset, .unset, .unset, .unset, .unset, .unset, .unset, .unset, .unset] [] := by first | (simp [entryFrame, mkF, argsToLocals, Value.category, maxLocals]; done) | rfl
theorem pn_0 : plainFor x = true := by first | exact plainFor_of_name (by first | (simp [plainName, overriddenIn]; done) | decide +kernel) | decide +kernel
set_option maxRecDepth 65536 in
set_option maxHeartbeats 40000000 in
theorem rm_0 (l : Launch) (Z : State) (a0 : Array Value) (hw : ∀ d ∈ tables_1, d.before a0 Z = true) (wds : List Jvm.Cond) (p0 : Int64) (p1 : Int64) (p2 : Int32) (p3 : Int32) (p4 : Int32) (p5 : Int32) (h0 : Heap)  :
    Met l Z x code maxLocals ret wds room_1 #[(.long p0), (.long p1), (.int p2), (.int p3), (.int p4), (.int p5)] [] h0 (fun v h => v = some (.int 1)) := by
  refine Met.mk pn_0 (ef_0 p0 p1 p2 p3 p4 p5) ?_
  intro C T hs0 O
  show Go C [] (fun v h => v = some (.int 1)) 16 192 (T.setTop (mkF C.m 0 #[.val (.long p0), .second, .val (.long p1), .second, .val (.int p2), .val (.int p3), .val (.int p4), .val (.int p5), .unset, .unset, .unset, .unset, .unset, .unset, .unset, .unset, .unset, .unset, .unset, .unset, .unset, .unset] []))
  refine Jvm.OwnW.bipush O at_0 (r := (18 : Int32)) rfl (q := 2) rfl ?_
  refine Jvm.OwnW.newA' O at_2 (ty := .byte) rfl (hw _ (List.mem_of_getElem? (i := 0) rfl)) (N := 18) rfl (cap := 18) (by decide) (by decide) (c2 := 1) (s2 := 18) rfl rfl (by decide) (by decide) (q := 4) rfl ?_
  intro a1 T1 h1 g1 N1 O1 X1 V_a1
  have V_a1 : Ar Z h1 a1 .byte 18 (lf [(.int (0 : Int32)), (.int (0 : Int32)), (.int (0 : Int32)), (.int (0 : Int32)), (.int (0 : Int32)), (.int (0 : Int32)), (.int (0 : Int32)), (.int (0 : Int32)), (.int (0 : Int32)), (.int (0 : Int32)), (.int (0 : Int32)), (.int (0 : Int32)), (.int (0 : Int32)), (.int (0 : Int32)), (.int (0 : Int32)), (.int (0 : Int32)), (.int (0 : Int32)), (.int (0 : Int32))]) := V_a1.congr (lf_rep 18 _)
  refine Jvm.OwnW.astore O1 at_4 rfl (L' := #[.val (.long p0), .second, .val (.long p1), .second, .val (.int p2), .val (.int p3), .val (.int p4), .val (.int p5), .val (.ref a1), .unset, .unset, .unset, .unset, .unset, .unset, .unset, .unset, .unset, .unset, .unset, .unset, .unset]) rfl (q := 6) rfl ?_
  refine Jvm.OwnW.aload O1 at_6 rfl rfl (q := 8) rfl ?_
  refine Jvm.OwnW.iconst O1 at_8 (r := (0 : Int32)) rfl (q := 9) rfl ?_
  refine Jvm.OwnW.lloadN O1 at_9 rfl (q := 10) rfl ?_
  refine Jvm.OwnW.iconst O1 at_10 (r := (0 : Int32)) rfl (q := 11) rfl ?_
  refine Jvm.OwnW.callS0 O1 (y := (⟨"com/example/vary5/vary5/DecimalDigitsToLongPinLaw", "dig", "(JI)B"⟩ : MethodName)) (argsL := [(.long p0), (.int (0 : Int32))]) (rest := [(.int (0 : Int32)), (.ref a1)]) at_11 (hw _ (List.mem_of_getElem? (i := 1) rfl)) (hw _ (List.mem_of_getElem? (i := 2) rfl)) (hw _ (List.mem_of_getElem? (i := 3) rfl)) (hw _ (List.mem_of_getElem? (i := 4) rfl)) (by decide) (rm_1 l Z a0 hw p0 (0 : Int32) h1) rfl pd_0 rfl (hst := rfl) (W := 2) (Nat.le_of_eq rfl) (by decide) (by decide) (c2 := 1) (s2 := 18) rfl rfl (by decide) (by decide) rfl rfl (q := 14) rfl ?_
  intro v2 T2 O2 q2
  obtain rfl := q2
  show Go C _ _ _ _ (T2.setTop (mkF C.m 14 #[.val (.long p0), .second, .val (.long p1), .second, .val (.int p2), .val (.int p3), .val (.int p4), .val (.int p5), .val (.ref a1), .unset, .unset, .unset, .unset, .unset, .unset, .unset, .unset, .unset, .unset, .unset, .unset, .unset] [(.int (fn_1 p0 (0 : Int32))), (.int (0 : Int32)), (.ref a1)]))
  refine Jvm.OwnW.basA O2 at_14 V_a1 (i := 0) rfl (by decide) (Or.inr N1) (y := (fn_1 p0 (0 : Int32))) (own_b _ _) (q := 15) rfl ?_
  intro T3 h3 O3 W3
  have V_a1 : Ar Z h3 a1 .byte 18 (lf [(.int (fn_1 p0 (0 : Int32))), (.int (0 : Int32)), (.int (0 : Int32)), (.int (0 : Int32)), (.int (0 : Int32)), (.int (0 : Int32)), (.int (0 : Int32)), (.int (0 : Int32)), (.int (0 : Int32)), (.int (0 : Int32)), (.int (0 : Int32)), (.int (0 : Int32)), (.int (0 : Int32)), (.int (0 : Int32)), (.int (0 : Int32)), (.int (0 : Int32)), (.int (0 : Int32)), (.int (0 : Int32))]) := V_a1.setL W3 (by decide) (Nat.le_of_ble_eq_true rfl)
  refine Jvm.OwnW.aload O3 at_15 rfl rfl (q := 17) rfl ?_
  refine Jvm.OwnW.iconst O3 at_17 (r := (1 : Int32)) rfl (q := 18) rfl ?_
  refine Jvm.OwnW.lloadN O3 at_18 rfl (q := 19) rfl ?_
  refine Jvm.OwnW.iconst O3 at_19 (r := (1 : Int32)) rfl (q := 20) rfl ?_
  refine Jvm.OwnW.callS0 O3 (y := (⟨"com/example/vary5/vary5/DecimalDigitsToLongPinLaw", "dig", "(JI)B"⟩ : MethodName)) (argsL := [(.long p0), (.int (1 : Int32))]) (rest := [(.int (1 : Int32)), (.ref a1)]) at_20 (hw _ (List.mem_of_getElem? (i := 1) rfl)) (hw _ (List.mem_of_getElem? (i := 2) rfl)) (hw _ (List.mem_of_getElem? (i := 3) rfl)) (hw _ (List.mem_of_getElem? (i := 4) rfl)) (by decide) (rm_1 l Z a0 hw p0 (1 : Int32) h3) rfl pd_0 rfl (hst := rfl) (W := 2) (Nat.le_of_eq rfl) (by decide) (by decide) (c2 := 1) (s2 := 18) rfl rfl (by decide) (by decide) rfl rfl (q := 23) rfl ?_
  intro v4 T4 O4 q4
  obtain rfl := q4
  show Go C _ _ _ _ (T4.setTop (mkF C.m 23 #[.val (.long p0), .second, .val (.long p1), .second, .val (.int p2), .val (.int p3), .val (.int p4), .val (.int p5), .val (.ref a1), .unset, .unset, .unset, .unset, .unset, .unset, .unset, .unset, .unset, .unset, .unset, .unset, .unset] [(.int (fn_1 p0 (1 : Int32))), (.int (1 : Int32)), (.ref a1)]))
  refine Jvm.OwnW.basA O4 at_23 V_a1 (i := 1) rfl (by decide) (Or.inr N1) (y := (fn_1 p0 (1 : Int32))) (own_b _ _) (q := 24) rfl ?_
  intro T5 h5 O5 W5
  have V_a1 : Ar Z h5 a1 .byte 18 (lf [(.int (fn_1 p0 (0 : Int32))), (.int (fn_1 p0 (1 : Int32))), (.int (0 : Int32)), (.int (0 : Int32)), (.int (0 : Int32)), (.int (0 : Int32)), (.int (0 : Int32)), (.int (0 : Int32)), (.int (0 : Int32)), (.int (0 : Int32)), (.int (0 : Int32)), (.int (0 : Int32)), (.int (0 : Int32)), (.int (0 : Int32)), (.int (0 : Int32)), (.int (0 : Int32)), (.int (0 : Int32)), (.int (0 : Int32))]) := V_a1.setL W5 (by decide) (Nat.le_of_ble_eq_true rfl)
  refine Jvm.OwnW.aload O5 at_24 rfl rfl (q := 26) rfl ?_
  refine Jvm.OwnW.iconst O5 at_26 (r := (2 : Int32)) rfl (q := 27) rfl ?_
  refine Jvm.OwnW.lloadN O5 at_27 rfl (q := 28) rfl ?_
  refine Jvm.OwnW.iconst O5 at_28 (r := (2 : Int32)) rfl (q := 29) rfl ?_
  refine Jvm.OwnW.callS0 O5 (y := (⟨"com/example/vary5/vary5/DecimalDigitsToLongPinLaw", "dig", "(JI)B"⟩ : MethodName)) (argsL := [(.long p0), (.int (2 : Int32))]) (rest := [(.int (2 : Int32)), (.ref a1)]) at_29 (hw _ (List.mem_of_getElem? (i := 1) rfl)) (hw _ (List.mem_of_getElem? (i := 2) rfl)) (hw _ (List.mem_of_getElem? (i := 3) rfl)) (hw _ (List.mem_of_getElem? (i := 4) rfl)) (by decide) (rm_1 l Z a0 hw p0 (2 : Int32) h5) rfl pd_0 rfl (hst := rfl) (W := 2) (Nat.le_of_eq rfl) (by decide) (by decide) (c2 := 1) (s2 := 18) rfl rfl (by decide) (by decide) rfl rfl (q := 32) rfl ?_
  intro v6 T6 O6 q6
  obtain rfl := q6
  show Go C _ _ _ _ (T6.setTop (mkF C.m 32 #[.val (.long p0), .second, .val (.long p1), .second, .val (.int p2), .val (.int p3), .val (.int p4), .val (.int p5), .val (.ref a1), .unset, .unset, .unset, .unset, .unset, .unset, .unset, .unset, .unset, .unset, .unset, .unset, .unset] [(.int (fn_1 p0 (2 : Int32))), (.int (2 : Int32)), (.ref a1)]))
  refine Jvm.OwnW.basA O6 at_32 V_a1 (i := 2) rfl (by decide) (Or.inr N1) (y := (fn_1 p0 (2 : Int32))) (own_b _ _) (q := 33) rfl ?_
  intro T7 h7 O7 W7
  have V_a1 : Ar Z h7 a1 .byte 18 (lf [(.int (fn_1 p0 (0 : Int32))), (.int (fn_1 p0 (1 : Int32))), (.int (fn_1 p0 (2 : Int32))), (.int (0 : Int32)), (.int (0 : Int32)), (.int (0 : Int32)), (.int (0 : Int32)), (.int (0 : Int32)), (.int (0 : Int32)), (.int (0 : Int32)), (.int (0 : Int32)), (.int (0 : Int32)), (.int (0 : Int32)), (.int (0 : Int32)), (.int (0 : Int32)), (.int (0 : Int32)), (.int (0 : Int32)), (.int (0 : Int32))]) := V_a1.setL W7 (by decide) (Nat.le_of_ble_eq_true rfl)
  refine Jvm.OwnW.aload O7 at_33 rfl rfl (q := 35) rfl ?_
  refine Jvm.OwnW.iconst O7 at_35 (r := (3 : Int32)) rfl (q := 36) rfl ?_
  refine Jvm.OwnW.lloadN O7 at_36 rfl (q := 37) rfl ?_
  refine Jvm.OwnW.iconst O7 at_37 (r := (3 : Int32)) rfl (q := 38) rfl ?_
  refine Jvm.OwnW.callS0 O7 (y := (⟨"com/example/vary5/vary5/DecimalDigitsToLongPinLaw", "dig", "(JI)B"⟩ : MethodName)) (argsL := [(.long p0), (.int (3 : Int32))]) (rest := [(.int (3 : Int32)), (.ref a1)]) at_38 (hw _ (List.mem_of_getElem? (i := 1) rfl)) (hw _ (List.mem_of_getElem? (i := 2) rfl)) (hw _ (List.mem_of_getElem? (i := 3) rfl)) (hw _ (List.mem_of_getElem? (i := 4) rfl)) (by decide) (rm_1 l Z a0 hw p0 (3 : Int32) h7) rfl pd_0 rfl (hst := rfl) (W := 2) (Nat.le_of_eq rfl) (by decide) (by decide) (c2 := 1) (s2 := 18) rfl rfl (by decide) (by decide) rfl rfl (q := 41) rfl ?_
  intro v8 T8 O8 q8
  obtain rfl := q8
  show Go C _ _ _ _ (T8.setTop (mkF C.m 41 #[.val (.long p0), .second, .val (.long p1), .second, .val (.int p2), .val (.int p3), .val (.int p4), .val (.int p5), .val (.ref a1), .unset, .unset, .unset, .unset, .unset, .unset, .unset, .unset, .unset, .unset, .unset, .unset, .unset] [(.int (fn_1 p0 (3 : Int32))), (.int (3 : Int32)), (.ref a1)]))
  refine Jvm.OwnW.basA O8 at_41 V_a1 (i := 3) rfl (by decide) (Or.inr N1) (y := (fn_1 p0 (3 : Int32))) (own_b _ _) (q := 42) rfl ?_
  intro T9 h9 O9 W9
  have V_a1 : Ar Z h9 a1 .byte 18 (lf [(.int (fn_1 p0 (0 : Int32))), (.int (fn_1 p0 (1 : Int32))), (.int (fn_1 p0 (2 : Int32))), (.int (fn_1 p0 (3 : Int32))), (.int (0 : Int32)), (.int (0 : Int32)), (.int (0 : Int32)), (.int (0 : Int32)), (.int (0 : Int32)), (.int (0 : Int32)), (.int (0 : Int32)), (.int (0 : Int32)), (.int (0 : Int32)), (.int (0 : Int32)), (.int (0 : Int32)), (.int (0 : Int32)), (.int (0 : Int32)), (.int (0 : Int32))]) := V_a1.setL W9 (by decide) (Nat.le_of_ble_eq_true rfl)
  refine Jvm.OwnW.aload O9 at_42 rfl rfl (q := 44) rfl ?_
  refine Jvm.OwnW.iconst O9 at_44 (r := (4 : Int32)) rfl (q := 45) rfl ?_
  refine Jvm.OwnW.lloadN O9 at_45 rfl (q := 46) rfl ?_
  refine Jvm.OwnW.iconst O9 at_46 (r := (4 : Int32)) rfl (q := 47) rfl ?_
  refine Jvm.OwnW.callS0 O9 (y := (⟨"com/example/vary5/vary5/DecimalDigitsToLongPinLaw", "dig", "(JI)B"⟩ : MethodName)) (argsL := [(.long p0), (.int (4 : Int32))]) (rest := [(.int (4 : Int32)), (.ref a1)]) at_47 (hw _ (List.mem_of_getElem? (i := 1) rfl)) (hw _ (List.mem_of_getElem? (i := 2) rfl)) (hw _ (List.mem_of_getElem? (i := 3) rfl)) (hw _ (List.mem_of_getElem? (i := 4) rfl)) (by decide) (rm_1 l Z a0 hw p0 (4 : Int32) h9) rfl pd_0 rfl (hst := rfl) (W := 2) (Nat.le_of_eq rfl) (by decide) (by decide) (c2 := 1) (s2 := 18) rfl rfl (by decide) (by decide) rfl rfl (q := 50) rfl ?_
  intro v10 T10 O10 q10
  obtain rfl := q10
  show Go C _ _ _ _ (T10.setTop (mkF C.m 50 #[.val (.long p0), .second, .val (.long p1), .second, .val (.int p2), .val (.int p3), .val (.int p4), .val (.int p5), .val (.ref a1), .unset, .unset, .unset, .unset, .unset, .unset, .unset, .unset, .unset, .unset, .unset, .unset, .unset] [(.int (fn_1 p0 (4 : Int32))), (.int (4 : Int32)), (.ref a1)]))
  refine Jvm.OwnW.basA O10 at_50 V_a1 (i := 4) rfl (by decide) (Or.inr N1) (y := (fn_1 p0 (4 : Int32))) (own_b _ _) (q := 51) rfl ?_
  intro T11 h11 O11 W11
  have V_a1 : Ar Z h11 a1 .byte 18 (lf [(.int (fn_1 p0 (0 : Int32))), (.int (fn_1 p0 (1 : Int32))), (.int (fn_1 p0 (2 : Int32))), (.int (fn_1 p0 (3 : Int32))), (.int (fn_1 p0 (4 : Int32))), (.int (0 : Int32)), (.int (0 : Int32)), (.int (0 : Int32)), (.int (0 : Int32)), (.int (0 : Int32)), (.int (0 : Int32)), (.int (0 : Int32)), (.int (0 : Int32)), (.int (0 : Int32)), (.int (0 : Int32)), (.int (0 : Int32)), (.int (0 : Int32)), (.int (0 : Int32))]) := V_a1.setL W11 (by decide) (Nat.le_of_ble_eq_true rfl)
  refine Jvm.OwnW.aload O11 at_51 rfl rfl (q := 53) rfl ?_
  refine Jvm.OwnW.iconst O11 at_53 (r := (5 : Int32)) rfl (q := 54) rfl ?_
  refine Jvm.OwnW.lloadN O11 at_54 rfl (q := 55) rfl ?_
  refine Jvm.OwnW.iconst O11 at_55 (r := (5 : Int32)) rfl (q := 56) rfl ?_
  refine Jvm.OwnW.callS0 O11 (y := (⟨"com/example/vary5/vary5/DecimalDigitsToLongPinLaw", "dig", "(JI)B"⟩ : MethodName)) (argsL := [(.long p0), (.int (5 : Int32))]) (rest := [(.int (5 : Int32)), (.ref a1)]) at_56 (hw _ (List.mem_of_getElem? (i := 1) rfl)) (hw _ (List.mem_of_getElem? (i := 2) rfl)) (hw _ (List.mem_of_getElem? (i := 3) rfl)) (hw _ (List.mem_of_getElem? (i := 4) rfl)) (by decide) (rm_1 l Z a0 hw p0 (5 : Int32) h11) rfl pd_0 rfl (hst := rfl) (W := 2) (Nat.le_of_eq rfl) (by decide) (by decide) (c2 := 1) (s2 := 18) rfl rfl (by decide) (by decide) rfl rfl (q := 59) rfl ?_
  intro v12 T12 O12 q12
  obtain rfl := q12
  show Go C _ _ _ _ (T12.setTop (mkF C.m 59 #[.val (.long p0), .second, .val (.long p1), .second, .val (.int p2), .val (.int p3), .val (.int p4), .val (.int p5), .val (.ref a1), .unset, .unset, .unset, .unset, .unset, .unset, .unset, .unset, .unset, .unset, .unset, .unset, .unset] [(.int (fn_1 p0 (5 : Int32))), (.int (5 : Int32)), (.ref a1)]))
  refine Jvm.OwnW.basA O12 at_59 V_a1 (i := 5) rfl (by decide) (Or.inr N1) (y := (fn_1 p0 (5 : Int32))) (own_b _ _) (q := 60) rfl ?_
  intro T13 h13 O13 W13
  have V_a1 : Ar Z h13 a1 .byte 18 (lf [(.int (fn_1 p0 (0 : Int32))), (.int (fn_1 p0 (1 : Int32))), (.int (fn_1 p0 (2 : Int32))), (.int (fn_1 p0 (3 : Int32))), (.int (fn_1 p0 (4 : Int32))), (.int (fn_1 p0 (5 : Int32))), (.int (0 : Int32)), (.int (0 : Int32)), (.int (0 : Int32)), (.int (0 : Int32)), (.int (0 : Int32)), (.int (0 : Int32)), (.int (0 : Int32)), (.int (0 : Int32)), (.int (0 : Int32)), (.int (0 : Int32)), (.int (0 : Int32)), (.int (0 : Int32))]) := V_a1.setL W13 (by decide) (Nat.le_of_ble_eq_true rfl)
  refine Jvm.OwnW.aload O13 at_60 rfl rfl (q := 62) rfl ?_
  refine Jvm.OwnW.bipush O13 at_62 (r := (6 : Int32)) rfl (q := 64) rfl ?_
  refine Jvm.OwnW.lloadN O13 at_64 rfl (q := 65) rfl ?_
  refine Jvm.OwnW.bipush O13 at_65 (r := (6 : Int32)) rfl (q := 67) rfl ?_
  refine Jvm.OwnW.callS0 O13 (y := (⟨"com/example/vary5/vary5/DecimalDigitsToLongPinLaw", "dig", "(JI)B"⟩ : MethodName)) (argsL := [(.long p0), (.int (6 : Int32))]) (rest := [(.int (6 : Int32)), (.ref a1)]) at_67 (hw _ (List.mem_of_getElem? (i := 1) rfl)) (hw _ (List.mem_of_getElem? (i := 2) rfl)) (hw _ (List.mem_of_getElem? (i := 3) rfl)) (hw _ (List.mem_of_getElem? (i := 4) rfl)) (by decide) (rm_1 l Z a0 hw p0 (6 : Int32) h13) rfl pd_0 rfl (hst := rfl) (W := 2) (Nat.le_of_eq rfl) (by decide) (by decide) (c2 := 1) (s2 := 18) rfl rfl (by decide) (by decide) rfl rfl (q := 70) rfl ?_
  intro v14 T14 O14 q14
  obtain rfl := q14
  show Go C _ _ _ _ (T14.setTop (mkF C.m 70 #[.val (.long p0), .second, .val (.long p1), .second, .val (.int p2), .val (.int p3), .val (.int p4), .val (.int p5), .val (.ref a1), .unset, .unset, .unset, .unset, .unset, .unset, .unset, .unset, .unset, .unset, .unset, .unset, .unset] [(.int (fn_1 p0 (6 : Int32))), (.int (6 : Int32)), (.ref a1)]))
  refine Jvm.OwnW.basA O14 at_70 V_a1 (i := 6) rfl (by decide) (Or.inr N1) (y := (fn_1 p0 (6 : Int32))) (own_b _ _) (q := 71) rfl ?_
  intro T15 h15 O15 W15
  have V_a1 : Ar Z h15 a1 .byte 18 (lf [(.int (fn_1 p0 (0 : Int32))), (.int (fn_1 p0 (1 : Int32))), (.int (fn_1 p0 (2 : Int32))), (.int (fn_1 p0 (3 : Int32))), (.int (fn_1 p0 (4 : Int32))), (.int (fn_1 p0 (5 : Int32))), (.int (fn_1 p0 (6 : Int32))), (.int (0 : Int32)), (.int (0 : Int32)), (.int (0 : Int32)), (.int (0 : Int32)), (.int (0 : Int32)), (.int (0 : Int32)), (.int (0 : Int32)), (.int (0 : Int32)), (.int (0 : Int32)), (.int (0 : Int32)), (.int (0 : Int32))]) := V_a1.setL W15 (by decide) (Nat.le_of_ble_eq_true rfl)
  refine Jvm.OwnW.aload O15 at_71 rfl rfl (q := 73) rfl ?_
  refine Jvm.OwnW.bipush O15 at_73 (r := (7 : Int32)) rfl (q := 75) rfl ?_
  refine Jvm.OwnW.lloadN O15 at_75 rfl (q := 76) rfl ?_
  refine Jvm.OwnW.bipush O15 at_76 (r := (7 : Int32)) rfl (q := 78) rfl ?_
  refine Jvm.OwnW.callS0 O15 (y := (⟨"com/example/vary5/vary5/DecimalDigitsToLongPinLaw", "dig", "(JI)B"⟩ : MethodName)) (argsL := [(.long p0), (.int (7 : Int32))]) (rest := [(.int (7 : Int32)), (.ref a1)]) at_78 (hw _ (List.mem_of_getElem? (i := 1) rfl)) (hw _ (List.mem_of_getElem? (i := 2) rfl)) (hw _ (List.mem_of_getElem? (i := 3) rfl)) (hw _ (List.mem_of_getElem? (i := 4) rfl)) (by decide) (rm_1 l Z a0 hw p0 (7 : Int32) h15) rfl pd_0 rfl (hst := rfl) (W := 2) (Nat.le_of_eq rfl) (by decide) (by decide) (c2 := 1) (s2 := 18) rfl rfl (by decide) (by decide) rfl rfl (q := 81) rfl ?_
  intro v16 T16 O16 q16
  obtain rfl := q16
  show Go C _ _ _ _ (T16.setTop (mkF C.m 81 #[.val (.long p0), .second, .val (.long p1), .second, .val (.int p2), .val (.int p3), .val (.int p4), .val (.int p5), .val (.ref a1), .unset, .unset, .unset, .unset, .unset, .unset, .unset, .unset, .unset, .unset, .unset, .unset, .unset] [(.int (fn_1 p0 (7 : Int32))), (.int (7 : Int32)), (.ref a1)]))
  refine Jvm.OwnW.basA O16 at_81 V_a1 (i := 7) rfl (by decide) (Or.inr N1) (y := (fn_1 p0 (7 : Int32))) (own_b _ _) (q := 82) rfl ?_
  intro T17 h17 O17 W17
  have V_a1 : Ar Z h17 a1 .byte 18 (lf [(.int (fn_1 p0 (0 : Int32))), (.int (fn_1 p0 (1 : Int32))), (.int (fn_1 p0 (2 : Int32))), (.int (fn_1 p0 (3 : Int32))), (.int (fn_1 p0 (4 : Int32))), (.int (fn_1 p0 (5 : Int32))), (.int (fn_1 p0 (6 : Int32))), (.int (fn_1 p0 (7 : Int32))), (.int (0 : Int32)), (.int (0 : Int32)), (.int (0 : Int32)), (.int (0 : Int32)), (.int (0 : Int32)), (.int (0 : Int32)), (.int (0 : Int32)), (.int (0 : Int32)), (.int (0 : Int32)), (.int (0 : Int32))]) := V_a1.setL W17 (by decide) (Nat.le_of_ble_eq_true rfl)
  refine Jvm.OwnW.aload O17 at_82 rfl rfl (q := 84) rfl ?_
  refine Jvm.OwnW.bipush O17 at_84 (r := (8 : Int32)) rfl (q := 86) rfl ?_
  refine Jvm.OwnW.lloadN O17 at_86 rfl (q := 87) rfl ?_
  refine Jvm.OwnW.bipush O17 at_87 (r := (8 : Int32)) rfl (q := 89) rfl ?_
  refine Jvm.OwnW.callS0 O17 (y := (⟨"com/example/vary5/vary5/DecimalDigitsToLongPinLaw", "dig", "(JI)B"⟩ : MethodName)) (argsL := [(.long p0), (.int (8 : Int32))]) (rest := [(.int (8 : Int32)), (.ref a1)]) at_89 (hw _ (List.mem_of_getElem? (i := 1) rfl)) (hw _ (List.mem_of_getElem? (i := 2) rfl)) (hw _ (List.mem_of_getElem? (i := 3) rfl)) (hw _ (List.mem_of_getElem? (i := 4) rfl)) (by decide) (rm_1 l Z a0 hw p0 (8 : Int32) h17) rfl pd_0 rfl (hst := rfl) (W := 2) (Nat.le_of_eq rfl) (by decide) (by decide) (c2 := 1) (s2 := 18) rfl rfl (by decide) (by decide) rfl rfl (q := 92) rfl ?_
  intro v18 T18 O18 q18
  obtain rfl := q18
  show Go C _ _ _ _ (T18.setTop (mkF C.m 92 #[.val (.long p0), .second, .val (.long p1), .second, .val (.int p2), .val (.int p3), .val (.int p4), .val (.int p5), .val (.ref a1), .unset, .unset, .unset, .unset, .unset, .unset, .unset, .unset, .unset, .unset, .unset, .unset, .unset] [(.int (fn_1 p0 (8 : Int32))), (.int (8 : Int32)), (.ref a1)]))
  refine Jvm.OwnW.basA O18 at_92 V_a1 (i := 8) rfl (by decide) (Or.inr N1) (y := (fn_1 p0 (8 : Int32))) (own_b _ _) (q := 93) rfl ?_
  intro T19 h19 O19 W19
  have V_a1 : Ar Z h19 a1 .byte 18 (lf [(.int (fn_1 p0 (0 : Int32))), (.int (fn_1 p0 (1 : Int32))), (.int (fn_1 p0 (2 : Int32))), (.int (fn_1 p0 (3 : Int32))), (.int (fn_1 p0 (4 : Int32))), (.int (fn_1 p0 (5 : Int32))), (.int (fn_1 p0 (6 : Int32))), (.int (fn_1 p0 (7 : Int32))), (.int (fn_1 p0 (8 : Int32))), (.int (0 : Int32)), (.int (0 : Int32)), (.int (0 : Int32)), (.int (0 : Int32)), (.int (0 : Int32)), (.int (0 : Int32)), (.int (0 : Int32)), (.int (0 : Int32)), (.int (0 : Int32))]) := V_a1.setL W19 (by decide) (Nat.le_of_ble_eq_true rfl)
  refine Jvm.OwnW.aload O19 at_93 rfl rfl (q := 95) rfl ?_
  refine Jvm.OwnW.bipush O19 at_95 (r := (9 : Int32)) rfl (q := 97) rfl ?_
  refine Jvm.OwnW.lloadN O19 at_97 rfl (q := 98) rfl ?_
  refine Jvm.OwnW.iconst O19 at_98 (r := (0 : Int32)) rfl (q := 99) rfl ?_
  refine Jvm.OwnW.callS0 O19 (y := (⟨"com/example/vary5/vary5/DecimalDigitsToLongPinLaw", "dig", "(JI)B"⟩ : MethodName)) (argsL := [(.long p1), (.int (0 : Int32))]) (rest := [(.int (9 : Int32)), (.ref a1)]) at_99 (hw _ (List.mem_of_getElem? (i := 1) rfl)) (hw _ (List.mem_of_getElem? (i := 2) rfl)) (hw _ (List.mem_of_getElem? (i := 3) rfl)) (hw _ (List.mem_of_getElem? (i := 4) rfl)) (by decide) (rm_1 l Z a0 hw p1 (0 : Int32) h19) rfl pd_0 rfl (hst := rfl) (W := 2) (Nat.le_of_eq rfl) (by decide) (by decide) (c2 := 1) (s2 := 18) rfl rfl (by decide) (by decide) rfl rfl (q := 102) rfl ?_
  intro v20 T20 O20 q20
  obtain rfl := q20
  show Go C _ _ _ _ (T20.setTop (mkF C.m 102 #[.val (.long p0), .second, .val (.long p1), .second, .val (.int p2), .val (.int p3), .val (.int p4), .val (.int p5), .val (.ref a1), .unset, .unset, .unset, .unset, .unset, .unset, .unset, .unset, .unset, .unset, .unset, .unset, .unset] [(.int (fn_1 p1 (0 : Int32))), (.int (9 : Int32)), (.ref a1)]))
  refine Jvm.OwnW.basA O20 at_102 V_a1 (i := 9) rfl (by decide) (Or.inr N1) (y := (fn_1 p1 (0 : Int32))) (own_b _ _) (q := 103) rfl ?_
  intro T21 h21 O21 W21
  have V_a1 : Ar Z h21 a1 .byte 18 (lf [(.int (fn_1 p0 (0 : Int32))), (.int (fn_1 p0 (1 : Int32))), (.int (fn_1 p0 (2 : Int32))), (.int (fn_1 p0 (3 : Int32))), (.int (fn_1 p0 (4 : Int32))), (.int (fn_1 p0 (5 : Int32))), (.int (fn_1 p0 (6 : Int32))), (.int (fn_1 p0 (7 : Int32))), (.int (fn_1 p0 (8 : Int32))), (.int (fn_1 p1 (0 : Int32))), (.int (0 : Int32)), (.int (0 : Int32)), (.int (0 : Int32)), (.int (0 : Int32)), (.int (0 : Int32)), (.int (0 : Int32)), (.int (0 : Int32)), (.int (0 : Int32))]) := V_a1.setL W21 (by decide) (Nat.le_of_ble_eq_true rfl)
  refine Jvm.OwnW.aload O21 at_103 rfl rfl (q := 105) rfl ?_
  refine Jvm.OwnW.bipush O21 at_105 (r := (10 : Int32)) rfl (q := 107) rfl ?_
  refine Jvm.OwnW.lloadN O21 at_107 rfl (q := 108) rfl ?_
  refine Jvm.OwnW.iconst O21 at_108 (r := (1 : Int32)) rfl (q := 109) rfl ?_
  refine Jvm.OwnW.callS0 O21 (y := (⟨"com/example/vary5/vary5/DecimalDigitsToLongPinLaw", "dig", "(JI)B"⟩ : MethodName)) (argsL := [(.long p1), (.int (1 : Int32))]) (rest := [(.int (10 : Int32)), (.ref a1)]) at_109 (hw _ (List.mem_of_getElem? (i := 1) rfl)) (hw _ (List.mem_of_getElem? (i := 2) rfl)) (hw _ (List.mem_of_getElem? (i := 3) rfl)) (hw _ (List.mem_of_getElem? (i := 4) rfl)) (by decide) (rm_1 l Z a0 hw p1 (1 : Int32) h21) rfl pd_0 rfl (hst := rfl) (W := 2) (Nat.le_of_eq rfl) (by decide) (by decide) (c2 := 1) (s2 := 18) rfl rfl (by decide) (by decide) rfl rfl (q := 112) rfl ?_
  intro v22 T22 O22 q22
  obtain rfl := q22
  show Go C _ _ _ _ (T22.setTop (mkF C.m 112 #[.val (.long p0), .second, .val (.long p1), .second, .val (.int p2), .val (.int p3), .val (.int p4), .val (.int p5), .val (.ref a1), .unset, .unset, .unset, .unset, .unset, .unset, .unset, .unset, .unset, .unset, .unset, .unset, .unset] [(.int (fn_1 p1 (1 : Int32))), (.int (10 : Int32)), (.ref a1)]))
  refine Jvm.OwnW.basA O22 at_112 V_a1 (i := 10) rfl (by decide) (Or.inr N1) (y := (fn_1 p1 (1 : Int32))) (own_b _ _) (q := 113) rfl ?_
  intro T23 h23 O23 W23
  have V_a1 : Ar Z h23 a1 .byte 18 (lf [(.int (fn_1 p0 (0 : Int32))), (.int (fn_1 p0 (1 : Int32))), (.int (fn_1 p0 (2 : Int32))), (.int (fn_1 p0 (3 : Int32))), (.int (fn_1 p0 (4 : Int32))), (.int (fn_1 p0 (5 : Int32))), (.int (fn_1 p0 (6 : Int32))), (.int (fn_1 p0 (7 : Int32))), (.int (fn_1 p0 (8 : Int32))), (.int (fn_1 p1 (0 : Int32))), (.int (fn_1 p1 (1 : Int32))), (.int (0 : Int32)), (.int (0 : Int32)), (.int (0 : Int32)), (.int (0 : Int32)), (.int (0 : Int32)), (.int (0 : Int32)), (.int (0 : Int32))]) := V_a1.setL W23 (by decide) (Nat.le_of_ble_eq_true rfl)
  refine Jvm.OwnW.aload O23 at_113 rfl rfl (q := 115) rfl ?_
  refine Jvm.OwnW.bipush O23 at_115 (r := (11 : Int32)) rfl (q := 117) rfl ?_
  refine Jvm.OwnW.lloadN O23 at_117 rfl (q := 118) rfl ?_
  refine Jvm.OwnW.iconst O23 at_118 (r := (2 : Int32)) rfl (q := 119) rfl ?_
  refine Jvm.OwnW.callS0 O23 (y := (⟨"com/example/vary5/vary5/DecimalDigitsToLongPinLaw", "dig", "(JI)B"⟩ : MethodName)) (argsL := [(.long p1), (.int (2 : Int32))]) (rest := [(.int (11 : Int32)), (.ref a1)]) at_119 (hw _ (List.mem_of_getElem? (i := 1) rfl)) (hw _ (List.mem_of_getElem? (i := 2) rfl)) (hw _ (List.mem_of_getElem? (i := 3) rfl)) (hw _ (List.mem_of_getElem? (i := 4) rfl)) (by decide) (rm_1 l Z a0 hw p1 (2 : Int32) h23) rfl pd_0 rfl (hst := rfl) (W := 2) (Nat.le_of_eq rfl) (by decide) (by decide) (c2 := 1) (s2 := 18) rfl rfl (by decide) (by decide) rfl rfl (q := 122) rfl ?_
  intro v24 T24 O24 q24
  obtain rfl := q24
  show Go C _ _ _ _ (T24.setTop (mkF C.m 122 #[.val (.long p0), .second, .val (.long p1), .second, .val (.int p2), .val (.int p3), .val (.int p4), .val (.int p5), .val (.ref a1), .unset, .unset, .unset, .unset, .unset, .unset, .unset, .unset, .unset, .unset, .unset, .unset, .unset] [(.int (fn_1 p1 (2 : Int32))), (.int (11 : Int32)), (.ref a1)]))
  refine Jvm.OwnW.basA O24 at_122 V_a1 (i := 11) rfl (by decide) (Or.inr N1) (y := (fn_1 p1 (2 : Int32))) (own_b _ _) (q := 123) rfl ?_
  intro T25 h25 O25 W25
  have V_a1 : Ar Z h25 a1 .byte 18 (lf [(.int (fn_1 p0 (0 : Int32))), (.int (fn_1 p0 (1 : Int32))), (.int (fn_1 p0 (2 : Int32))), (.int (fn_1 p0 (3 : Int32))), (.int (fn_1 p0 (4 : Int32))), (.int (fn_1 p0 (5 : Int32))), (.int (fn_1 p0 (6 : Int32))), (.int (fn_1 p0 (7 : Int32))), (.int (fn_1 p0 (8 : Int32))), (.int (fn_1 p1 (0 : Int32))), (.int (fn_1 p1 (1 : Int32))), (.int (fn_1 p1 (2 : Int32))), (.int (0 : Int32)), (.int (0 : Int32)), (.int (0 : Int32)), (.int (0 : Int32)), (.int (0 : Int32)), (.int (0 : Int32))]) := V_a1.setL W25 (by decide) (Nat.le_of_ble_eq_true rfl)
  refine Jvm.OwnW.aload O25 at_123 rfl rfl (q := 125) rfl ?_
  refine Jvm.OwnW.bipush O25 at_125 (r := (12 : Int32)) rfl (q := 127) rfl ?_
  refine Jvm.OwnW.lloadN O25 at_127 rfl (q := 128) rfl ?_
  refine Jvm.OwnW.iconst O25 at_128 (r := (3 : Int32)) rfl (q := 129) rfl ?_
  refine Jvm.OwnW.callS0 O25 (y := (⟨"com/example/vary5/vary5/DecimalDigitsToLongPinLaw", "dig", "(JI)B"⟩ : MethodName)) (argsL := [(.long p1), (.int (3 : Int32))]) (rest := [(.int (12 : Int32)), (.ref a1)]) at_129 (hw _ (List.mem_of_getElem? (i := 1) rfl)) (hw _ (List.mem_of_getElem? (i := 2) rfl)) (hw _ (List.mem_of_getElem? (i := 3) rfl)) (hw _ (List.mem_of_getElem? (i := 4) rfl)) (by decide) (rm_1 l Z a0 hw p1 (3 : Int32) h25) rfl pd_0 rfl (hst := rfl) (W := 2) (Nat.le_of_eq rfl) (by decide) (by decide) (c2 := 1) (s2 := 18) rfl rfl (by decide) (by decide) rfl rfl (q := 132) rfl ?_
  intro v26 T26 O26 q26
  obtain rfl := q26
  show Go C _ _ _ _ (T26.setTop (mkF C.m 132 #[.val (.long p0), .second, .val (.long p1), .second, .val (.int p2), .val (.int p3), .val (.int p4), .val (.int p5), .val (.ref a1), .unset, .unset, .unset, .unset, .unset, .unset, .unset, .unset, .unset, .unset, .unset, .unset, .unset] [(.int (fn_1 p1 (3 : Int32))), (.int (12 : Int32)), (.ref a1)]))
  refine Jvm.OwnW.basA O26 at_132 V_a1 (i := 12) rfl (by decide) (Or.inr N1) (y := (fn_1 p1 (3 : Int32))) (own_b _ _) (q := 133) rfl ?_
  intro T27 h27 O27 W27
  have V_a1 : Ar Z h27 a1 .byte 18 (lf [(.int (fn_1 p0 (0 : Int32))), (.int (fn_1 p0 (1 : Int32))), (.int (fn_1 p0 (2 : Int32))), (.int (fn_1 p0 (3 : Int32))), (.int (fn_1 p0 (4 : Int32))), (.int (fn_1 p0 (5 : Int32))), (.int (fn_1 p0 (6 : Int32))), (.int (fn_1 p0 (7 : Int32))), (.int (fn_1 p0 (8 : Int32))), (.int (fn_1 p1 (0 : Int32))), (.int (fn_1 p1 (1 : Int32))), (.int (fn_1 p1 (2 : Int32))), (.int (fn_1 p1 (3 : Int32))), (.int (0 : Int32)), (.int (0 : Int32)), (.int (0 : Int32)), (.int (0 : Int32)), (.int (0 : Int32))]) := V_a1.setL W27 (by decide) (Nat.le_of_ble_eq_true rfl)
  refine Jvm.OwnW.aload O27 at_133 rfl rfl (q := 135) rfl ?_
  refine Jvm.OwnW.bipush O27 at_135 (r := (13 : Int32)) rfl (q := 137) rfl ?_
  refine Jvm.OwnW.lloadN O27 at_137 rfl (q := 138) rfl ?_
  refine Jvm.OwnW.iconst O27 at_138 (r := (4 : Int32)) rfl (q := 139) rfl ?_
  refine Jvm.OwnW.callS0 O27 (y := (⟨"com/example/vary5/vary5/DecimalDigitsToLongPinLaw", "dig", "(JI)B"⟩ : MethodName)) (argsL := [(.long p1), (.int (4 : Int32))]) (rest := [(.int (13 : Int32)), (.ref a1)]) at_139 (hw _ (List.mem_of_getElem? (i := 1) rfl)) (hw _ (List.mem_of_getElem? (i := 2) rfl)) (hw _ (List.mem_of_getElem? (i := 3) rfl)) (hw _ (List.mem_of_getElem? (i := 4) rfl)) (by decide) (rm_1 l Z a0 hw p1 (4 : Int32) h27) rfl pd_0 rfl (hst := rfl) (W := 2) (Nat.le_of_eq rfl) (by decide) (by decide) (c2 := 1) (s2 := 18) rfl rfl (by decide) (by decide) rfl rfl (q := 142) rfl ?_
  intro v28 T28 O28 q28
  obtain rfl := q28
  show Go C _ _ _ _ (T28.setTop (mkF C.m 142 #[.val (.long p0), .second, .val (.long p1), .second, .val (.int p2), .val (.int p3), .val (.int p4), .val (.int p5), .val (.ref a1), .unset, .unset, .unset, .unset, .unset, .unset, .unset, .unset, .unset, .unset, .unset, .unset, .unset] [(.int (fn_1 p1 (4 : Int32))), (.int (13 : Int32)), (.ref a1)]))
  refine Jvm.OwnW.basA O28 at_142 V_a1 (i := 13) rfl (by decide) (Or.inr N1) (y := (fn_1 p1 (4 : Int32))) (own_b _ _) (q := 143) rfl ?_
  intro T29 h29 O29 W29
  have V_a1 : Ar Z h29 a1 .byte 18 (lf [(.int (fn_1 p0 (0 : Int32))), (.int (fn_1 p0 (1 : Int32))), (.int (fn_1 p0 (2 : Int32))), (.int (fn_1 p0 (3 : Int32))), (.int (fn_1 p0 (4 : Int32))), (.int (fn_1 p0 (5 : Int32))), (.int (fn_1 p0 (6 : Int32))), (.int (fn_1 p0 (7 : Int32))), (.int (fn_1 p0 (8 : Int32))), (.int (fn_1 p1 (0 : Int32))), (.int (fn_1 p1 (1 : Int32))), (.int (fn_1 p1 (2 : Int32))), (.int (fn_1 p1 (3 : Int32))), (.int (fn_1 p1 (4 : Int32))), (.int (0 : Int32)), (.int (0 : Int32)), (.int (0 : Int32)), (.int (0 : Int32))]) := V_a1.setL W29 (by decide) (Nat.le_of_ble_eq_true rfl)
  refine Jvm.OwnW.aload O29 at_143 rfl rfl (q := 145) rfl ?_
  refine Jvm.OwnW.bipush O29 at_145 (r := (14 : Int32)) rfl (q := 147) rfl ?_
  refine Jvm.OwnW.lloadN O29 at_147 rfl (q := 148) rfl ?_
  refine Jvm.OwnW.iconst O29 at_148 (r := (5 : Int32)) rfl (q := 149) rfl ?_
  refine Jvm.OwnW.callS0 O29 (y := (⟨"com/example/vary5/vary5/DecimalDigitsToLongPinLaw", "dig", "(JI)B"⟩ : MethodName)) (argsL := [(.long p1), (.int (5 : Int32))]) (rest := [(.int (14 : Int32)), (.ref a1)]) at_149 (hw _ (List.mem_of_getElem? (i := 1) rfl)) (hw _ (List.mem_of_getElem? (i := 2) rfl)) (hw _ (List.mem_of_getElem? (i := 3) rfl)) (hw _ (List.mem_of_getElem? (i := 4) rfl)) (by decide) (rm_1 l Z a0 hw p1 (5 : Int32) h29) rfl pd_0 rfl (hst := rfl) (W := 2) (Nat.le_of_eq rfl) (by decide) (by decide) (c2 := 1) (s2 := 18) rfl rfl (by decide) (by decide) rfl rfl (q := 152) rfl ?_
  intro v30 T30 O30 q30
  obtain rfl := q30
  show Go C _ _ _ _ (T30.setTop (mkF C.m 152 #[.val (.long p0), .second, .val (.long p1), .second, .val (.int p2), .val (.int p3), .val (.int p4), .val (.int p5), .val (.ref a1), .unset, .unset, .unset, .unset, .unset, .unset, .unset, .unset, .unset, .unset, .unset, .unset, .unset] [(.int (fn_1 p1 (5 : Int32))), (.int (14 : Int32)), (.ref a1)]))
  refine Jvm.OwnW.basA O30 at_152 V_a1 (i := 14) rfl (by decide) (Or.inr N1) (y := (fn_1 p1 (5 : Int32))) (own_b _ _) (q := 153) rfl ?_
  intro T31 h31 O31 W31
  have V_a1 : Ar Z h31 a1 .byte 18 (lf [(.int (fn_1 p0 (0 : Int32))), (.int (fn_1 p0 (1 : Int32))), (.int (fn_1 p0 (2 : Int32))), (.int (fn_1 p0 (3 : Int32))), (.int (fn_1 p0 (4 : Int32))), (.int (fn_1 p0 (5 : Int32))), (.int (fn_1 p0 (6 : Int32))), (.int (fn_1 p0 (7 : Int32))), (.int (fn_1 p0 (8 : Int32))), (.int (fn_1 p1 (0 : Int32))), (.int (fn_1 p1 (1 : Int32))), (.int (fn_1 p1 (2 : Int32))), (.int (fn_1 p1 (3 : Int32))), (.int (fn_1 p1 (4 : Int32))), (.int (fn_1 p1 (5 : Int32))), (.int (0 : Int32)), (.int (0 : Int32)), (.int (0 : Int32))]) := V_a1.setL W31 (by decide) (Nat.le_of_ble_eq_true rfl)
  refine Jvm.OwnW.aload O31 at_153 rfl rfl (q := 155) rfl ?_
  refine Jvm.OwnW.bipush O31 at_155 (r := (15 : Int32)) rfl (q := 157) rfl ?_
  refine Jvm.OwnW.lloadN O31 at_157 rfl (q := 158) rfl ?_
  refine Jvm.OwnW.bipush O31 at_158 (r := (6 : Int32)) rfl (q := 160) rfl ?_
  refine Jvm.OwnW.callS0 O31 (y := (⟨"com/example/vary5/vary5/DecimalDigitsToLongPinLaw", "dig", "(JI)B"⟩ : MethodName)) (argsL := [(.long p1), (.int (6 : Int32))]) (rest := [(.int (15 : Int32)), (.ref a1)]) at_160 (hw _ (List.mem_of_getElem? (i := 1) rfl)) (hw _ (List.mem_of_getElem? (i := 2) rfl)) (hw _ (List.mem_of_getElem? (i := 3) rfl)) (hw _ (List.mem_of_getElem? (i := 4) rfl)) (by decide) (rm_1 l Z a0 hw p1 (6 : Int32) h31) rfl pd_0 rfl (hst := rfl) (W := 2) (Nat.le_of_eq rfl) (by decide) (by decide) (c2 := 1) (s2 := 18) rfl rfl (by decide) (by decide) rfl rfl (q := 163) rfl ?_
  intro v32 T32 O32 q32
  obtain rfl := q32
  show Go C _ _ _ _ (T32.setTop (mkF C.m 163 #[.val (.long p0), .second, .val (.long p1), .second, .val (.int p2), .val (.int p3), .val (.int p4), .val (.int p5), .val (.ref a1), .unset, .unset, .unset, .unset, .unset, .unset, .unset, .unset, .unset, .unset, .unset, .unset, .unset] [(.int (fn_1 p1 (6 : Int32))), (.int (15 : Int32)), (.ref a1)]))
  refine Jvm.OwnW.basA O32 at_163 V_a1 (i := 15) rfl (by decide) (Or.inr N1) (y := (fn_1 p1 (6 : Int32))) (own_b _ _) (q := 164) rfl ?_
  intro T33 h33 O33 W33
  have V_a1 : Ar Z h33 a1 .byte 18 (lf [(.int (fn_1 p0 (0 : Int32))), (.int (fn_1 p0 (1 : Int32))), (.int (fn_1 p0 (2 : Int32))), (.int (fn_1 p0 (3 : Int32))), (.int (fn_1 p0 (4 : Int32))), (.int (fn_1 p0 (5 : Int32))), (.int (fn_1 p0 (6 : Int32))), (.int (fn_1 p0 (7 : Int32))), (.int (fn_1 p0 (8 : Int32))), (.int (fn_1 p1 (0 : Int32))), (.int (fn_1 p1 (1 : Int32))), (.int (fn_1 p1 (2 : Int32))), (.int (fn_1 p1 (3 : Int32))), (.int (fn_1 p1 (4 : Int32))), (.int (fn_1 p1 (5 : Int32))), (.int (fn_1 p1 (6 : Int32))), (.int (0 : Int32)), (.int (0 : Int32))]) := V_a1.setL W33 (by decide) (Nat.le_of_ble_eq_true rfl)
  refine Jvm.OwnW.aload O33 at_164 rfl rfl (q := 166) rfl ?_
  refine Jvm.OwnW.bipush O33 at_166 (r := (16 : Int32)) rfl (q := 168) rfl ?_
  refine Jvm.OwnW.lloadN O33 at_168 rfl (q := 169) rfl ?_
  refine Jvm.OwnW.bipush O33 at_169 (r := (7 : Int32)) rfl (q := 171) rfl ?_
  refine Jvm.OwnW.callS0 O33 (y := (⟨"com/example/vary5/vary5/DecimalDigitsToLongPinLaw", "dig", "(JI)B"⟩ : MethodName)) (argsL := [(.long p1), (.int (7 : Int32))]) (rest := [(.int (16 : Int32)), (.ref a1)]) at_171 (hw _ (List.mem_of_getElem? (i := 1) rfl)) (hw _ (List.mem_of_getElem? (i := 2) rfl)) (hw _ (List.mem_of_getElem? (i := 3) rfl)) (hw _ (List.mem_of_getElem? (i := 4) rfl)) (by decide) (rm_1 l Z a0 hw p1 (7 : Int32) h33) rfl pd_0 rfl (hst := rfl) (W := 2) (Nat.le_of_eq rfl) (by decide) (by decide) (c2 := 1) (s2 := 18) rfl rfl (by decide) (by decide) rfl rfl (q := 174) rfl ?_
  intro v34 T34 O34 q34
  obtain rfl := q34
  show Go C _ _ _ _ (T34.setTop (mkF C.m 174 #[.val (.long p0), .second, .val (.long p1), .second, .val (.int p2), .val (.int p3), .val (.int p4), .val (.int p5), .val (.ref a1), .unset, .unset, .unset, .unset, .unset, .unset, .unset, .unset, .unset, .unset, .unset, .unset, .unset] [(.int (fn_1 p1 (7 : Int32))), (.int (16 : Int32)), (.ref a1)]))
  refine Jvm.OwnW.basA O34 at_174 V_a1 (i := 16) rfl (by decide) (Or.inr N1) (y := (fn_1 p1 (7 : Int32))) (own_b _ _) (q := 175) rfl ?_
  intro T35 h35 O35 W35
  have V_a1 : Ar Z h35 a1 .byte 18 (lf [(.int (fn_1 p0 (0 : Int32))), (.int (fn_1 p0 (1 : Int32))), (.int (fn_1 p0 (2 : Int32))), (.int (fn_1 p0 (3 : Int32))), (.int (fn_1 p0 (4 : Int32))), (.int (fn_1 p0 (5 : Int32))), (.int (fn_1 p0 (6 : Int32))), (.int (fn_1 p0 (7 : Int32))), (.int (fn_1 p0 (8 : Int32))), (.int (fn_1 p1 (0 : Int32))), (.int (fn_1 p1 (1 : Int32))), (.int (fn_1 p1 (2 : Int32))), (.int (fn_1 p1 (3 : Int32))), (.int (fn_1 p1 (4 : Int32))), (.int (fn_1 p1 (5 : Int32))), (.int (fn_1 p1 (6 : Int32))), (.int (fn_1 p1 (7 : Int32))), (.int (0 : Int32))]) := V_a1.setL W35 (by decide) (Nat.le_of_ble_eq_true rfl)
  refine Jvm.OwnW.aload O35 at_175 rfl rfl (q := 177) rfl ?_
  refine Jvm.OwnW.bipush O35 at_177 (r := (17 : Int32)) rfl (q := 179) rfl ?_
  refine Jvm.OwnW.lloadN O35 at_179 rfl (q := 180) rfl ?_
  refine Jvm.OwnW.bipush O35 at_180 (r := (8 : Int32)) rfl (q := 182) rfl ?_
  refine Jvm.OwnW.callS0 O35 (y := (⟨"com/example/vary5/vary5/DecimalDigitsToLongPinLaw", "dig", "(JI)B"⟩ : MethodName)) (argsL := [(.long p1), (.int (8 : Int32))]) (rest := [(.int (17 : Int32)), (.ref a1)]) at_182 (hw _ (List.mem_of_getElem? (i := 1) rfl)) (hw _ (List.mem_of_getElem? (i := 2) rfl)) (hw _ (List.mem_of_getElem? (i := 3) rfl)) (hw _ (List.mem_of_getElem? (i := 4) rfl)) (by decide) (rm_1 l Z a0 hw p1 (8 : Int32) h35) rfl pd_0 rfl (hst := rfl) (W := 2) (Nat.le_of_eq rfl) (by decide) (by decide) (c2 := 1) (s2 := 18) rfl rfl (by decide) (by decide) rfl rfl (q := 185) rfl ?_
  intro v36 T36 O36 q36
  obtain rfl := q36
  show Go C _ _ _ _ (T36.setTop (mkF C.m 185 #[.val (.long p0), .second, .val (.long p1), .second, .val (.int p2), .val (.int p3), .val (.int p4), .val (.int p5), .val (.ref a1), .unset, .unset, .unset, .unset, .unset, .unset, .unset, .unset, .unset, .unset, .unset, .unset, .unset] [(.int (fn_1 p1 (8 : Int32))), (.int (17 : Int32)), (.ref a1)]))
  refine Jvm.OwnW.basA O36 at_185 V_a1 (i := 17) rfl (by decide) (Or.inr N1) (y := (fn_1 p1 (8 : Int32))) (own_b _ _) (q := 186) rfl ?_
  intro T37 h37 O37 W37
  have V_a1 : Ar Z h37 a1 .byte 18 (lf [(.int (fn_1 p0 (0 : Int32))), (.int (fn_1 p0 (1 : Int32))), (.int (fn_1 p0 (2 : Int32))), (.int (fn_1 p0 (3 : Int32))), (.int (fn_1 p0 (4 : Int32))), (.int (fn_1 p0 (5 : Int32))), (.int (fn_1 p0 (6 : Int32))), (.int (fn_1 p0 (7 : Int32))), (.int (fn_1 p0 (8 : Int32))), (.int (fn_1 p1 (0 : Int32))), (.int (fn_1 p1 (1 : Int32))), (.int (fn_1 p1 (2 : Int32))), (.int (fn_1 p1 (3 : Int32))), (.int (fn_1 p1 (4 : Int32))), (.int (fn_1 p1 (5 : Int32))), (.int (fn_1 p1 (6 : Int32))), (.int (fn_1 p1 (7 : Int32))), (.int (fn_1 p1 (8 : Int32)))]) := V_a1.setL W37 (by decide) (Nat.le_of_ble_eq_true rfl)
  obtain ⟨g, hg⟩ : ∃ g : Nat → Int32, (fun j => ([(fn_1 p0 (0 : Int32)), (fn_1 p0 (1 : Int32)), (fn_1 p0 (2 : Int32)), (fn_1 p0 (3 : Int32)), (fn_1 p0 (4 : Int32)), (fn_1 p0 (5 : Int32)), (fn_1 p0 (6 : Int32)), (fn_1 p0 (7 : Int32)), (fn_1 p0 (8 : Int32)), (fn_1 p1 (0 : Int32)), (fn_1 p1 (1 : Int32)), (fn_1 p1 (2 : Int32)), (fn_1 p1 (3 : Int32)), (fn_1 p1 (4 : Int32)), (fn_1 p1 (5 : Int32)), (fn_1 p1 (6 : Int32)), (fn_1 p1 (7 : Int32)), (fn_1 p1 (8 : Int32))] : List Int32).getD j 0) = g := ⟨_, rfl⟩
  have V_a1 : Ar Z h37 a1 .byte 18 (fun j => .int (g j)) := V_a1.congr (fun j hj => hg ▸ lf_int [(fn_1 p0 (0 : Int32)), (fn_1 p0 (1 : Int32)), (fn_1 p0 (2 : Int32)), (fn_1 p0 (3 : Int32)), (fn_1 p0 (4 : Int32)), (fn_1 p0 (5 : Int32)), (fn_1 p0 (6 : Int32)), (fn_1 p0 (7 : Int32)), (fn_1 p0 (8 : Int32)), (fn_1 p1 (0 : Int32)), (fn_1 p1 (1 : Int32)), (fn_1 p1 (2 : Int32)), (fn_1 p1 (3 : Int32)), (fn_1 p1 (4 : Int32)), (fn_1 p1 (5 : Int32)), (fn_1 p1 (6 : Int32)), (fn_1 p1 (7 : Int32)), (fn_1 p1 (8 : Int32))] j hj)
  refine Jvm.OwnW.iload O37 at_186 rfl (q := 188) rfl ?_
  refine Jvm.OwnW.ldcI O37 at_188 (hw _ (List.mem_of_getElem? (i := 7) rfl)) (q := 190) rfl ?_
  refine Jvm.OwnW.iand O37 at_190 rfl (q := 191) rfl ?_
  refine Jvm.OwnW.bipush O37 at_191 (r := (19 : Int32)) rfl (q := 193) rfl ?_
  obtain ⟨s, hs⟩ : ∃ zz_, ((p2 &&& (2147483647 : Int32)) % (19 : Int32)) = zz_ := ⟨_, rfl⟩
  refine Jvm.OwnW.irem O37 at_193 (by decide) hs (q := 194) rfl ?_
  obtain ⟨sn, hsn, hs19⟩ := rem_in p2 19 (by decide)
  rw [hs] at hsn
  have hs19 : sn < 19 := by have : (19 : Int32).toInt = 19 := rfl; omega
  refine Jvm.OwnW.istore O37 at_194 (L' := #[.val (.long p0), .second, .val (.long p1), .second, .val (.int p2), .val (.int p3), .val (.int p4), .val (.int p5), .val (.ref a1), .val (.int s), .unset, .unset, .unset, .unset, .unset, .unset, .unset, .unset, .unset, .unset, .unset, .unset]) rfl (q := 196) rfl ?_
  refine Jvm.OwnW.iload O37 at_196 rfl (q := 198) rfl ?_
  refine Jvm.OwnW.iload O37 at_198 rfl (q := 200) rfl ?_
  refine Jvm.OwnW.ldcI O37 at_200 (hw _ (List.mem_of_getElem? (i := 7) rfl)) (q := 202) rfl ?_
  refine Jvm.OwnW.iand O37 at_202 rfl (q := 203) rfl ?_
  refine Jvm.OwnW.bipush O37 at_203 (r := (19 : Int32)) rfl (q := 205) rfl ?_
  refine Jvm.OwnW.iload O37 at_205 rfl (q := 207) rfl ?_
  obtain ⟨d19, hd19⟩ : ∃ zz_, ((19 : Int32) - s) = zz_ := ⟨_, rfl⟩
  refine Jvm.OwnW.isub O37 at_207 hd19 (q := 208) rfl ?_
  have hd19p : 0 < d19.toInt := by
    rw [← hd19, sub32 (by rw [hsn]; show _ ≤ (19 : Int) - _; omega) (by rw [hsn]; show (19 : Int) - _ < _; omega), hsn]; show (0 : Int) < 19 - _; omega
  have hd19v : d19.toInt = 19 - sn := by
    rw [← hd19, sub32 (by rw [hsn]; show _ ≤ (19 : Int) - _; omega) (by rw [hsn]; show (19 : Int) - _ < _; omega), hsn]; rfl
  obtain ⟨qn, hqn, hq19⟩ := rem_in p3 d19 hd19p
  obtain ⟨rq, hrq⟩ : ∃ zz_, ((p3 &&& (2147483647 : Int32)) % d19) = zz_ := ⟨_, rfl⟩
  refine Jvm.OwnW.irem O37 at_208 (ne0_32 hd19p) hrq (q := 209) rfl ?_
  obtain ⟨e, he⟩ : ∃ zz_, (s + rq) = zz_ := ⟨_, rfl⟩
  refine Jvm.OwnW.iadd O37 at_209 he (q := 210) rfl ?_
  rw [hrq] at hqn
  have hen : e.toInt = ((sn + qn : Nat) : Int) := by rw [← he, add32 (by omega) (by omega)]; omega
  obtain ⟨en, hend⟩ : ∃ en, sn + qn = en := ⟨_, rfl⟩
  rw [hend] at hen
  have hse : sn ≤ en := by omega
  have he18 : en ≤ 18 := by omega
  refine Jvm.OwnW.istore O37 at_210 (L' := #[.val (.long p0), .second, .val (.long p1), .second, .val (.int p2), .val (.int p3), .val (.int p4), .val (.int p5), .val (.ref a1), .val (.int s), .val (.int e), .unset, .unset, .unset, .unset, .unset, .unset, .unset, .unset, .unset, .unset, .unset]) rfl (q := 212) rfl ?_
  refine Jvm.OwnW.iload O37 at_212 rfl (q := 214) rfl ?_
  refine Jvm.OwnW.iload O37 at_214 rfl (q := 216) rfl ?_
  refine Jvm.OwnW.ldcI O37 at_216 (hw _ (List.mem_of_getElem? (i := 7) rfl)) (q := 218) rfl ?_
  refine Jvm.OwnW.iand O37 at_218 rfl (q := 219) rfl ?_
  refine Jvm.OwnW.iload O37 at_219 rfl (q := 221) rfl ?_
  refine Jvm.OwnW.iload O37 at_221 rfl (q := 223) rfl ?_
  refine Jvm.OwnW.isub O37 at_223 rfl (q := 224) rfl ?_
  refine Jvm.OwnW.iconst O37 at_224 (r := (1 : Int32)) rfl (q := 225) rfl ?_
  obtain ⟨d1, hd1⟩ : ∃ zz_, ((e - s) + (1 : Int32)) = zz_ := ⟨_, rfl⟩
  refine Jvm.OwnW.iadd O37 at_225 hd1 (q := 226) rfl ?_
  have hd1v : d1.toInt = en - sn + 1 := by
    have q1 : (e - s).toInt = en - sn := by rw [sub32 (by omega) (by omega)]; omega
    rw [← hd1, add32 (by rw [q1]; show _ ≤ _ + (1 : Int); omega) (by rw [q1]; show _ + (1 : Int) < _; omega), q1]; rfl
  have hd1p : 0 < d1.toInt := by omega
  obtain ⟨rn, hrn, hr19⟩ := rem_in p4 d1 hd1p
  obtain ⟨rm, hrm⟩ : ∃ zz_, ((p4 &&& (2147483647 : Int32)) % d1) = zz_ := ⟨_, rfl⟩
  refine Jvm.OwnW.irem O37 at_226 (ne0_32 hd1p) hrm (q := 227) rfl ?_
  obtain ⟨m, hm⟩ : ∃ zz_, (s + rm) = zz_ := ⟨_, rfl⟩
  refine Jvm.OwnW.iadd O37 at_227 hm (q := 228) rfl ?_
  rw [hrm] at hrn
  have hmn : m.toInt = ((sn + rn : Nat) : Int) := by rw [← hm, add32 (by omega) (by omega)]; omega
  obtain ⟨mn, hmnd⟩ : ∃ mn, sn + rn = mn := ⟨_, rfl⟩
  rw [hmnd] at hmn
  have hsm : sn ≤ mn := by omega
  have hme : mn ≤ en := by omega
  refine Jvm.OwnW.istore O37 at_228 (L' := #[.val (.long p0), .second, .val (.long p1), .second, .val (.int p2), .val (.int p3), .val (.int p4), .val (.int p5), .val (.ref a1), .val (.int s), .val (.int e), .val (.int m), .unset, .unset, .unset, .unset, .unset, .unset, .unset, .unset, .unset, .unset]) rfl (q := 230) rfl ?_
  refine Jvm.OwnW.iload O37 at_230 rfl (q := 232) rfl ?_
  refine Jvm.OwnW.ldcI O37 at_232 (hw _ (List.mem_of_getElem? (i := 7) rfl)) (q := 234) rfl ?_
  refine Jvm.OwnW.iand O37 at_234 rfl (q := 235) rfl ?_
  refine Jvm.OwnW.bipush O37 at_235 (r := (18 : Int32)) rfl (q := 237) rfl ?_
  obtain ⟨k, hk⟩ : ∃ zz_, ((p5 &&& (2147483647 : Int32)) % (18 : Int32)) = zz_ := ⟨_, rfl⟩
  refine Jvm.OwnW.irem O37 at_237 (by decide) hk (q := 238) rfl ?_
  obtain ⟨kn, hkn, hk18⟩ := rem_in p5 18 (by decide)
  rw [hk] at hkn
  have hk18 : kn < 18 := by have : (18 : Int32).toInt = 18 := rfl; omega
  refine Jvm.OwnW.istore O37 at_238 (L' := #[.val (.long p0), .second, .val (.long p1), .second, .val (.int p2), .val (.int p3), .val (.int p4), .val (.int p5), .val (.ref a1), .val (.int s), .val (.int e), .val (.int m), .val (.int k), .unset, .unset, .unset, .unset, .unset, .unset, .unset, .unset, .unset]) rfl (q := 240) rfl ?_
  refine Jvm.OwnW.aload O37 at_240 rfl rfl (q := 242) rfl ?_
  refine Jvm.OwnW.iload O37 at_242 rfl (q := 244) rfl ?_
  refine Jvm.OwnW.iload O37 at_244 rfl (q := 246) rfl ?_
  refine Jvm.OwnW.callS0 O37 (y := (⟨"com/example/vary5/vary5/DecimalDigits", "toLong", "([BII)J"⟩ : MethodName)) (argsL := [(.ref a1), (.int s), (.int e)]) (rest := []) at_246 (hw _ (List.mem_of_getElem? (i := 8) rfl)) (hw _ (List.mem_of_getElem? (i := 9) rfl)) (hw _ (List.mem_of_getElem? (i := 10) rfl)) (hw _ (List.mem_of_getElem? (i := 11) rfl)) (by decide) (rm_2 l Z a0 hw a1 s e g sn en h37 V_a1 hsn hen (by omega) (by omega)) rfl pd_1 rfl (hst := rfl) (W := 0) (Nat.le_of_eq rfl) (by decide) (by decide) (c2 := 1) (s2 := 18) rfl rfl (by decide) (by decide) rfl rfl (q := 249) rfl ?_
  intro v38 T38 O38 q38
  obtain rfl := q38
  show Go C _ _ _ _ (T38.setTop (mkF C.m 249 #[.val (.long p0), .second, .val (.long p1), .second, .val (.int p2), .val (.int p3), .val (.int p4), .val (.int p5), .val (.ref a1), .val (.int s), .val (.int e), .val (.int m), .val (.int k), .unset, .unset, .unset, .unset, .unset, .unset, .unset, .unset, .unset] [(.long (own_val g sn (en - sn) 0))]))
  refine Jvm.OwnW.lstore O38 at_249 (L' := #[.val (.long p0), .second, .val (.long p1), .second, .val (.int p2), .val (.int p3), .val (.int p4), .val (.int p5), .val (.ref a1), .val (.int s), .val (.int e), .val (.int m), .val (.int k), .val (.long (own_val g sn (en - sn) 0)), .second, .unset, .unset, .unset, .unset, .unset, .unset, .unset]) rfl (q := 251) rfl ?_
  refine Jvm.OwnW.aload O38 at_251 rfl rfl (q := 253) rfl ?_
  refine Jvm.OwnW.iload O38 at_253 rfl (q := 255) rfl ?_
  refine Jvm.OwnW.iload O38 at_255 rfl (q := 257) rfl ?_
  refine Jvm.OwnW.callS0 O38 (y := (⟨"com/example/vary5/vary5/DecimalDigits", "toLong", "([BII)J"⟩ : MethodName)) (argsL := [(.ref a1), (.int s), (.int m)]) (rest := []) at_257 (hw _ (List.mem_of_getElem? (i := 8) rfl)) (hw _ (List.mem_of_getElem? (i := 9) rfl)) (hw _ (List.mem_of_getElem? (i := 10) rfl)) (hw _ (List.mem_of_getElem? (i := 11) rfl)) (by decide) (rm_2 l Z a0 hw a1 s m g sn mn h37 V_a1 hsn hmn (by omega) (by omega)) rfl pd_1 rfl (hst := rfl) (W := 0) (Nat.le_of_eq rfl) (by decide) (by decide) (c2 := 1) (s2 := 18) rfl rfl (by decide) (by decide) rfl rfl (q := 260) rfl ?_
  intro v39 T39 O39 q39
  obtain rfl := q39
  show Go C _ _ _ _ (T39.setTop (mkF C.m 260 #[.val (.long p0), .second, .val (.long p1), .second, .val (.int p2), .val (.int p3), .val (.int p4), .val (.int p5), .val (.ref a1), .val (.int s), .val (.int e), .val (.int m), .val (.int k), .val (.long (own_val g sn (en - sn) 0)), .second, .unset, .unset, .unset, .unset, .unset, .unset, .unset] [(.long (own_val g sn (mn - sn) 0))]))
  refine Jvm.OwnW.lstore O39 at_260 (L' := #[.val (.long p0), .second, .val (.long p1), .second, .val (.int p2), .val (.int p3), .val (.int p4), .val (.int p5), .val (.ref a1), .val (.int s), .val (.int e), .val (.int m), .val (.int k), .val (.long (own_val g sn (en - sn) 0)), .second, .val (.long (own_val g sn (mn - sn) 0)), .second, .unset, .unset, .unset, .unset, .unset]) rfl (q := 262) rfl ?_
  refine Jvm.OwnW.aload O39 at_262 rfl rfl (q := 264) rfl ?_
  refine Jvm.OwnW.iload O39 at_264 rfl (q := 266) rfl ?_
  refine Jvm.OwnW.iload O39 at_266 rfl (q := 268) rfl ?_
  refine Jvm.OwnW.callS0 O39 (y := (⟨"com/example/vary5/vary5/DecimalDigits", "toLong", "([BII)J"⟩ : MethodName)) (argsL := [(.ref a1), (.int m), (.int e)]) (rest := []) at_268 (hw _ (List.mem_of_getElem? (i := 8) rfl)) (hw _ (List.mem_of_getElem? (i := 9) rfl)) (hw _ (List.mem_of_getElem? (i := 10) rfl)) (hw _ (List.mem_of_getElem? (i := 11) rfl)) (by decide) (rm_2 l Z a0 hw a1 m e g mn en h37 V_a1 hmn hen (by omega) (by omega)) rfl pd_1 rfl (hst := rfl) (W := 0) (Nat.le_of_eq rfl) (by decide) (by decide) (c2 := 1) (s2 := 18) rfl rfl (by decide) (by decide) rfl rfl (q := 271) rfl ?_
  intro v40 T40 O40 q40
  obtain rfl := q40
  show Go C _ _ _ _ (T40.setTop (mkF C.m 271 #[.val (.long p0), .second, .val (.long p1), .second, .val (.int p2), .val (.int p3), .val (.int p4), .val (.int p5), .val (.ref a1), .val (.int s), .val (.int e), .val (.int m), .val (.int k), .val (.long (own_val g sn (en - sn) 0)), .second, .val (.long (own_val g sn (mn - sn) 0)), .second, .unset, .unset, .unset, .unset, .unset] [(.long (own_val g mn (en - mn) 0))]))
  refine Jvm.OwnW.lstore O40 at_271 (L' := #[.val (.long p0), .second, .val (.long p1), .second, .val (.int p2), .val (.int p3), .val (.int p4), .val (.int p5), .val (.ref a1), .val (.int s), .val (.int e), .val (.int m), .val (.int k), .val (.long (own_val g sn (en - sn) 0)), .second, .val (.long (own_val g sn (mn - sn) 0)), .second, .val (.long (own_val g mn (en - mn) 0)), .second, .unset, .unset, .unset]) rfl (q := 273) rfl ?_
  refine Jvm.OwnW.lload O40 at_273 rfl (q := 275) rfl ?_
  refine Jvm.OwnW.lload O40 at_275 rfl (q := 277) rfl ?_
  refine Jvm.OwnW.iload O40 at_277 rfl (q := 279) rfl ?_
  refine Jvm.OwnW.iload O40 at_279 rfl (q := 281) rfl ?_
  obtain ⟨em, hem⟩ : ∃ zz_, (e - m) = zz_ := ⟨_, rfl⟩
  refine Jvm.OwnW.isub O40 at_281 hem (q := 282) rfl ?_
  have hemv : em.toInt = ((en - mn : Nat) : Int) := by rw [← hem, sub32 (by omega) (by omega)]; omega
  refine Jvm.OwnW.callS O40 (y := (⟨"com/example/vary5/vary5/DecimalDigitsToLongPinLaw", "pow10", "(I)J"⟩ : MethodName)) (argsL := [(.int em)]) (rest := [(.long (own_val g sn (mn - sn) 0)), (.long (own_val g sn (en - sn) 0))]) at_282 (hw _ (List.mem_of_getElem? (i := 13) rfl)) (hw _ (List.mem_of_getElem? (i := 14) rfl)) (hw _ (List.mem_of_getElem? (i := 3) rfl)) (hw _ (List.mem_of_getElem? (i := 15) rfl)) (by decide) (rm_3 l Z a0 hw em (en - mn) h37 hemv (by omega)) rfl pd_2 rfl (hst := rfl) (W := 4) (Nat.le_of_eq rfl) (by decide) (by decide) (c2 := 2) (s2 := 37) rfl rfl (by decide) (by decide) all0 (q := 285) rfl ?_
  intro v41 T41 h41 O41 K41 q41
  obtain rfl := q41
  have V_a1 := V_a1.keep K41 nin0
  show Go C _ _ _ _ (T41.setTop (mkF C.m 285 #[.val (.long p0), .second, .val (.long p1), .second, .val (.int p2), .val (.int p3), .val (.int p4), .val (.int p5), .val (.ref a1), .val (.int s), .val (.int e), .val (.int m), .val (.int k), .val (.long (own_val g sn (en - sn) 0)), .second, .val (.long (own_val g sn (mn - sn) 0)), .second, .val (.long (own_val g mn (en - mn) 0)), .second, .unset, .unset, .unset] [(.long (own_p (en - mn))), (.long (own_val g sn (mn - sn) 0)), (.long (own_val g sn (en - sn) 0))]))
  refine Jvm.OwnW.lmul O41 at_285 rfl (q := 286) rfl ?_
  refine Jvm.OwnW.lload O41 at_286 rfl (q := 288) rfl ?_
  refine Jvm.OwnW.ladd O41 at_288 rfl (q := 289) rfl ?_
  refine Jvm.OwnW.lcmp O41 at_289 rfl (q := 290) rfl ?_
  refine Jvm.OwnW.ifNo O41 at_290 (teqL (show (own_val g sn (en - sn) 0) = (((own_val g sn (mn - sn) 0) * (own_p (en - mn))) + (own_val g mn (en - mn) 0)) from own_cat g sn mn en hsm hme)).2 (q := 293) rfl ?_
  refine Jvm.OwnW.iconst O41 at_293 (r := (1 : Int32)) rfl (q := 294) rfl ?_
  refine Jvm.OwnW.goto O41 at_294 (by decide) (q := 298) rfl ?_
  refine Jvm.OwnW.istore O41 at_298 (L' := #[.val (.long p0), .second, .val (.long p1), .second, .val (.int p2), .val (.int p3), .val (.int p4), .val (.int p5), .val (.ref a1), .val (.int s), .val (.int e), .val (.int m), .val (.int k), .val (.long (own_val g sn (en - sn) 0)), .second, .val (.long (own_val g sn (mn - sn) 0)), .second, .val (.long (own_val g mn (en - mn) 0)), .second, .val (.int (1 : Int32)), .unset, .unset]) rfl (q := 300) rfl ?_
  refine Jvm.OwnW.aload O41 at_300 rfl rfl (q := 302) rfl ?_
  refine Jvm.OwnW.iload O41 at_302 rfl (q := 304) rfl ?_
  refine Jvm.OwnW.iload O41 at_304 rfl (q := 306) rfl ?_
  refine Jvm.OwnW.iconst O41 at_306 (r := (1 : Int32)) rfl (q := 307) rfl ?_
  obtain ⟨k1, hk1⟩ : ∃ zz_, (k + (1 : Int32)) = zz_ := ⟨_, rfl⟩
  refine Jvm.OwnW.iadd O41 at_307 hk1 (q := 308) rfl ?_
  have hk1v : k1.toInt = ((kn + 1 : Nat) : Int) := by rw [← hk1, add32 (by rw [hkn]; show _ ≤ _ + (1 : Int); omega) (by rw [hkn]; show _ + (1 : Int) < _; omega), hkn]; rfl
  refine Jvm.OwnW.callS0 O41 (y := (⟨"com/example/vary5/vary5/DecimalDigits", "toLong", "([BII)J"⟩ : MethodName)) (argsL := [(.ref a1), (.int k), (.int k1)]) (rest := []) at_308 (hw _ (List.mem_of_getElem? (i := 8) rfl)) (hw _ (List.mem_of_getElem? (i := 9) rfl)) (hw _ (List.mem_of_getElem? (i := 10) rfl)) (hw _ (List.mem_of_getElem? (i := 11) rfl)) (by decide) (rm_2 l Z a0 hw a1 k k1 g kn (kn + 1) h41 V_a1 hkn hk1v (by omega) (by omega)) rfl pd_1 rfl (hst := rfl) (W := 0) (Nat.le_of_eq rfl) (by decide) (by decide) (c2 := 2) (s2 := 37) rfl rfl (by decide) (by decide) rfl rfl (q := 311) rfl ?_
  intro v42 T42 O42 q42
  obtain rfl := q42
  show Go C _ _ _ _ (T42.setTop (mkF C.m 311 #[.val (.long p0), .second, .val (.long p1), .second, .val (.int p2), .val (.int p3), .val (.int p4), .val (.int p5), .val (.ref a1), .val (.int s), .val (.int e), .val (.int m), .val (.int k), .val (.long (own_val g sn (en - sn) 0)), .second, .val (.long (own_val g sn (mn - sn) 0)), .second, .val (.long (own_val g mn (en - mn) 0)), .second, .val (.int (1 : Int32)), .unset, .unset] [(.long (own_val g kn ((kn + 1) - kn) 0))]))
  refine Jvm.OwnW.aload O42 at_311 rfl rfl (q := 313) rfl ?_
  refine Jvm.OwnW.iload O42 at_313 rfl (q := 315) rfl ?_
  refine Jvm.OwnW.balA O42 at_315 V_a1 (i := kn) hkn hk18 (v := (.int (g kn))) rfl (q := 316) rfl ?_
  refine Jvm.OwnW.bipush O42 at_316 (r := (48 : Int32)) rfl (q := 318) rfl ?_
  refine Jvm.OwnW.isub O42 at_318 rfl (q := 319) rfl ?_
  refine Jvm.OwnW.i2l O42 at_319 rfl (q := 320) rfl ?_
  refine Jvm.OwnW.lcmp O42 at_320 rfl (q := 321) rfl ?_
  refine Jvm.OwnW.ifNo O42 at_321 (teqL (show (own_val g kn ((kn + 1) - kn) 0) = ((g kn) - (48 : Int32)).toInt64 from by rw [Nat.add_sub_cancel_left]; exact own_one g kn)).2 (q := 324) rfl ?_
  refine Jvm.OwnW.iconst O42 at_324 (r := (1 : Int32)) rfl (q := 325) rfl ?_
  refine Jvm.OwnW.goto O42 at_325 (by decide) (q := 329) rfl ?_
  refine Jvm.OwnW.istore O42 at_329 (L' := #[.val (.long p0), .second, .val (.long p1), .second, .val (.int p2), .val (.int p3), .val (.int p4), .val (.int p5), .val (.ref a1), .val (.int s), .val (.int e), .val (.int m), .val (.int k), .val (.long (own_val g sn (en - sn) 0)), .second, .val (.long (own_val g sn (mn - sn) 0)), .second, .val (.long (own_val g mn (en - mn) 0)), .second, .val (.int (1 : Int32)), .val (.int (1 : Int32)), .unset]) rfl (q := 331) rfl ?_
  refine Jvm.OwnW.aload O42 at_331 rfl rfl (q := 333) rfl ?_
  refine Jvm.OwnW.iload O42 at_333 rfl (q := 335) rfl ?_
  refine Jvm.OwnW.iload O42 at_335 rfl (q := 337) rfl ?_
  refine Jvm.OwnW.callS0 O42 (y := (⟨"com/example/vary5/vary5/DecimalDigits", "toLong", "([BII)J"⟩ : MethodName)) (argsL := [(.ref a1), (.int e), (.int e)]) (rest := []) at_337 (hw _ (List.mem_of_getElem? (i := 8) rfl)) (hw _ (List.mem_of_getElem? (i := 9) rfl)) (hw _ (List.mem_of_getElem? (i := 10) rfl)) (hw _ (List.mem_of_getElem? (i := 11) rfl)) (by decide) (rm_2 l Z a0 hw a1 e e g en en h41 V_a1 hen hen (by omega) (by omega)) rfl pd_1 rfl (hst := rfl) (W := 0) (Nat.le_of_eq rfl) (by decide) (by decide) (c2 := 2) (s2 := 37) rfl rfl (by decide) (by decide) rfl rfl (q := 340) rfl ?_
  intro v43 T43 O43 q43
  obtain rfl := q43
  show Go C _ _ _ _ (T43.setTop (mkF C.m 340 #[.val (.long p0), .second, .val (.long p1), .second, .val (.int p2), .val (.int p3), .val (.int p4), .val (.int p5), .val (.ref a1), .val (.int s), .val (.int e), .val (.int m), .val (.int k), .val (.long (own_val g sn (en - sn) 0)), .second, .val (.long (own_val g sn (mn - sn) 0)), .second, .val (.long (own_val g mn (en - mn) 0)), .second, .val (.int (1 : Int32)), .val (.int (1 : Int32)), .unset] [(.long (own_val g en (en - en) 0))]))
  refine Jvm.OwnW.lconst O43 at_340 (r := (0 : Int64)) rfl (q := 341) rfl ?_
  refine Jvm.OwnW.lcmp O43 at_341 rfl (q := 342) rfl ?_
  refine Jvm.OwnW.ifNo O43 at_342 (teqL (show (own_val g en (en - en) 0) = (0 : Int64) from by rw [Nat.sub_self]; rfl)).2 (q := 345) rfl ?_
  refine Jvm.OwnW.iconst O43 at_345 (r := (1 : Int32)) rfl (q := 346) rfl ?_
  refine Jvm.OwnW.goto O43 at_346 (by decide) (q := 350) rfl ?_
  refine Jvm.OwnW.istore O43 at_350 (L' := #[.val (.long p0), .second, .val (.long p1), .second, .val (.int p2), .val (.int p3), .val (.int p4), .val (.int p5), .val (.ref a1), .val (.int s), .val (.int e), .val (.int m), .val (.int k), .val (.long (own_val g sn (en - sn) 0)), .second, .val (.long (own_val g sn (mn - sn) 0)), .second, .val (.long (own_val g mn (en - mn) 0)), .second, .val (.int (1 : Int32)), .val (.int (1 : Int32)), .val (.int (1 : Int32))]) rfl (q := 352) rfl ?_
  refine Jvm.OwnW.iload O43 at_352 rfl (q := 354) rfl ?_
  refine Jvm.OwnW.ifNo O43 at_354 (feq0 (show ¬ ((1 : Int32) = (0 : Int32)) from (by decide))).1 (q := 357) rfl ?_
  refine Jvm.OwnW.iload O43 at_357 rfl (q := 359) rfl ?_
  refine Jvm.OwnW.ifNo O43 at_359 (feq0 (show ¬ ((1 : Int32) = (0 : Int32)) from (by decide))).1 (q := 362) rfl ?_
  refine Jvm.OwnW.iload O43 at_362 rfl (q := 364) rfl ?_
  refine Jvm.OwnW.ifNo O43 at_364 (feq0 (show ¬ ((1 : Int32) = (0 : Int32)) from (by decide))).1 (q := 367) rfl ?_
  refine Jvm.OwnW.iconst O43 at_367 (r := (1 : Int32)) rfl (q := 368) rfl ?_
  refine Jvm.OwnW.goto O43 at_368 (by decide) (q := 372) rfl ?_
  exact Jvm.OwnW.retB O43 at_372 rfl (Or.inr rfl) (by decide) (by decide) rfl
set_option maxRecDepth 65536 in
set_option maxHeartbeats 40000000 in
theorem comes_1 {Post : Tables → Env → Array Value → State → Outcome → State → Prop} (hpost : ∀ tb e args s v u, (limb_1_1.after args s (.returned v) u = true ∧ limb_1_2.after args s (.returned v) u = true ∧ True) → FrameEnd s (.returned v) u (Jvm.fieldLocs frame_1_writes args s ++ Jvm.arrayLocs frame_1_arrays args s ++ Jvm.staticLocs frame_1_statics s) 16 192 → Post tb e args s (.returned v) u) :
    ArmFor flags0 classFile x code maxLocals ret World_1 tables_1 room_1 Calls_1 rest_1 Pre_1 Post := by
  intro l hfl _ _ p e ha hc hk s m args below hf hA hF happ hP
  obtain ⟨hcalls, hrest, hpre⟩ := hP
  obtain ⟨-, -, -, hnamed, -, -, -, hat⟩ := (Spec.applies_iff hf).mp happ
  obtain ⟨hg, hn⟩ := and_e (Cond.before_iff.mp (show (Jvm.Cond.and given_1 narrow_1).before args s = true from hpre))
  obtain ⟨hn1, hg⟩ := and_e hg
  obtain ⟨w0, w1, w2, w3, w4, w5, rfl⟩ : ∃ w0 w1 w2 w3 w4 w5 : Value, args = #[w0, w1, w2, w3, w4, w5] := by
    have hs : args.size = 6 := by simpa [Cond.value, given_1] using hn1
    obtain ⟨L⟩ := args
    match L, hs with
    | [w0, w1, w2, w3, w4, w5], _ => exact ⟨w0, w1, w2, w3, w4, w5, rfl⟩
  have hw := fun d (hd : d ∈ tables_1) => atoms_spec (ws := Jvm.Cond.code x code maxLocals ret :: tables_1) hat d (List.mem_cons_of_mem _ hd)
  obtain ⟨hg0, hg⟩ := and_e hg
  obtain ⟨i0, e0⟩ := isL_v hg0
  obtain rfl : w0 = (.long i0) := Option.some.inj e0
  obtain ⟨hg1, hg⟩ := and_e hg
  obtain ⟨i1, e1⟩ := isL_v hg1
  obtain rfl : w1 = (.long i1) := Option.some.inj e1
  obtain ⟨hg2, hg⟩ := and_e hg
  obtain ⟨i2, e2⟩ := is_v hg2
  obtain rfl : w2 = (.int i2) := Option.some.inj e2
  obtain ⟨hg3, hg⟩ := and_e hg
  obtain ⟨i3, e3⟩ := is_v hg3
  obtain rfl : w3 = (.int i3) := Option.some.inj e3
  obtain ⟨hg4, hg⟩ := and_e hg
  obtain ⟨i4, e4⟩ := is_v hg4
  obtain rfl : w4 = (.int i4) := Option.some.inj e4
  obtain ⟨i5, e5⟩ := is_v hg
  obtain rfl : w5 = (.int i5) := Option.some.inj e5

  obtain ⟨n, o, h1, h2, h3, _, L, rfl, ⟨N, -, -, rfl⟩, hq⟩ := rm_0 l s _ hw tables_1 i0 i1 i2 i3 i4 i5 s.heap  p e ha hc hk s m _ below hf ((Spec.applies_iff_loose hf).mp happ).1 ⟨rfl, State.Warmed39.refl s, rfl⟩ trivial
  refine ⟨n, _, h1, h2, h3, hpost _ _ _ _ _ _ ⟨Cond.after_iff.mpr rfl, Cond.after_iff.mpr (eq_i res_at (Term.int_eval (1)) rfl), trivial⟩ ⟨hq.1, hq.2.1, (hq.2.2.sift fun y hy => Or.inr ((N y hy).elim (fun z => nomatch z) id)).mono (by decide) (by decide)⟩⟩
theorem main_1_1 : Claimed_1_1 := comes_1 fun _ _ _ _ _ _ h hF => ⟨h.1, hF⟩
theorem main_1_2 : Claimed_1_2 := comes_1 fun _ _ _ _ _ _ h hF => ⟨h.2.1, hF⟩
end Jvm.Pilot.@@N@@
namespace Jvm.Pilot.@@N@@
open Jvm Jvm.ClassFile Sem Op Lib Jvm.Free Jvm.Stand Jvm.Pilot.@@N@@.Jvm.D
/-! MADE BY PROGRAM (witnessworld.py) out of the Statement's table words and the real class files: 12 classes; the members and pool entries that the words name. The judged class is class 1, her method 3. -/
namespace start1
open Jvm.ClassFile
def u (s : String) : CpInfo := .utf8 (stringToUtf16 s)
/-- a pool by its gaps: so many unusable entries, then the entry; so many at the end -/
def gap : Nat → List CpInfo → List CpInfo
  | 0, r => r
  | n + 1, r => .unusable :: gap n r
def poolList (es : List (Nat × CpInfo)) (last : Nat) : List CpInfo := es.foldr (fun e r => gap e.1 (e.2 :: r)) (gap last [])
def pool (es : List (Nat × CpInfo)) (last : Nat) : Array CpInfo := ⟨poolList es last⟩
def fileOf (pool : Array CpInfo) (this : Nat) (attrs : Array Attribute := #[]) (ms : Array MethodInfo := #[]) (fl : Nat := 33) (sup : Nat := 0) (ifs : Array Nat := #[]) (fds : Array FieldInfo := #[]) : ClassFile where
  minorVersion := 0
  majorVersion := 65
  constantPool := pool
  accessFlags := fl
  thisClass := this
  superClass := sup
  interfaces := ifs
  fields := fds
  methods := ms
  attributes := attrs
def plain (name : String) (sup : Option ClassId) : Class where
  name := name
  kind := .ordinary
  loader := none
  accessFlags := 33
  super := sup
  interfaces := #[]
  cf := none
  fields := #[]
  methods := #[]
  instanceTypes := #[]
  staticTypes := #[]
  resolved := #[]
  callSites := []
  init := .initialized
  statics := none
  mirror := none

def pool0 : Array CpInfo := pool [(5, u "<init>"), (0, u "()V"), (1, .class_ 10), (1, u "java/lang/Object")] 113

def k0m0 : Method := { name := "<init>", desc := "()V", sig := { parameters := [], returnType := none }, accessFlags := 1, code := none }
/-- java/lang/Object -/
def k0 : Class := { plain "java/lang/Object" none with
  accessFlags := 33
  interfaces := #[]
  cf := some (fileOf pool0 8 #[] #[{ accessFlags := 1, nameIndex := 5, descriptorIndex := 6, attributes := #[] }] 33 0 #[] #[])
  fields := #[]
  methods := #[k0m0]
  instanceTypes := #[]
  staticTypes := #[]
  resolved := Array.replicate 124 none
  statics := none }

def pool1 : Array CpInfo := pool [(2, .class_ 4), (1, u "java/lang/Object"), (0, u "<init>"), (0, u "()V"), (0, .long 127), (1, .long 10), (1, .long 100), (1, .long 1000), (1, .long 10000), (1, .long 100000), (1, .long 1000000), (1, .long 10000000), (1, .long 100000000), (1, .long 1000000000), (1, .long 10000000000), (1, .long 100000000000), (1, .long 1000000000000), (1, .long 10000000000000), (1, .long 100000000000000), (1, .long 1000000000000000), (1, .long 10000000000000000), (1, .long 100000000000000000), (1, .long 1000000000000000000), (1, .methodref 46 47), (0, .class_ 48), (0, .nameAndType 49 50), (0, u "com/example/vary5/vary5/DecimalDigitsToLongPinLaw"), (0, u "dig"), (0, u "(JI)B"), (0, .integer 2147483647), (0, .methodref 53 54), (0, .class_ 55), (0, .nameAndType 56 57), (0, u "com/example/vary5/vary5/DecimalDigits"), (0, u "toLong"), (0, u "([BII)J"), (0, .methodref 46 59), (0, .nameAndType 60 61), (0, u "pow10"), (0, u "(I)J"), (2, u "law"), (0, u "(JJIIII)Z")] 5

def k1m0 : Method := { name := "<init>", desc := "()V", sig := { parameters := [], returnType := none }, accessFlags := 1, code := none }
def k1c1 : Code := { maxStack := 5, maxLocals := 3, code := method_2_code, exceptionTable := #[], attributes := #[] }
def k1m1 : Method := { name := "dig", desc := "(JI)B", sig := { parameters := [.long, .int], returnType := some .byte }, accessFlags := 10, code := some k1c1 }
def k1c2 : Code := { maxStack := 5, maxLocals := 2, code := method_3_code, exceptionTable := #[], attributes := #[] }
def k1m2 : Method := { name := "pow10", desc := "(I)J", sig := { parameters := [.int], returnType := some .long }, accessFlags := 10, code := some k1c2 }
def k1c3 : Code := { maxStack := 6, maxLocals := 22, code := code, exceptionTable := #[], attributes := #[] }
def k1m3 : Method := { name := "law", desc := "(JJIIII)Z", sig := { parameters := [.long, .long, .int, .int, .int, .int], returnType := some .boolean }, accessFlags := 9, code := some k1c3 }
/-- com/example/vary5/vary5/DecimalDigitsToLongPinLaw -/
def k1 : Class := { plain "com/example/vary5/vary5/DecimalDigitsToLongPinLaw" (some 0) with
  accessFlags := 49
  interfaces := #[]
  cf := some (fileOf pool1 46 #[] #[{ accessFlags := 1, nameIndex := 5, descriptorIndex := 6, attributes := #[] }, { accessFlags := 10, nameIndex := 49, descriptorIndex := 50, attributes := #[] }, { accessFlags := 10, nameIndex := 60, descriptorIndex := 61, attributes := #[] }, { accessFlags := 9, nameIndex := 64, descriptorIndex := 65, attributes := #[] }] 49 2 #[] #[])
  fields := #[]
  methods := #[k1m0, k1m1, k1m2, k1m3]
  instanceTypes := #[]
  staticTypes := #[]
  resolved := Array.replicate 71 none
  statics := none }

def pool2 : Array CpInfo := pool [(2, .class_ 4), (1, u "java/lang/Object"), (3, .class_ 10), (1, u "com/example/vary5/vary5/RadixConversion"), (0, u "leaves"), (0, u "I"), (16, u "multiplier"), (0, u "Lcom/example/vary5/vary5/LimbMultiplier;"), (4, u "powers"), (0, u "[[I"), (4, u "factors"), (0, u "[Lcom/example/vary5/vary5/LimbMultiplier$Factor;"), (45, u "PARALLEL_LEAVES")] 36

/-- com/example/vary5/vary5/RadixConversion -/
def k2 : Class := { plain "com/example/vary5/vary5/RadixConversion" (some 0) with
  accessFlags := 1056
  interfaces := #[]
  cf := some (fileOf pool2 8 #[] #[] 1056 2 #[] #[{ accessFlags := 26, nameIndex := 88, descriptorIndex := 12, attributes := #[] }, { accessFlags := 18, nameIndex := 11, descriptorIndex := 12, attributes := #[] }, { accessFlags := 18, nameIndex := 29, descriptorIndex := 30, attributes := #[] }, { accessFlags := 18, nameIndex := 35, descriptorIndex := 36, attributes := #[] }, { accessFlags := 18, nameIndex := 41, descriptorIndex := 42, attributes := #[] }])
  fields := #[{ name := "PARALLEL_LEAVES", type := .int, accessFlags := 26, slot := 0, constantValue := 0 }, { name := "leaves", type := .int, accessFlags := 18, slot := 0, constantValue := 0 }, { name := "multiplier", type := (.object "com/example/vary5/vary5/LimbMultiplier"), accessFlags := 18, slot := 1, constantValue := 0 }, { name := "powers", type := (.array (.array .int)), accessFlags := 18, slot := 2, constantValue := 0 }, { name := "factors", type := (.array (.object "com/example/vary5/vary5/LimbMultiplier$Factor")), accessFlags := 18, slot := 3, constantValue := 0 }]
  methods := #[]
  instanceTypes := #[.int, (.object "com/example/vary5/vary5/LimbMultiplier"), (.array (.array .int)), (.array (.object "com/example/vary5/vary5/LimbMultiplier$Factor"))]
  staticTypes := #[.int]
  resolved := Array.replicate 125 none
  statics := none }

def pool3 : Array CpInfo := pool [(6, .class_ 8), (1, u "com/example/vary5/vary5/DecimalDigits"), (0, u "POWERS_OF_TEN"), (0, u "[J"), (1, .class_ 14), (1, u "com/example/vary5/vary5/RadixConversion"), (4, u "digits"), (0, u "[B"), (2, u "start"), (0, u "I"), (2, u "end"), (2, u "toLong"), (0, u "([BII)J"), (8, u "BITS_PER_DIGIT"), (0, u "D"), (51, .long 10), (9, u "LONG_DIGITS")] 38

def k3c0 : Code := { maxStack := 4, maxLocals := 6, code := prog_2_method_7_code, exceptionTable := #[], attributes := #[] }
def k3m0 : Method := { name := "toLong", desc := "([BII)J", sig := { parameters := [(.array .byte), .int, .int], returnType := some .long }, accessFlags := 8, code := some k3c0 }
/-- com/example/vary5/vary5/DecimalDigits -/
def k3 : Class := { plain "com/example/vary5/vary5/DecimalDigits" (some 2) with
  accessFlags := 48
  interfaces := #[]
  cf := some (fileOf pool3 6 #[] #[{ accessFlags := 8, nameIndex := 30, descriptorIndex := 31, attributes := #[] }] 48 12 #[] #[{ accessFlags := 24, nameIndex := 103, descriptorIndex := 24, attributes := #[] }, { accessFlags := 26, nameIndex := 9, descriptorIndex := 10, attributes := #[] }, { accessFlags := 26, nameIndex := 40, descriptorIndex := 41, attributes := #[] }, { accessFlags := 18, nameIndex := 19, descriptorIndex := 20, attributes := #[] }, { accessFlags := 18, nameIndex := 23, descriptorIndex := 24, attributes := #[] }, { accessFlags := 18, nameIndex := 27, descriptorIndex := 24, attributes := #[] }])
  fields := #[{ name := "LONG_DIGITS", type := .int, accessFlags := 24, slot := 0, constantValue := 0 }, { name := "POWERS_OF_TEN", type := (.array .long), accessFlags := 26, slot := 1, constantValue := 0 }, { name := "BITS_PER_DIGIT", type := .double, accessFlags := 26, slot := 2, constantValue := 0 }, { name := "digits", type := (.array .byte), accessFlags := 18, slot := 4, constantValue := 0 }, { name := "start", type := .int, accessFlags := 18, slot := 5, constantValue := 0 }, { name := "end", type := .int, accessFlags := 18, slot := 6, constantValue := 0 }]
  methods := #[k3m0]
  instanceTypes := #[.int, (.object "com/example/vary5/vary5/LimbMultiplier"), (.array (.array .int)), (.array (.object "com/example/vary5/vary5/LimbMultiplier$Factor")), (.array .byte), .int, .int]
  staticTypes := #[.int, (.array .long), .double]
  resolved := Array.replicate 142 none
  statics := none }

def pool4 : Array CpInfo := pool [(1, u "java/lang/Cloneable"), (0, .class_ 1), (0, u "java/lang/Object"), (0, .class_ 3)] 3

/-- java/lang/Cloneable -/
def k4 : Class := { plain "java/lang/Cloneable" (some 0) with
  accessFlags := 1537
  interfaces := #[]
  cf := some (fileOf pool4 2 #[] #[] 1537 4 #[] #[])
  fields := #[]
  methods := #[]
  instanceTypes := #[]
  staticTypes := #[]
  resolved := Array.replicate 8 none
  statics := none }

def pool5 : Array CpInfo := pool [(1, u "java/io/Serializable"), (0, .class_ 1), (0, u "java/lang/Object"), (0, .class_ 3)] 3

/-- java/io/Serializable -/
def k5 : Class := { plain "java/io/Serializable" (some 0) with
  accessFlags := 1537
  interfaces := #[]
  cf := some (fileOf pool5 2 #[] #[] 1537 4 #[] #[])
  fields := #[]
  methods := #[]
  instanceTypes := #[]
  staticTypes := #[]
  resolved := Array.replicate 8 none
  statics := none }

/-- the primitive byte -/
def k6 : Class := { plain "byte" none with kind := .primitive 'B', accessFlags := 0x411 }
/-- [B -/
def k7 : Class := { plain "[B" (some 0) with kind := .array 6 .byte, interfaces := #[4, 5], accessFlags := 1041 }

/-- the primitive int -/
def k8 : Class := { plain "int" none with kind := .primitive 'I', accessFlags := 0x411 }
/-- [I -/
def k9 : Class := { plain "[I" (some 0) with kind := .array 8 .int, interfaces := #[4, 5], accessFlags := 1041 }

/-- the primitive long -/
def k10 : Class := { plain "long" none with kind := .primitive 'J', accessFlags := 0x411 }
/-- [J -/
def k11 : Class := { plain "[J" (some 0) with kind := .array 10 .long, interfaces := #[4, 5], accessFlags := 1041 }

def heap : Heap := #[]
def classes : Array Class := #[k0, k1, k2, k3, k4, k5, k6, k7, k8, k9, k10, k11]
def interned : List (Array UInt16 × Addr) := []
def slotsUsed : Nat := 0
def theMethod : MethodId := ⟨1, 3⟩
def args0 : Array Value := #[.long 5, .long 5, .int 5, .int 5, .int 5, .int 5]
def aboutOver (below : List Frame) : State where
  vm := { classes := classes, interned := interned.toArray }
  heap := heap
  slotsUsed := slotsUsed
  threads := #[{ frames := .invoking theMethod args0 :: below }]
def below0 : List Frame := [.native { method := ⟨0, 0⟩, args := #[] }]
def about1 : State := aboutOver below0
def p0 : Program := .bare "" "" ""
def e0 : Env := launch0.env 0 0 0
theorem w_frames : about1.frames = Frame.invoking theMethod args0 :: below0 := rfl
set_option maxRecDepth 65536 in
theorem w_args : argsFit about1.vm theMethod args0 = true := by decide +kernel
set_option maxRecDepth 65536 in
theorem w_heap : heapFits about1 = true := by decide +kernel
set_option maxRecDepth 65536 in
theorem w_runnable : about1.curStatus? = some .runnable := by decide +kernel
set_option maxRecDepth 65536 in
theorem w_alone : about1.alone = true := by decide +kernel
set_option maxRecDepth 65536 in
theorem w_named : about1.methodNamed? x = some theMethod := by decide +kernel
set_option maxRecDepth 65536 in
theorem w_hears : about1.hears theMethod below0 = true := by decide +kernel
set_option maxRecDepth 65536 in
theorem w_ripe : about1.ripe theMethod args0 below0 = true := by decide +kernel
theorem w_running : about1.status = .running := rfl
set_option maxRecDepth 65536 in
theorem w_room : about1.hasRoom e0.platform room_1 = true :=
  launch0.hasRoom_least _ room_1 (by decide +kernel) (by decide +kernel) (by decide +kernel) (by decide +kernel) (by decide +kernel) (by decide +kernel)
theorem allAtoms_all (ts : List Jvm.Cond) (a : Array Jvm.Value) (st : Jvm.State) : (allAtoms ts).before a st = ts.all (fun c => c.before a st) := by
  induction ts with
  | nil => rfl
  | cons c t ih =>
    show (Jvm.Cond.and c (allAtoms t)).before a st = _
    rw [Jvm.Cond.before_and, ih, List.all_cons]
def words1 : List Jvm.Cond := Jvm.Cond.code x code maxLocals ret :: tables_1
/-- a 'code' word, met by the world's own term for the bytes: nothing is compared byte by byte -/
theorem code_word {y : MethodName} {bytes : ByteArray} {mx : Nat} {rt : Option FieldType} {a : Array Value} {s : State} {m : MethodId} {meth : Method} {c : Code} (h1 : s.methodNamed? y = some m) (h2 : s.vm.method? m = some meth) (h3 : meth.code = some c) (h4 : c.code = bytes)
    (h5 : (c.maxLocals == mx && c.exceptionTable.isEmpty && decide (c.maxStack ≤ mostOperands) && decide (meth.sig.returnType = rt) && !meth.locks && decide (parseMethodDescriptor y.desc = some meth.sig)) = true) : (Jvm.Cond.code y bytes mx rt).before a s = true := by
  simp only [Bool.and_eq_true, beq_iff_eq, Bool.not_eq_true', decide_eq_true_eq] at h5
  obtain ⟨⟨⟨⟨⟨g1, g2⟩, g3⟩, g4⟩, g5⟩, g6⟩ := h5
  simp [Cond.before, Cond.holds, Cond.value, h1, h2, h3, h4, g1, g2, g3, g4, g5, g6]
def isCode : Jvm.Cond → Bool
  | .code _ _ _ _ => true
  | _ => false
theorem all_split {L : List Jvm.Cond} {P : Jvm.Cond → Bool} (h1 : L.all (fun c => isCode c || P c) = true) (h2 : ∀ c ∈ L.filter isCode, P c = true) : L.all P = true := by
  refine List.all_eq_true.mpr fun c hc => ?_
  have h := List.all_eq_true.mp h1 c hc
  rcases Bool.eq_false_or_eq_true (isCode c) with hi | hi
  · exact h2 c (List.mem_filter.mpr ⟨hc, hi⟩)
  · simpa [hi] using h
set_option maxRecDepth 65536 in
theorem w_c0 : (Jvm.Cond.code x code maxLocals ret).before args0 about1 = true := code_word (m := ⟨1, 3⟩) (meth := k1m3) (c := k1c3) (by decide +kernel) rfl rfl rfl (by decide +kernel)
set_option maxRecDepth 65536 in
theorem w_c1 : (Jvm.Cond.code ({ cls := "com/example/vary5/vary5/DecimalDigitsToLongPinLaw", name := "dig", desc := "(JI)B" } : Jvm.MethodName) method_2_code (3 : Nat) (Option.some Jvm.ClassFile.FieldType.byte)).before args0 about1 = true := code_word (m := ⟨1, 1⟩) (meth := k1m1) (c := k1c1) (by decide +kernel) rfl rfl rfl (by decide +kernel)
set_option maxRecDepth 65536 in
theorem w_c2 : (Jvm.Cond.code ({ cls := "com/example/vary5/vary5/DecimalDigits", name := "toLong", desc := "([BII)J" } : Jvm.MethodName) prog_2_method_7_code (6 : Nat) (Option.some Jvm.ClassFile.FieldType.long)).before args0 about1 = true := code_word (m := ⟨3, 0⟩) (meth := k3m0) (c := k3c0) (by decide +kernel) rfl rfl rfl (by decide +kernel)
set_option maxRecDepth 65536 in
theorem w_c3 : (Jvm.Cond.code ({ cls := "com/example/vary5/vary5/DecimalDigitsToLongPinLaw", name := "pow10", desc := "(I)J" } : Jvm.MethodName) method_3_code (2 : Nat) (Option.some Jvm.ClassFile.FieldType.long)).before args0 about1 = true := code_word (m := ⟨1, 2⟩) (meth := k1m2) (c := k1c2) (by decide +kernel) rfl rfl rfl (by decide +kernel)
def codes1 : List Jvm.Cond := [Jvm.Cond.code x code maxLocals ret, Jvm.Cond.code ({ cls := "com/example/vary5/vary5/DecimalDigitsToLongPinLaw", name := "dig", desc := "(JI)B" } : Jvm.MethodName) method_2_code (3 : Nat) (Option.some Jvm.ClassFile.FieldType.byte), Jvm.Cond.code ({ cls := "com/example/vary5/vary5/DecimalDigits", name := "toLong", desc := "([BII)J" } : Jvm.MethodName) prog_2_method_7_code (6 : Nat) (Option.some Jvm.ClassFile.FieldType.long), Jvm.Cond.code ({ cls := "com/example/vary5/vary5/DecimalDigitsToLongPinLaw", name := "pow10", desc := "(I)J" } : Jvm.MethodName) method_3_code (2 : Nat) (Option.some Jvm.ClassFile.FieldType.long)]
set_option maxRecDepth 65536 in
theorem codes_eq : words1.filter isCode = codes1 := rfl
theorem w_codes : ∀ c ∈ words1.filter isCode, c.before args0 about1 = true := by
  rw [codes_eq]
  intro c hc
  simp only [codes1, List.mem_cons, List.not_mem_nil, or_false] at hc
  rcases hc with rfl | rfl | rfl | rfl
  · exact w_c0
  · exact w_c1
  · exact w_c2
  · exact w_c3
set_option maxRecDepth 65536 in
theorem w_t1 : (words1.take 24).all (fun c => isCode c || c.before args0 about1) = true := by decide +kernel
set_option maxRecDepth 65536 in
theorem w_t2 : (words1.drop 24).all (fun c => isCode c || c.before args0 about1) = true := by decide +kernel
theorem w_tables : (allAtoms (Jvm.Cond.code x code maxLocals ret :: tables_1)).before args0 about1 = true := by
  rw [allAtoms_all]
  show words1.all (fun c => c.before args0 about1) = true
  refine all_split ?_ w_codes
  rw [← List.take_append_drop 24 words1, List.all_append, w_t1, w_t2]
  rfl
set_option maxRecDepth 65536 in
theorem w_case : (Jvm.Cond.and given_1 narrow_1).before args0 about1 = true := by decide +kernel
theorem w_applies : (headSpec (Jvm.Cond.code x code maxLocals ret :: tables_1) room_1).applies x e0.platform about1 = true :=
  (Spec.applies_iff w_frames).mpr ⟨w_running, w_runnable, w_alone, w_named, w_hears, w_ripe, w_room, w_tables⟩
theorem atStart : AtStart classFile x code maxLocals ret World_1 tables_1 room_1 Calls_1 rest_1 Pre_1 launch0 p0 e0 about1 theMethod args0 below0 :=
  ⟨lists_1, trivial, launch0.admits_env _ _ _, launch0.least_env, fairChoices_fair.cas, fairChoices_fair.clock, w_frames, w_args, w_heap, w_applies, trivial, trivial, w_case⟩
end start1
theorem witness_1 : WitnessClaimed_1 := ⟨start1.p0, start1.e0, start1.about1, start1.theMethod, start1.args0, start1.below0, start1.atStart⟩
end Jvm.Pilot.@@N@@
