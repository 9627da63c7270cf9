import JvmDerived
import JvmDerived.Pilot.@@N@@Statement
import JvmDerived.Pilot.@@N@@Code
set_option linter.unusedVariables false
set_option linter.unusedSimpArgs false
namespace Jvm.OwnGo
open Sem ClassFile Op Lib Jvm.Stand Jvm.Free Jvm.LawKit Jvm.RoadKit Jvm.Free.Fl
/-- from S the run comes to an end of which P speaks -/
def Go (p : Program) (e : Env) (below : List Frame) (P : Outcome → State → Prop) (S : State) : Prop := ∃ s₂ o, Steps p.tables e below S s₂ ∧ s₂.status = .running ∧ Ended s₂ below o ∧ P o s₂
/-- what a body's end says -/
def EndsAt (s : State) (Q : Option Value → Heap → List Loc → Prop) (rm : Room) : Outcome → State → Prop := fun o U' => ∃ v L, o = .returned v ∧ Q v U'.heap L ∧ FrameEnd s o U' L rm.cells rm.slots
/-- a body's contract -/
def Ct (l : Launch) (Z : State) (y : MethodName) (bytes : ByteArray) (ml : Nat) (ret : Option FieldType) (ws : List Jvm.Cond) (rm : Room) (as : Array Value) (h0 : Heap) (Q : Option Value → Heap → List Loc → Prop) : Prop :=
  MetFree l y (head1 (Jvm.Cond.code y bytes ml ret :: ws) rm) (fun a U => a = as ∧ Z.Warmed39 U.vm ∧ U.heap = h0) (fun _ _ _ _ _ => True) (fun _ U o U' => EndsAt U Q rm o U')
section Steps1
variable {p : Program} {l : Launch} {e : Env} {R : Room} {s : State} {m : MethodId} {args : Array Value} {below : List Frame} {meth : Method} {c : Code} {T : State} {locs : List Loc} {cells slots : Nat} {P : Outcome → State → Prop} {pc : Nat} {L L' : Array Slot} {st : List Value} {Z : State} {h h' : Heap} {a0 : Array Value} {rm : Room} {Q : Option Value → Heap → List Loc → Prop}
theorem Go.via {S S' : State} (k : ∀ t, Steps p.tables e below S' t → Steps p.tables e below S t) (g : Go p e below P S') : Go p e below P S := by
  obtain ⟨s2, o, h1, h2⟩ := g; exact ⟨s2, o, k _ h1, h2⟩
theorem Go.tr {S S' : State} (k : Steps p.tables e below S S') (g : Go p e below P S') : Go p e below P S := by
  obtain ⟨s2, o, h1, h2⟩ := g; exact ⟨s2, o, k.trans h1, h2⟩
theorem Ct.intro {y : MethodName} {bytes : ByteArray} {ml : Nat} {ret : Option FieldType} {ws : List Jvm.Cond} {as : Array Value} {h0 : Heap} (hpn : plainFor y = true) (L0 : Array Slot) (hef : ∀ m, entryFrame m as ml = mkF m 0 L0 [])
    (k : ∀ (p : Program) (e : Env) (s : State) (m : MethodId) (below : List Frame) (meth : Method) (c : Code) (T : State), Stand p l e rm s m as below meth c T [] 0 0 → p.tables.exec = Jvm.exec → Z.Warmed39 s.vm → c.code = bytes → c.maxLocals = ml → s.vm.findClass y.cls = some m.cls → meth.name = y.name → meth.sig.returnType = ret → meth.locks = false → T.heap = h0 → Go p e below (EndsAt s Q rm) (T.setTop (mkF m 0 L0 []))) :
    Ct l Z y bytes ml ret ws rm as h0 Q := by
  refine MetFree.of_bodySF hpn hisR ?_
  intro p e s m args below meth c s₁ Bd hml0 hP hK
  obtain ⟨rfl, hZ, hh⟩ := hP
  obtain ⟨s2, o, h1, h2, h3, h4⟩ := k p e s m below meth c s₁ (Stand.of_body Bd) Bd.exec hZ Bd.bytes hml0 (findClass_of_methodNamed Bd.named) (name_of_methodNamed Bd.named Bd.method).1 Bd.returns (BodyLoose.notSynchronized Bd) (by rw [← hh, Bd.state]; rfl)
  exact ⟨s2, o, castTop (hef m) h1, h2, h3, h4⟩
theorem retW (X : Stand p l e R s m args below meth c T locs cells slots) (hx : p.tables.exec = Jvm.exec) (hlk : meth.locks = false) {w : Value} {t : FieldType} {i : Instr} {rest : List Value} (hret : meth.sig.returnType = some t) (hn : narrow t w = w)
    (hi : (i = .ireturn ∧ (t = .int ∨ t = .boolean ∨ t = .byte ∨ t = .char ∨ t = .short) ∧ ∃ z, w = .int z) ∨ (i = .lreturn ∧ t = .long ∧ ∃ z, w = .long z) ∨ (i = .dreturn ∧ t = .double ∧ ∃ z, w = .double z) ∨ (i = .freturn ∧ t = .float ∧ ∃ z, w = .float z) ∨ (i = .areturn ∧ t.isReference = true ∧ w.isRef = true))
    (hd : decode c.code pc = .ok (i, 1)) (eT : T.heap = h) (hq : Q (some w) h locs) (hc : cells ≤ rm.cells) (hs : slots ≤ rm.slots) : Go p e below (EndsAt s Q rm) (T.setTop (mkF m pc L (w :: rest))) := by
  obtain ⟨fs, hr, hrun, hended, hW, hsame⟩ := X.leave (v := some w) (fun q => by rw [hret] at q; cases q) hlk
  refine ⟨_, _, retOut X hx hret hn hi hd hr, hrun, hended, _, _, rfl, ?_, ⟨_, rfl⟩, hW, hsame.mono hc hs⟩
  show Q (some w) T.heap locs
  rw [eT]; exact hq
theorem retI (X : Stand p l e R s m args below meth c T locs cells slots) (hx : p.tables.exec = Jvm.exec) (hlk : meth.locks = false) {z : Int32} {rest : List Value} (hret : meth.sig.returnType = some .int) (hd : decode c.code pc = .ok (.ireturn, 1)) (eT : T.heap = h) (hq : Q (some (.int z)) h locs) (hc : cells ≤ rm.cells) (hs : slots ≤ rm.slots) : Go p e below (EndsAt s Q rm) (T.setTop (mkF m pc L (.int z :: rest))) :=
  retW X hx hlk hret rfl (Or.inl ⟨rfl, Or.inl rfl, z, rfl⟩) hd eT hq hc hs
theorem retZ (X : Stand p l e R s m args below meth c T locs cells slots) (hx : p.tables.exec = Jvm.exec) (hlk : meth.locks = false) {z : Int32} {rest : List Value} (hret : meth.sig.returnType = some .boolean) (hd : decode c.code pc = .ok (.ireturn, 1)) (hn : narrow .boolean (.int z) = .int z) (eT : T.heap = h) (hq : Q (some (.int z)) h locs) (hc : cells ≤ rm.cells) (hs : slots ≤ rm.slots) : Go p e below (EndsAt s Q rm) (T.setTop (mkF m pc L (.int z :: rest))) :=
  retW X hx hlk hret hn (Or.inl ⟨rfl, Or.inr (Or.inl rfl), z, rfl⟩) hd eT hq hc hs
theorem retJ (X : Stand p l e R s m args below meth c T locs cells slots) (hx : p.tables.exec = Jvm.exec) (hlk : meth.locks = false) {z : Int64} {rest : List Value} (hret : meth.sig.returnType = some .long) (hd : decode c.code pc = .ok (.lreturn, 1)) (eT : T.heap = h) (hq : Q (some (.long z)) h locs) (hc : cells ≤ rm.cells) (hs : slots ≤ rm.slots) : Go p e below (EndsAt s Q rm) (T.setTop (mkF m pc L (.long z :: rest))) :=
  retW X hx hlk hret rfl (Or.inr (Or.inl ⟨rfl, rfl, z, rfl⟩)) hd eT hq hc hs
theorem retD (X : Stand p l e R s m args below meth c T locs cells slots) (hx : p.tables.exec = Jvm.exec) (hlk : meth.locks = false) {z : UInt64} {rest : List Value} (hret : meth.sig.returnType = some .double) (hd : decode c.code pc = .ok (.dreturn, 1)) (eT : T.heap = h) (hq : Q (some (.double z)) h locs) (hc : cells ≤ rm.cells) (hs : slots ≤ rm.slots) : Go p e below (EndsAt s Q rm) (T.setTop (mkF m pc L (.double z :: rest))) :=
  retW X hx hlk hret rfl (Or.inr (Or.inr (Or.inl ⟨rfl, rfl, z, rfl⟩))) hd eT hq hc hs
theorem retA (X : Stand p l e R s m args below meth c T locs cells slots) (hx : p.tables.exec = Jvm.exec) (hlk : meth.locks = false) {t : FieldType} {z : Addr} {rest : List Value} (hret : meth.sig.returnType = some t) (ht : t.isReference = true) (hn : narrow t (.ref z) = .ref z) (hd : decode c.code pc = .ok (.areturn, 1)) (eT : T.heap = h) (hq : Q (some (.ref z)) h locs) (hc : cells ≤ rm.cells) (hs : slots ≤ rm.slots) : Go p e below (EndsAt s Q rm) (T.setTop (mkF m pc L (.ref z :: rest))) :=
  retW X hx hlk hret hn (Or.inr (Or.inr (Or.inr (Or.inr ⟨rfl, ht, rfl⟩)))) hd eT hq hc hs
theorem retV (X : Stand p l e R s m args below meth c T locs cells slots) (hx : p.tables.exec = Jvm.exec) (hlk : meth.locks = false) (hret : meth.sig.returnType = none) (hd : decode c.code pc = .ok (.return_, 1)) (eT : T.heap = h) (hq : Q none h locs) (hc : cells ≤ rm.cells) (hs : slots ≤ rm.slots) : Go p e below (EndsAt s Q rm) (T.setTop (mkF m pc L [])) := by
  obtain ⟨fs, hr, hrun, hended, hW, hsame⟩ := X.leave (v := none) (fun _ => rfl) hlk
  refine ⟨_, _, X.returnOut hx hret hd hr, hrun, hended, _, _, rfl, ?_, ⟨_, rfl⟩, hW, hsame.mono hc hs⟩
  show Q none T.heap locs
  rw [eT]; exact hq
theorem s_iload (X : Stand p l e R s m args below meth c T locs cells slots) (hx : p.tables.exec = Jvm.exec) {k : Nat} {v : Int32} (hd : decode c.code pc = .ok (.iload k, 2)) (hl : L[k]? = some (.val (.int v))) (pc' : Nat) (hp : pc + 2 = pc') (g : Go p e below P (T.setTop (mkF m pc' L (.int v :: st)))) : Go p e below P (T.setTop (mkF m pc L (st))) := by
  subst hp; exact Go.via (fun _ k => XS.iload X.here hx rfl hd hl k) g
theorem s_iloadN (X : Stand p l e R s m args below meth c T locs cells slots) (hx : p.tables.exec = Jvm.exec) {k : Fin 4} {v : Int32} (hd : decode c.code pc = .ok (.iload_n k, 1)) (hl : L[k.val]? = some (.val (.int v))) (pc' : Nat) (hp : pc + 1 = pc') (g : Go p e below P (T.setTop (mkF m pc' L (.int v :: st)))) : Go p e below P (T.setTop (mkF m pc L (st))) := by
  subst hp; exact Go.via (fun _ k => XS.iloadN X.here hx rfl hd hl k) g
theorem s_istore (X : Stand p l e R s m args below meth c T locs cells slots) (hx : p.tables.exec = Jvm.exec) {k : Nat} {v : Int32} (hd : decode c.code pc = .ok (.istore k, 2)) (L' : Array Slot) (hl : storeLocals L k (.int v) = some L') (pc' : Nat) (hp : pc + 2 = pc') (g : Go p e below P (T.setTop (mkF m pc' L' (st)))) : Go p e below P (T.setTop (mkF m pc L (.int v :: st))) := by
  subst hp; exact Go.via (fun _ k => XS.istore X.here hx rfl hd rfl hl k) g
theorem s_istoreN (X : Stand p l e R s m args below meth c T locs cells slots) (hx : p.tables.exec = Jvm.exec) {k : Fin 4} {v : Int32} (hd : decode c.code pc = .ok (.istore_n k, 1)) (L' : Array Slot) (hl : storeLocals L k.val (.int v) = some L') (pc' : Nat) (hp : pc + 1 = pc') (g : Go p e below P (T.setTop (mkF m pc' L' (st)))) : Go p e below P (T.setTop (mkF m pc L (.int v :: st))) := by
  subst hp; exact Go.via (fun _ k => XS.istoreN X.here hx rfl hd rfl hl k) g
theorem s_lload (X : Stand p l e R s m args below meth c T locs cells slots) (hx : p.tables.exec = Jvm.exec) {k : Nat} {v : Int64} (hd : decode c.code pc = .ok (.lload k, 2)) (hl : L[k]? = some (.val (.long v))) (pc' : Nat) (hp : pc + 2 = pc') (g : Go p e below P (T.setTop (mkF m pc' L (.long v :: st)))) : Go p e below P (T.setTop (mkF m pc L (st))) := by
  subst hp; exact Go.via (fun _ k => XT.lload X.here hx rfl hd hl k) g
theorem s_lloadN (X : Stand p l e R s m args below meth c T locs cells slots) (hx : p.tables.exec = Jvm.exec) {k : Fin 4} {v : Int64} (hd : decode c.code pc = .ok (.lload_n k, 1)) (hl : L[k.val]? = some (.val (.long v))) (pc' : Nat) (hp : pc + 1 = pc') (g : Go p e below P (T.setTop (mkF m pc' L (.long v :: st)))) : Go p e below P (T.setTop (mkF m pc L (st))) := by
  subst hp; exact Go.via (fun _ k => XT.lloadN X.here hx rfl hd hl k) g
theorem s_lstore (X : Stand p l e R s m args below meth c T locs cells slots) (hx : p.tables.exec = Jvm.exec) {k : Nat} {v : Int64} (hd : decode c.code pc = .ok (.lstore k, 2)) (L' : Array Slot) (hl : storeLocals L k (.long v) = some L') (pc' : Nat) (hp : pc + 2 = pc') (g : Go p e below P (T.setTop (mkF m pc' L' (st)))) : Go p e below P (T.setTop (mkF m pc L (.long v :: st))) := by
  subst hp; exact Go.via (fun _ k => XT.lstore X.here hx rfl hd rfl hl k) g
theorem s_lstoreN (X : Stand p l e R s m args below meth c T locs cells slots) (hx : p.tables.exec = Jvm.exec) {k : Fin 4} {v : Int64} (hd : decode c.code pc = .ok (.lstore_n k, 1)) (L' : Array Slot) (hl : storeLocals L k.val (.long v) = some L') (pc' : Nat) (hp : pc + 1 = pc') (g : Go p e below P (T.setTop (mkF m pc' L' (st)))) : Go p e below P (T.setTop (mkF m pc L (.long v :: st))) := by
  subst hp; exact Go.via (fun _ k => XT.lstoreN X.here hx rfl hd rfl hl k) g
theorem s_dload (X : Stand p l e R s m args below meth c T locs cells slots) (hx : p.tables.exec = Jvm.exec) {k : Nat} {v : UInt64} (hd : decode c.code pc = .ok (.dload k, 2)) (hl : L[k]? = some (.val (.double v))) (pc' : Nat) (hp : pc + 2 = pc') (g : Go p e below P (T.setTop (mkF m pc' L (.double v :: st)))) : Go p e below P (T.setTop (mkF m pc L (st))) := by
  subst hp; exact Go.via (fun _ k => XS.dload X.here hx rfl hd hl k) g
theorem s_dloadN (X : Stand p l e R s m args below meth c T locs cells slots) (hx : p.tables.exec = Jvm.exec) {k : Fin 4} {v : UInt64} (hd : decode c.code pc = .ok (.dload_n k, 1)) (hl : L[k.val]? = some (.val (.double v))) (pc' : Nat) (hp : pc + 1 = pc') (g : Go p e below P (T.setTop (mkF m pc' L (.double v :: st)))) : Go p e below P (T.setTop (mkF m pc L (st))) := by
  subst hp; exact Go.via (fun _ k => XS.dloadN X.here hx rfl hd hl k) g
theorem s_dstore (X : Stand p l e R s m args below meth c T locs cells slots) (hx : p.tables.exec = Jvm.exec) {k : Nat} {v : UInt64} (hd : decode c.code pc = .ok (.dstore k, 2)) (L' : Array Slot) (hl : storeLocals L k (.double v) = some L') (pc' : Nat) (hp : pc + 2 = pc') (g : Go p e below P (T.setTop (mkF m pc' L' (st)))) : Go p e below P (T.setTop (mkF m pc L (.double v :: st))) := by
  subst hp; exact Go.via (fun _ k => XS.dstore X.here hx rfl hd rfl hl k) g
theorem s_dstoreN (X : Stand p l e R s m args below meth c T locs cells slots) (hx : p.tables.exec = Jvm.exec) {k : Fin 4} {v : UInt64} (hd : decode c.code pc = .ok (.dstore_n k, 1)) (L' : Array Slot) (hl : storeLocals L k.val (.double v) = some L') (pc' : Nat) (hp : pc + 1 = pc') (g : Go p e below P (T.setTop (mkF m pc' L' (st)))) : Go p e below P (T.setTop (mkF m pc L (.double v :: st))) := by
  subst hp; exact Go.via (fun _ k => XS.dstoreN X.here hx rfl hd rfl hl k) g
theorem s_aload (X : Stand p l e R s m args below meth c T locs cells slots) (hx : p.tables.exec = Jvm.exec) {k : Nat} {v : Value} (hd : decode c.code pc = .ok (.aload k, 2)) (hl : L[k]? = some (.val v)) (hv : v.isRef = true) (pc' : Nat) (hp : pc + 2 = pc') (g : Go p e below P (T.setTop (mkF m pc' L (v :: st)))) : Go p e below P (T.setTop (mkF m pc L (st))) := by
  subst hp; exact Go.via (fun _ k => XS.aload X.here hx rfl hd hl hv k) g
theorem s_aloadN (X : Stand p l e R s m args below meth c T locs cells slots) (hx : p.tables.exec = Jvm.exec) {k : Fin 4} {v : Value} (hd : decode c.code pc = .ok (.aload_n k, 1)) (hl : L[k.val]? = some (.val v)) (hv : v.isRef = true) (pc' : Nat) (hp : pc + 1 = pc') (g : Go p e below P (T.setTop (mkF m pc' L (v :: st)))) : Go p e below P (T.setTop (mkF m pc L (st))) := by
  subst hp; exact Go.via (fun _ k => XS.aloadN X.here hx rfl hd hl hv k) g
theorem s_astore (X : Stand p l e R s m args below meth c T locs cells slots) (hx : p.tables.exec = Jvm.exec) {k : Nat} {v : Value} (hd : decode c.code pc = .ok (.astore k, 2)) (hv : v.isRef = true) (L' : Array Slot) (hl : storeLocals L k v = some L') (pc' : Nat) (hp : pc + 2 = pc') (g : Go p e below P (T.setTop (mkF m pc' L' (st)))) : Go p e below P (T.setTop (mkF m pc L (v :: st))) := by
  subst hp; exact Go.via (fun _ k => XS.astore X.here hx rfl hd rfl hv hl k) g
theorem s_astoreN (X : Stand p l e R s m args below meth c T locs cells slots) (hx : p.tables.exec = Jvm.exec) {k : Fin 4} {v : Value} (hd : decode c.code pc = .ok (.astore_n k, 1)) (hv : v.isRef = true) (L' : Array Slot) (hl : storeLocals L k.val v = some L') (pc' : Nat) (hp : pc + 1 = pc') (g : Go p e below P (T.setTop (mkF m pc' L' (st)))) : Go p e below P (T.setTop (mkF m pc L (v :: st))) := by
  subst hp; exact Go.via (fun _ k => XS.astoreN X.here hx rfl hd rfl hv hl k) g
theorem s_iconst (X : Stand p l e R s m args below meth c T locs cells slots) (hx : p.tables.exec = Jvm.exec) {i : Int} (hd : decode c.code pc = .ok (.iconst i, 1)) (v : Int32) (hv : Int32.ofInt i = v) (pc' : Nat) (hp : pc + 1 = pc') (g : Go p e below P (T.setTop (mkF m pc' L (.int v :: st)))) : Go p e below P (T.setTop (mkF m pc L (st))) := by
  subst hp hv; exact Go.via (fun _ k => XS.iconst X.here hx rfl hd k) g
theorem s_bipush (X : Stand p l e R s m args below meth c T locs cells slots) (hx : p.tables.exec = Jvm.exec) {i : Int} (hd : decode c.code pc = .ok (.bipush i, 2)) (v : Int32) (hv : (Int8.ofInt i).toInt32 = v) (pc' : Nat) (hp : pc + 2 = pc') (g : Go p e below P (T.setTop (mkF m pc' L (.int v :: st)))) : Go p e below P (T.setTop (mkF m pc L (st))) := by
  subst hp hv; exact Go.via (fun _ k => XS.bipush X.here hx rfl hd k) g
theorem s_sipush (X : Stand p l e R s m args below meth c T locs cells slots) (hx : p.tables.exec = Jvm.exec) {i : Int} (hd : decode c.code pc = .ok (.sipush i, 3)) (v : Int32) (hv : (Int16.ofInt i).toInt32 = v) (pc' : Nat) (hp : pc + 3 = pc') (g : Go p e below P (T.setTop (mkF m pc' L (.int v :: st)))) : Go p e below P (T.setTop (mkF m pc L (st))) := by
  subst hp hv; exact Go.via (fun _ k => XS.sipush X.here hx rfl hd k) g
theorem s_lconst (X : Stand p l e R s m args below meth c T locs cells slots) (hx : p.tables.exec = Jvm.exec) {i : Fin 2} (hd : decode c.code pc = .ok (.lconst i, 1)) (v : Int64) (hv : Int64.ofNat i = v) (pc' : Nat) (hp : pc + 1 = pc') (g : Go p e below P (T.setTop (mkF m pc' L (.long v :: st)))) : Go p e below P (T.setTop (mkF m pc L (st))) := by
  subst hp; exact Go.via (fun _ k => XT.lconstV X.here hx rfl v hd hv k) g
theorem s_null (X : Stand p l e R s m args below meth c T locs cells slots) (hx : p.tables.exec = Jvm.exec)  (hd : decode c.code pc = .ok (.aconst_null, 1))  (pc' : Nat) (hp : pc + 1 = pc') (g : Go p e below P (T.setTop (mkF m pc' L (.null :: st)))) : Go p e below P (T.setTop (mkF m pc L (st))) := by
  subst hp; exact Go.via (fun _ k => XS.aconstNull X.here hx rfl hd k) g
theorem s_dconst0 (X : Stand p l e R s m args below meth c T locs cells slots) (hx : p.tables.exec = Jvm.exec)  (hd : decode c.code pc = .ok (.dconst 0, 1)) (v : UInt64) (hv : FP.dconst0 = v) (pc' : Nat) (hp : pc + 1 = pc') (g : Go p e below P (T.setTop (mkF m pc' L (.double v :: st)))) : Go p e below P (T.setTop (mkF m pc L (st))) := by
  subst hp; exact Go.via (fun _ k => XS.dconst0 X.here hx rfl hd hv k) g
theorem s_dconst1 (X : Stand p l e R s m args below meth c T locs cells slots) (hx : p.tables.exec = Jvm.exec)  (hd : decode c.code pc = .ok (.dconst 1, 1)) (v : UInt64) (hv : FP.dconst1 = v) (pc' : Nat) (hp : pc + 1 = pc') (g : Go p e below P (T.setTop (mkF m pc' L (.double v :: st)))) : Go p e below P (T.setTop (mkF m pc L (st))) := by
  subst hp; exact Go.via (fun _ k => XS.dconst1 X.here hx rfl hd hv k) g
theorem s_ldcI (X : Stand p l e R s m args below meth c T locs cells slots) (hx : p.tables.exec = Jvm.exec) {i : Nat} {v : Int32} (hd : decode c.code pc = .ok (.ldc i, 2)) (hZ : Z.Warmed39 s.vm) {own : String} (hown : s.vm.findClass own = some m.cls) (w : (Cond.constant own i v).before a0 Z = true) (pc' : Nat) (hp : pc + 2 = pc') (g : Go p e below P (T.setTop (mkF m pc' L (.int v :: st)))) : Go p e below P (T.setTop (mkF m pc L (st))) := by
  subst hp; exact Go.via (fun _ k => X.ldcI hx hown (mvT hZ w) rfl hd k) g
theorem s_ldc2J (X : Stand p l e R s m args below meth c T locs cells slots) (hx : p.tables.exec = Jvm.exec) {i : Nat} {v : Int64} (hd : decode c.code pc = .ok (.ldc2_w i, 3)) (hZ : Z.Warmed39 s.vm) {own : String} (hown : s.vm.findClass own = some m.cls) (w : (Cond.constantLong own i v).before a0 Z = true) (pc' : Nat) (hp : pc + 3 = pc') (g : Go p e below P (T.setTop (mkF m pc' L (.long v :: st)))) : Go p e below P (T.setTop (mkF m pc L (st))) := by
  subst hp; exact Go.via (fun _ k => X.ldc2J hx hown (mvT hZ w) rfl hd k) g
theorem s_ldc2D (X : Stand p l e R s m args below meth c T locs cells slots) (hx : p.tables.exec = Jvm.exec) {i : Nat} {v : UInt64} (hd : decode c.code pc = .ok (.ldc2_w i, 3)) (hZ : Z.Warmed39 s.vm) {own : String} (hown : s.vm.findClass own = some m.cls) (w : (Cond.constantDouble own i v).before a0 Z = true) (pc' : Nat) (hp : pc + 3 = pc') (g : Go p e below P (T.setTop (mkF m pc' L (.double v :: st)))) : Go p e below P (T.setTop (mkF m pc L (st))) := by
  subst hp; exact Go.via (fun _ k => X.ldc2DoubleC hx hown (mvT hZ w) (g := mkF m pc L st) rfl hd _ k) g
theorem s_iadd (X : Stand p l e R s m args below meth c T locs cells slots) (hx : p.tables.exec = Jvm.exec) {x y : Int32} (hd : decode c.code pc = .ok (.iadd, 1)) (v : Int32) (hv : x + y = v) (pc' : Nat) (hp : pc + 1 = pc') (g : Go p e below P (T.setTop (mkF m pc' L (.int v :: st)))) : Go p e below P (T.setTop (mkF m pc L (.int y :: .int x :: st))) := by
  subst hp hv; exact Go.via (fun _ k => XS.iadd X.here hx rfl hd rfl k) g
theorem s_isub (X : Stand p l e R s m args below meth c T locs cells slots) (hx : p.tables.exec = Jvm.exec) {x y : Int32} (hd : decode c.code pc = .ok (.isub, 1)) (v : Int32) (hv : x - y = v) (pc' : Nat) (hp : pc + 1 = pc') (g : Go p e below P (T.setTop (mkF m pc' L (.int v :: st)))) : Go p e below P (T.setTop (mkF m pc L (.int y :: .int x :: st))) := by
  subst hp hv; exact Go.via (fun _ k => XS.isub X.here hx rfl hd rfl k) g
theorem s_imul (X : Stand p l e R s m args below meth c T locs cells slots) (hx : p.tables.exec = Jvm.exec) {x y : Int32} (hd : decode c.code pc = .ok (.imul, 1)) (v : Int32) (hv : x * y = v) (pc' : Nat) (hp : pc + 1 = pc') (g : Go p e below P (T.setTop (mkF m pc' L (.int v :: st)))) : Go p e below P (T.setTop (mkF m pc L (.int y :: .int x :: st))) := by
  subst hp hv; exact Go.via (fun _ k => XS.imul X.here hx rfl hd rfl k) g
theorem s_iand (X : Stand p l e R s m args below meth c T locs cells slots) (hx : p.tables.exec = Jvm.exec) {x y : Int32} (hd : decode c.code pc = .ok (.iand, 1)) (v : Int32) (hv : x &&& y = v) (pc' : Nat) (hp : pc + 1 = pc') (g : Go p e below P (T.setTop (mkF m pc' L (.int v :: st)))) : Go p e below P (T.setTop (mkF m pc L (.int y :: .int x :: st))) := by
  subst hp hv; exact Go.via (fun _ k => XS.iand X.here hx rfl hd rfl k) g
theorem s_ixor (X : Stand p l e R s m args below meth c T locs cells slots) (hx : p.tables.exec = Jvm.exec) {x y : Int32} (hd : decode c.code pc = .ok (.ixor, 1)) (v : Int32) (hv : x ^^^ y = v) (pc' : Nat) (hp : pc + 1 = pc') (g : Go p e below P (T.setTop (mkF m pc' L (.int v :: st)))) : Go p e below P (T.setTop (mkF m pc L (.int y :: .int x :: st))) := by
  subst hp hv; exact Go.via (fun _ k => XT.ixor X.here hx rfl hd rfl k) g
theorem s_ior (X : Stand p l e R s m args below meth c T locs cells slots) (hx : p.tables.exec = Jvm.exec) {x y : Int32} (hd : decode c.code pc = .ok (.ior, 1)) (v : Int32) (hv : x ||| y = v) (pc' : Nat) (hp : pc + 1 = pc') (g : Go p e below P (T.setTop (mkF m pc' L (.int v :: st)))) : Go p e below P (T.setTop (mkF m pc L (.int y :: .int x :: st))) := by
  subst hp hv; exact Go.via (fun _ k => XT.ior X.here hx rfl hd rfl k) g
theorem s_ishl (X : Stand p l e R s m args below meth c T locs cells slots) (hx : p.tables.exec = Jvm.exec) {x y : Int32} (hd : decode c.code pc = .ok (.ishl, 1)) (v : Int32) (hv : x <<< (y &&& 31) = v) (pc' : Nat) (hp : pc + 1 = pc') (g : Go p e below P (T.setTop (mkF m pc' L (.int v :: st)))) : Go p e below P (T.setTop (mkF m pc L (.int y :: .int x :: st))) := by
  subst hp hv; exact Go.via (fun _ k => XT.ishl X.here hx rfl hd rfl k) g
theorem s_ishr (X : Stand p l e R s m args below meth c T locs cells slots) (hx : p.tables.exec = Jvm.exec) {x y : Int32} (hd : decode c.code pc = .ok (.ishr, 1)) (v : Int32) (hv : x >>> (y &&& 31) = v) (pc' : Nat) (hp : pc + 1 = pc') (g : Go p e below P (T.setTop (mkF m pc' L (.int v :: st)))) : Go p e below P (T.setTop (mkF m pc L (.int y :: .int x :: st))) := by
  subst hp hv; exact Go.via (fun _ k => XT.ishr X.here hx rfl hd rfl k) g
theorem s_iushr (X : Stand p l e R s m args below meth c T locs cells slots) (hx : p.tables.exec = Jvm.exec) {x y : Int32} (hd : decode c.code pc = .ok (.iushr, 1)) (v : Int32) (hv : XT.ushr x y = v) (pc' : Nat) (hp : pc + 1 = pc') (g : Go p e below P (T.setTop (mkF m pc' L (.int v :: st)))) : Go p e below P (T.setTop (mkF m pc L (.int y :: .int x :: st))) := by
  subst hp hv; exact Go.via (fun _ k => XT.iushr X.here hx rfl hd rfl k) g
theorem s_idiv (X : Stand p l e R s m args below meth c T locs cells slots) (hx : p.tables.exec = Jvm.exec) {x y : Int32} (hd : decode c.code pc = .ok (.idiv, 1)) (hy : y ≠ 0) (v : Int32) (hv : x / y = v) (pc' : Nat) (hp : pc + 1 = pc') (g : Go p e below P (T.setTop (mkF m pc' L (.int v :: st)))) : Go p e below P (T.setTop (mkF m pc L (.int y :: .int x :: st))) := by
  subst hp hv; exact Go.via (fun _ k => XS.idiv X.here hx rfl hd rfl hy k) g
theorem s_irem (X : Stand p l e R s m args below meth c T locs cells slots) (hx : p.tables.exec = Jvm.exec) {x y : Int32} (hd : decode c.code pc = .ok (.irem, 1)) (hy : y ≠ 0) (v : Int32) (hv : x % y = v) (pc' : Nat) (hp : pc + 1 = pc') (g : Go p e below P (T.setTop (mkF m pc' L (.int v :: st)))) : Go p e below P (T.setTop (mkF m pc L (.int y :: .int x :: st))) := by
  subst hp hv; exact Go.via (fun _ k => RoadKit.iremM X hx rfl hd rfl hy k) g
theorem s_ineg (X : Stand p l e R s m args below meth c T locs cells slots) (hx : p.tables.exec = Jvm.exec) {x : Int32} (hd : decode c.code pc = .ok (.ineg, 1)) (v : Int32) (hv : -x = v) (pc' : Nat) (hp : pc + 1 = pc') (g : Go p e below P (T.setTop (mkF m pc' L (.int v :: st)))) : Go p e below P (T.setTop (mkF m pc L (.int x :: st))) := by
  subst hp hv; exact Go.via (fun _ k => XS.ineg X.here hx rfl hd rfl k) g
theorem s_ladd (X : Stand p l e R s m args below meth c T locs cells slots) (hx : p.tables.exec = Jvm.exec) {x y : Int64} (hd : decode c.code pc = .ok (.ladd, 1)) (v : Int64) (hv : x + y = v) (pc' : Nat) (hp : pc + 1 = pc') (g : Go p e below P (T.setTop (mkF m pc' L (.long v :: st)))) : Go p e below P (T.setTop (mkF m pc L (.long y :: .long x :: st))) := by
  subst hp hv; exact Go.via (fun _ k => XT.ladd X.here hx rfl hd rfl k) g
theorem s_lsub (X : Stand p l e R s m args below meth c T locs cells slots) (hx : p.tables.exec = Jvm.exec) {x y : Int64} (hd : decode c.code pc = .ok (.lsub, 1)) (v : Int64) (hv : x - y = v) (pc' : Nat) (hp : pc + 1 = pc') (g : Go p e below P (T.setTop (mkF m pc' L (.long v :: st)))) : Go p e below P (T.setTop (mkF m pc L (.long y :: .long x :: st))) := by
  subst hp hv; exact Go.via (fun _ k => XT.lsub X.here hx rfl hd rfl k) g
theorem s_lmul (X : Stand p l e R s m args below meth c T locs cells slots) (hx : p.tables.exec = Jvm.exec) {x y : Int64} (hd : decode c.code pc = .ok (.lmul, 1)) (v : Int64) (hv : x * y = v) (pc' : Nat) (hp : pc + 1 = pc') (g : Go p e below P (T.setTop (mkF m pc' L (.long v :: st)))) : Go p e below P (T.setTop (mkF m pc L (.long y :: .long x :: st))) := by
  subst hp hv; exact Go.via (fun _ k => XT.lmul X.here hx rfl hd rfl k) g
theorem s_land (X : Stand p l e R s m args below meth c T locs cells slots) (hx : p.tables.exec = Jvm.exec) {x y : Int64} (hd : decode c.code pc = .ok (.land, 1)) (v : Int64) (hv : x &&& y = v) (pc' : Nat) (hp : pc + 1 = pc') (g : Go p e below P (T.setTop (mkF m pc' L (.long v :: st)))) : Go p e below P (T.setTop (mkF m pc L (.long y :: .long x :: st))) := by
  subst hp hv; exact Go.via (fun _ k => XT.land X.here hx rfl hd rfl k) g
theorem s_lor (X : Stand p l e R s m args below meth c T locs cells slots) (hx : p.tables.exec = Jvm.exec) {x y : Int64} (hd : decode c.code pc = .ok (.lor, 1)) (v : Int64) (hv : x ||| y = v) (pc' : Nat) (hp : pc + 1 = pc') (g : Go p e below P (T.setTop (mkF m pc' L (.long v :: st)))) : Go p e below P (T.setTop (mkF m pc L (.long y :: .long x :: st))) := by
  subst hp hv; exact Go.via (fun _ k => XT.lor X.here hx rfl hd rfl k) g
theorem s_lxor (X : Stand p l e R s m args below meth c T locs cells slots) (hx : p.tables.exec = Jvm.exec) {x y : Int64} (hd : decode c.code pc = .ok (.lxor, 1)) (v : Int64) (hv : x ^^^ y = v) (pc' : Nat) (hp : pc + 1 = pc') (g : Go p e below P (T.setTop (mkF m pc' L (.long v :: st)))) : Go p e below P (T.setTop (mkF m pc L (.long y :: .long x :: st))) := by
  subst hp hv; exact Go.via (fun _ k => XT.lxor X.here hx rfl hd rfl k) g
theorem s_ldiv (X : Stand p l e R s m args below meth c T locs cells slots) (hx : p.tables.exec = Jvm.exec) {x y : Int64} (hd : decode c.code pc = .ok (.ldiv, 1)) (hy : y ≠ 0) (v : Int64) (hv : x / y = v) (pc' : Nat) (hp : pc + 1 = pc') (g : Go p e below P (T.setTop (mkF m pc' L (.long v :: st)))) : Go p e below P (T.setTop (mkF m pc L (.long y :: .long x :: st))) := by
  subst hp hv; exact Go.via (fun _ k => XT.ldiv X.here hx rfl hd rfl hy k) g
theorem s_lrem (X : Stand p l e R s m args below meth c T locs cells slots) (hx : p.tables.exec = Jvm.exec) {x y : Int64} (hd : decode c.code pc = .ok (.lrem, 1)) (hy : y ≠ 0) (v : Int64) (hv : x - (x / y) * y = v) (pc' : Nat) (hp : pc + 1 = pc') (g : Go p e below P (T.setTop (mkF m pc' L (.long v :: st)))) : Go p e below P (T.setTop (mkF m pc L (.long y :: .long x :: st))) := by
  subst hp hv; exact Go.via (fun _ k => XT.lrem X.here hx rfl hd rfl hy k) g
theorem s_lneg (X : Stand p l e R s m args below meth c T locs cells slots) (hx : p.tables.exec = Jvm.exec) {x : Int64} (hd : decode c.code pc = .ok (.lneg, 1)) (v : Int64) (hv : -x = v) (pc' : Nat) (hp : pc + 1 = pc') (g : Go p e below P (T.setTop (mkF m pc' L (.long v :: st)))) : Go p e below P (T.setTop (mkF m pc L (.long x :: st))) := by
  subst hp hv; exact Go.via (fun _ k => XT.lneg X.here hx rfl hd rfl k) g
theorem sh64 (y : Int32) : (y.toInt64 &&& 63) = (y &&& 0x3f).toInt64 := by rw [Int32.toInt64_and]; rfl
theorem s_lshl (X : Stand p l e R s m args below meth c T locs cells slots) (hx : p.tables.exec = Jvm.exec) {x : Int64} {y : Int32} (hd : decode c.code pc = .ok (.lshl, 1)) (v : Int64) (hv : x <<< (y &&& 0x3f).toInt64 = v) (pc' : Nat) (hp : pc + 1 = pc') (g : Go p e below P (T.setTop (mkF m pc' L (.long v :: st)))) : Go p e below P (T.setTop (mkF m pc L (.int y :: .long x :: st))) := by
  subst hp hv; exact Go.via (fun _ k => XT.lshl X.here hx rfl hd rfl (by rw [sh64]; exact k)) g
theorem s_lshr (X : Stand p l e R s m args below meth c T locs cells slots) (hx : p.tables.exec = Jvm.exec) {x : Int64} {y : Int32} (hd : decode c.code pc = .ok (.lshr, 1)) (v : Int64) (hv : x >>> (y &&& 0x3f).toInt64 = v) (pc' : Nat) (hp : pc + 1 = pc') (g : Go p e below P (T.setTop (mkF m pc' L (.long v :: st)))) : Go p e below P (T.setTop (mkF m pc L (.int y :: .long x :: st))) := by
  subst hp hv; exact Go.via (fun _ k => XT.lshr X.here hx rfl hd rfl (by rw [sh64]; exact k)) g
theorem s_lushr (X : Stand p l e R s m args below meth c T locs cells slots) (hx : p.tables.exec = Jvm.exec) {x : Int64} {y : Int32} (hd : decode c.code pc = .ok (.lushr, 1)) (v : Int64) (hv : XT.ushrL x y = v) (pc' : Nat) (hp : pc + 1 = pc') (g : Go p e below P (T.setTop (mkF m pc' L (.long v :: st)))) : Go p e below P (T.setTop (mkF m pc L (.int y :: .long x :: st))) := by
  subst hp hv; exact Go.via (fun _ k => XT.lushr X.here hx rfl hd rfl k) g
theorem s_i2l (X : Stand p l e R s m args below meth c T locs cells slots) (hx : p.tables.exec = Jvm.exec) {x : Int32} (hd : decode c.code pc = .ok (.i2l, 1)) (v : Int64) (hv : x.toInt64 = v) (pc' : Nat) (hp : pc + 1 = pc') (g : Go p e below P (T.setTop (mkF m pc' L (.long v :: st)))) : Go p e below P (T.setTop (mkF m pc L (.int x :: st))) := by
  subst hp hv; exact Go.via (fun _ k => XT.i2l X.here hx rfl hd rfl k) g
theorem s_l2i (X : Stand p l e R s m args below meth c T locs cells slots) (hx : p.tables.exec = Jvm.exec) {x : Int64} (hd : decode c.code pc = .ok (.l2i, 1)) (v : Int32) (hv : x.toInt32 = v) (pc' : Nat) (hp : pc + 1 = pc') (g : Go p e below P (T.setTop (mkF m pc' L (.int v :: st)))) : Go p e below P (T.setTop (mkF m pc L (.long x :: st))) := by
  subst hp hv; exact Go.via (fun _ k => XT.l2i X.here hx rfl hd rfl k) g
theorem s_i2b (X : Stand p l e R s m args below meth c T locs cells slots) (hx : p.tables.exec = Jvm.exec) {x : Int32} (hd : decode c.code pc = .ok (.i2b, 1)) (v : Int32) (hv : x.toInt8.toInt32 = v) (pc' : Nat) (hp : pc + 1 = pc') (g : Go p e below P (T.setTop (mkF m pc' L (.int v :: st)))) : Go p e below P (T.setTop (mkF m pc L (.int x :: st))) := by
  subst hp hv; exact Go.via (fun _ k => XT.i2b X.here hx rfl hd rfl k) g
theorem s_i2s (X : Stand p l e R s m args below meth c T locs cells slots) (hx : p.tables.exec = Jvm.exec) {x : Int32} (hd : decode c.code pc = .ok (.i2s, 1)) (v : Int32) (hv : x.toInt16.toInt32 = v) (pc' : Nat) (hp : pc + 1 = pc') (g : Go p e below P (T.setTop (mkF m pc' L (.int v :: st)))) : Go p e below P (T.setTop (mkF m pc L (.int x :: st))) := by
  subst hp hv; exact Go.via (fun _ k => XT.i2s X.here hx rfl hd rfl k) g
theorem s_i2d (X : Stand p l e R s m args below meth c T locs cells slots) (hx : p.tables.exec = Jvm.exec) {x : Int32} (hd : decode c.code pc = .ok (.i2d, 1)) (v : UInt64) (hv : FP.i2d x = v) (pc' : Nat) (hp : pc + 1 = pc') (g : Go p e below P (T.setTop (mkF m pc' L (.double v :: st)))) : Go p e below P (T.setTop (mkF m pc L (.int x :: st))) := by
  subst hp; exact Go.via (fun _ k => XS.i2dS X.here hx rfl hd rfl hv k) g
theorem s_l2d (X : Stand p l e R s m args below meth c T locs cells slots) (hx : p.tables.exec = Jvm.exec) {x : Int64} (hd : decode c.code pc = .ok (.l2d, 1)) (v : UInt64) (hv : FP.l2d x = v) (pc' : Nat) (hp : pc + 1 = pc') (g : Go p e below P (T.setTop (mkF m pc' L (.double v :: st)))) : Go p e below P (T.setTop (mkF m pc L (.long x :: st))) := by
  subst hp; exact Go.via (fun _ k => XS.l2dS X.here hx rfl hd rfl hv k) g
theorem s_dneg (X : Stand p l e R s m args below meth c T locs cells slots) (hx : p.tables.exec = Jvm.exec) {x : UInt64} (hd : decode c.code pc = .ok (.dneg, 1)) (v : UInt64) (hv : FP.dneg x = v) (pc' : Nat) (hp : pc + 1 = pc') (g : Go p e below P (T.setTop (mkF m pc' L (.double v :: st)))) : Go p e below P (T.setTop (mkF m pc L (.double x :: st))) := by
  subst hp; exact Go.via (fun _ k => XS.dnegS X.here hx rfl hd rfl hv k) g
theorem s_dadd (X : Stand p l e R s m args below meth c T locs cells slots) (hx : p.tables.exec = Jvm.exec) {x y : UInt64} (hd : decode c.code pc = .ok (.dadd, 1)) (v : UInt64) (hv : FP.dadd x y = v) (hn : NoNaN64 v) (pc' : Nat) (hp : pc + 1 = pc') (g : Go p e below P (T.setTop (mkF m pc' L (.double v :: st)))) : Go p e below P (T.setTop (mkF m pc L (.double y :: .double x :: st))) := by
  subst hp hv; exact Go.via (fun _ k => XS.daddS X.here hx rfl hd rfl hn rfl k) g
theorem s_dsub (X : Stand p l e R s m args below meth c T locs cells slots) (hx : p.tables.exec = Jvm.exec) {x y : UInt64} (hd : decode c.code pc = .ok (.dsub, 1)) (v : UInt64) (hv : FP.dsub x y = v) (hn : NoNaN64 v) (pc' : Nat) (hp : pc + 1 = pc') (g : Go p e below P (T.setTop (mkF m pc' L (.double v :: st)))) : Go p e below P (T.setTop (mkF m pc L (.double y :: .double x :: st))) := by
  subst hp hv; exact Go.via (fun _ k => XS.dsubS X.here hx rfl hd rfl hn rfl k) g
theorem s_dmul (X : Stand p l e R s m args below meth c T locs cells slots) (hx : p.tables.exec = Jvm.exec) {x y : UInt64} (hd : decode c.code pc = .ok (.dmul, 1)) (v : UInt64) (hv : FP.dmul x y = v) (hn : NoNaN64 v) (pc' : Nat) (hp : pc + 1 = pc') (g : Go p e below P (T.setTop (mkF m pc' L (.double v :: st)))) : Go p e below P (T.setTop (mkF m pc L (.double y :: .double x :: st))) := by
  subst hp hv; exact Go.via (fun _ k => XS.dmulS X.here hx rfl hd rfl hn rfl k) g
theorem s_ddiv (X : Stand p l e R s m args below meth c T locs cells slots) (hx : p.tables.exec = Jvm.exec) {x y : UInt64} (hd : decode c.code pc = .ok (.ddiv, 1)) (v : UInt64) (hv : FP.ddiv x y = v) (hn : NoNaN64 v) (pc' : Nat) (hp : pc + 1 = pc') (g : Go p e below P (T.setTop (mkF m pc' L (.double v :: st)))) : Go p e below P (T.setTop (mkF m pc L (.double y :: .double x :: st))) := by
  subst hp hv; exact Go.via (fun _ k => XS.ddivS X.here hx rfl hd rfl hn rfl k) g
theorem s_dcmp (X : Stand p l e R s m args below meth c T locs cells slots) (hx : p.tables.exec = Jvm.exec) {x y : UInt64} {o : CmpOp} (hd : decode c.code pc = .ok (.dcmp o, 1)) (v : Int32) (hv : cmpValue (FP.dcmp x y) o = v) (pc' : Nat) (hp : pc + 1 = pc') (g : Go p e below P (T.setTop (mkF m pc' L (.int v :: st)))) : Go p e below P (T.setTop (mkF m pc L (.double y :: .double x :: st))) := by
  subst hp; exact Go.via (fun _ k => XS.dcmpS X.here hx rfl hd rfl hv k) g
theorem s_lcmp (X : Stand p l e R s m args below meth c T locs cells slots) (hx : p.tables.exec = Jvm.exec) {x y : Int64} (hd : decode c.code pc = .ok (.lcmp, 1)) (v : Int32) (hv : XT.cmpL x y = v) (pc' : Nat) (hp : pc + 1 = pc') (g : Go p e below P (T.setTop (mkF m pc' L (.int v :: st)))) : Go p e below P (T.setTop (mkF m pc L (.long y :: .long x :: st))) := by
  subst hp hv; exact Go.via (fun _ k => XT.lcmp X.here hx rfl hd rfl k) g
theorem s_dup (X : Stand p l e R s m args below meth c T locs cells slots) (hx : p.tables.exec = Jvm.exec) {x : Value} (hd : decode c.code pc = .ok (.dup, 1)) (hc : x.category = 1) (pc' : Nat) (hp : pc + 1 = pc') (g : Go p e below P (T.setTop (mkF m pc' L (x :: x :: st)))) : Go p e below P (T.setTop (mkF m pc L (x :: st))) := by
  subst hp; exact Go.via (fun _ k => XS.dup X.here hx rfl hd rfl hc k) g
theorem s_pop (X : Stand p l e R s m args below meth c T locs cells slots) (hx : p.tables.exec = Jvm.exec) {x : Value} (hd : decode c.code pc = .ok (.pop, 1)) (hc : x.category = 1) (pc' : Nat) (hp : pc + 1 = pc') (g : Go p e below P (T.setTop (mkF m pc' L (st)))) : Go p e below P (T.setTop (mkF m pc L (x :: st))) := by
  subst hp; exact Go.via (fun _ k => XT.pop X.here hx rfl hd rfl hc k) g
theorem s_dupX1 (X : Stand p l e R s m args below meth c T locs cells slots) (hx : p.tables.exec = Jvm.exec) {x y : Value} (hd : decode c.code pc = .ok (.dup_x1, 1)) (hc : x.category = 1) (hc' : y.category = 1) (pc' : Nat) (hp : pc + 1 = pc') (g : Go p e below P (T.setTop (mkF m pc' L (x :: y :: x :: st)))) : Go p e below P (T.setTop (mkF m pc L (x :: y :: st))) := by
  subst hp; exact Go.via (fun _ k => XT.dupX1 X.here hx rfl hd rfl hc hc' k) g
theorem s_dup2 (X : Stand p l e R s m args below meth c T locs cells slots) (hx : p.tables.exec = Jvm.exec) {x y : Value} (hd : decode c.code pc = .ok (.dup2, 1)) (hc : x.category = 1) (hc' : y.category = 1) (pc' : Nat) (hp : pc + 1 = pc') (g : Go p e below P (T.setTop (mkF m pc' L (x :: y :: x :: y :: st)))) : Go p e below P (T.setTop (mkF m pc L (x :: y :: st))) := by
  subst hp; exact Go.via (fun _ k => XT.dup2 X.here hx rfl hd rfl hc hc' k) g
theorem s_iinc (X : Stand p l e R s m args below meth c T locs cells slots) (hx : p.tables.exec = Jvm.exec) {k : Nat} {cst : Int} {x : Int32} (hd : decode c.code pc = .ok (.iinc k cst, 3)) (v : Int32) (hv : x + Int32.ofInt cst = v) (hl : L[k]? = some (.val (.int x))) (L' : Array Slot) (hl' : storeLocals L k (.int v) = some L') (pc' : Nat) (hp : pc + 3 = pc') (g : Go p e below P (T.setTop (mkF m pc' L' (st)))) : Go p e below P (T.setTop (mkF m pc L (st))) := by
  subst hp hv; exact Go.via (fun _ k => XS.iinc X.here hx rfl hd hl hl' k) g
theorem s_goto (X : Stand p l e R s m args below meth c T locs cells slots) (hx : p.tables.exec = Jvm.exec) {o : Int} (hd : decode c.code pc = .ok (.goto o, 3)) (pc' : Nat) (ho : 0 ≤ (pc : Int) + o) (hp : ((pc : Int) + o).toNat = pc') (g : Go p e below P (T.setTop (mkF m pc' L st))) : Go p e below P (T.setTop (mkF m pc L st)) := Go.via (fun _ k => XS.goto X.here hx rfl rfl hd ho hp k) g
theorem s_ifY (X : Stand p l e R s m args below meth c T locs cells slots) (hx : p.tables.exec = Jvm.exec) {cd : ClassFile.Cond} {o : Int} {x : Int32} (hd : decode c.code pc = .ok (.ifCond cd o, 3)) (hc : ifCond.holds cd x = true) (pc' : Nat) (ho : 0 ≤ (pc : Int) + o) (hp : ((pc : Int) + o).toNat = pc') (g : Go p e below P (T.setTop (mkF m pc' L st))) : Go p e below P (T.setTop (mkF m pc L (.int x :: st))) := Go.via (fun _ k => XS.ifYes X.here hx rfl rfl hd rfl hc ho hp k) g
theorem s_ifN (X : Stand p l e R s m args below meth c T locs cells slots) (hx : p.tables.exec = Jvm.exec) {cd : ClassFile.Cond} {o : Int} {x : Int32} (hd : decode c.code pc = .ok (.ifCond cd o, 3)) (hc : ifCond.holds cd x = false) (pc' : Nat) (hp : pc + 3 = pc') (g : Go p e below P (T.setTop (mkF m pc' L (st)))) : Go p e below P (T.setTop (mkF m pc L (.int x :: st))) := by
  subst hp; exact Go.via (fun _ k => XS.ifNo X.here hx rfl hd rfl hc k) g
theorem s_icmpY (X : Stand p l e R s m args below meth c T locs cells slots) (hx : p.tables.exec = Jvm.exec) {cd : ClassFile.Cond} {o : Int} {x y : Int32} (hd : decode c.code pc = .ok (.if_icmp cd o, 3)) (hc : if_icmp.holds cd x y = true) (pc' : Nat) (ho : 0 ≤ (pc : Int) + o) (hp : ((pc : Int) + o).toNat = pc') (g : Go p e below P (T.setTop (mkF m pc' L st))) : Go p e below P (T.setTop (mkF m pc L (.int y :: .int x :: st))) := Go.via (fun _ k => XS.icmpYes X.here hx rfl rfl hd rfl hc ho hp k) g
theorem s_icmpN (X : Stand p l e R s m args below meth c T locs cells slots) (hx : p.tables.exec = Jvm.exec) {cd : ClassFile.Cond} {o : Int} {x y : Int32} (hd : decode c.code pc = .ok (.if_icmp cd o, 3)) (hc : if_icmp.holds cd x y = false) (pc' : Nat) (hp : pc + 3 = pc') (g : Go p e below P (T.setTop (mkF m pc' L (st)))) : Go p e below P (T.setTop (mkF m pc L (.int y :: .int x :: st))) := by
  subst hp; exact Go.via (fun _ k => XS.icmpNo X.here hx rfl hd rfl hc k) g
theorem s_acmpY (X : Stand p l e R s m args below meth c T locs cells slots) (hx : p.tables.exec = Jvm.exec) {cd : ClassFile.ACond} {o : Int} {x y : Value} (hd : decode c.code pc = .ok (.if_acmp cd o, 3)) (h1 : x.isRef = true) (h2 : y.isRef = true) (hc : XT.acmp cd x y = true) (pc' : Nat) (ho : 0 ≤ (pc : Int) + o) (hp : ((pc : Int) + o).toNat = pc') (g : Go p e below P (T.setTop (mkF m pc' L st))) : Go p e below P (T.setTop (mkF m pc L (y :: x :: st))) := Go.via (fun _ k => XT.acmpYes X.here hx rfl rfl hd rfl h1 h2 hc ho hp k) g
theorem s_acmpN (X : Stand p l e R s m args below meth c T locs cells slots) (hx : p.tables.exec = Jvm.exec) {cd : ClassFile.ACond} {o : Int} {x y : Value} (hd : decode c.code pc = .ok (.if_acmp cd o, 3)) (h1 : x.isRef = true) (h2 : y.isRef = true) (hc : XT.acmp cd x y = false) (pc' : Nat) (hp : pc + 3 = pc') (g : Go p e below P (T.setTop (mkF m pc' L (st)))) : Go p e below P (T.setTop (mkF m pc L (y :: x :: st))) := by
  subst hp; exact Go.via (fun _ k => XT.acmpNo X.here hx rfl hd rfl h1 h2 hc k) g
theorem s_ifnullN (X : Stand p l e R s m args below meth c T locs cells slots) (hx : p.tables.exec = Jvm.exec) {o : Int} {b : Addr} (hd : decode c.code pc = .ok (.ifnull o, 3))  (pc' : Nat) (hp : pc + 3 = pc') (g : Go p e below P (T.setTop (mkF m pc' L (st)))) : Go p e below P (T.setTop (mkF m pc L (.ref b :: st))) := by
  subst hp; exact Go.via (fun _ k => XS.ifnullNo X.here hx rfl hd rfl k) g
theorem s_ifnullY (X : Stand p l e R s m args below meth c T locs cells slots) (hx : p.tables.exec = Jvm.exec) {o : Int} (hd : decode c.code pc = .ok (.ifnull o, 3)) (pc' : Nat) (ho : 0 ≤ (pc : Int) + o) (hp : ((pc : Int) + o).toNat = pc') (g : Go p e below P (T.setTop (mkF m pc' L st))) : Go p e below P (T.setTop (mkF m pc L (.null :: st))) := Go.via (fun _ k => XS.ifnullYes X.here hx rfl rfl hd rfl ho hp k) g
theorem s_ifnonnullN (X : Stand p l e R s m args below meth c T locs cells slots) (hx : p.tables.exec = Jvm.exec) {o : Int} (hd : decode c.code pc = .ok (.ifnonnull o, 3))  (pc' : Nat) (hp : pc + 3 = pc') (g : Go p e below P (T.setTop (mkF m pc' L (st)))) : Go p e below P (T.setTop (mkF m pc L (.null :: st))) := by
  subst hp; exact Go.via (fun _ k => XT.ifnonnullNo X.here hx rfl hd rfl k) g
theorem s_ifnonnullY (X : Stand p l e R s m args below meth c T locs cells slots) (hx : p.tables.exec = Jvm.exec) {o : Int} {b : Addr} (hd : decode c.code pc = .ok (.ifnonnull o, 3)) (pc' : Nat) (ho : 0 ≤ (pc : Int) + o) (hp : ((pc : Int) + o).toNat = pc') (g : Go p e below P (T.setTop (mkF m pc' L st))) : Go p e below P (T.setTop (mkF m pc L (.ref b :: st))) := Go.via (fun _ k => XT.ifnonnullYes X.here hx rfl rfl hd rfl ho hp k) g
section Cmp
variable {r : Option Ordering} {o : CmpOp}
theorem dd_ne_t (h : r ≠ some .eq) : ifCond.holds .ne (cmpValue r o) = true := by rcases r with _ | (_ | _ | _) <;> cases o <;> first | rfl | exact absurd rfl h
theorem dd_ne_f (h : r = some .eq) : ifCond.holds .ne (cmpValue r o) = false := by subst h; cases o <;> rfl
theorem dd_eq_t (h : r = some .eq) : ifCond.holds .eq (cmpValue r o) = true := by subst h; cases o <;> rfl
theorem dd_eq_f (h : r ≠ some .eq) : ifCond.holds .eq (cmpValue r o) = false := by rcases r with _ | (_ | _ | _) <;> cases o <;> first | rfl | exact absurd rfl h
theorem dd_ge_t (h : r ≠ some .lt) : ifCond.holds .ge (cmpValue r .g) = true := by rcases r with _ | (_ | _ | _) <;> first | rfl | exact absurd rfl h
theorem dd_ge_f (h : r = some .lt) : ifCond.holds .ge (cmpValue r .g) = false := by subst h; rfl
theorem dd_le_t (h : r ≠ some .gt) : ifCond.holds .le (cmpValue r .l) = true := by rcases r with _ | (_ | _ | _) <;> first | rfl | exact absurd rfl h
theorem dd_le_f (h : r = some .gt) : ifCond.holds .le (cmpValue r .l) = false := by subst h; rfl
theorem dd_gt_f (h : r = some .lt ∨ r = some .eq) : ifCond.holds .gt (cmpValue r .g) = false := by rcases h with h | h <;> (subst h; rfl)
theorem dd_lt_f (h : r = some .gt ∨ r = some .eq) : ifCond.holds .lt (cmpValue r .l) = false := by rcases h with h | h <;> (subst h; rfl)
theorem dd_lt_t (h : r = some .lt) : ifCond.holds .lt (cmpValue r o) = true := by subst h; cases o <;> rfl
end Cmp
end Steps1
/-! ## arrays, by the list of what they hold -/
section Arrays
variable {p : Program} {l : Launch} {e : Env} {R : Room} {s : State} {m : MethodId} {args : Array Value} {below : List Frame} {meth : Method} {c : Code} {T : State} {locs : List Loc} {cells slots : Nat} {P : Outcome → State → Prop} {pc : Nat} {L : Array Slot} {st : List Value} {Z : State} {h h' : Heap} {a b : Addr} {a0 : Array Value} {k : ClassId} {ty : FieldType} {vs : List Value} {v : Value} {sl : Nat} {ws : List Addr}
/-- at a lies an array of components ty, of the class numbered k, that holds vs -/
def AR (Z : State) (h : Heap) (a : Addr) (k : ClassId) (ty : FieldType) (vs : List Value) : Prop := ∃ c : Cell, Arr Z h a c ty ∧ c.cls = k ∧ c.slots = vs.toArray
theorem AR.lt (F : AR Z h a k ty vs) : a < h.size := by obtain ⟨c, A, -⟩ := F; exact A.lt
theorem AR.ext (F : AR Z h a k ty vs) (E : Ext h h') : AR Z h' a k ty vs := by obtain ⟨c, A, r⟩ := F; exact ⟨c, A.ext E, r⟩
theorem AR.other (F : AR Z h b k ty vs) (W : Wr h h' a sl v) (q : b ≠ a) : AR Z h' b k ty vs := by obtain ⟨c, A, r⟩ := F; exact ⟨c, A.other W q, r⟩
theorem AR.keep (F : AR Z h a k ty vs) (K : Keep h h' ws) (q : a ∉ ws) : AR Z h' a k ty vs := by obtain ⟨c, A, r⟩ := F; exact ⟨c, ⟨K.2.1 a c A.1 q, A.2⟩, r⟩
theorem AR.same (F : AR Z h a k ty vs) (W : Wr h h' a sl v) : AR Z h' a k ty (vs.set sl v) := by
  obtain ⟨c, A, r1, r2⟩ := F
  exact ⟨c.setSlot sl v, A.same W, r1, by simp [Cell.setSlot, r2]⟩
theorem ar_len {c : Cell} (r : c.slots = vs.toArray) : c.slots.size = vs.length := by rw [r]; simp
theorem ar_in {c : Cell} (r : c.slots = vs.toArray) {j : Int32} {i : Nat} (hj : ¬ j < 0 ∧ j.toNatClampNeg = i) (hv : vs[i]? = some v) : ¬ (j < 0 ∨ c.slots.size ≤ j.toNatClampNeg) ∧ c.slots[j.toNatClampNeg]? = some v := by
  obtain ⟨h1, rfl⟩ := hj
  have h2 : j.toNatClampNeg < vs.length := (List.getElem?_eq_some_iff.mp hv).1
  refine ⟨?_, by rw [r]; simpa using hv⟩
  rintro (q | q)
  · exact h1 q
  · rw [ar_len r] at q; omega
theorem s_len (X : Stand p l e R s m args below meth c T locs cells slots) (hx : p.tables.exec = Jvm.exec) (hZ : Z.Warmed39 s.vm) (eT : T.heap = h) (F : AR Z h a k ty vs) (hd : decode c.code pc = .ok (.arraylength, 1)) (n : Int32) (hn : vs.length.toInt32 = n) (pc' : Nat) (hp : pc + 1 = pc') (g : Go p e below P (T.setTop (mkF m pc' L (.int n :: st)))) : Go p e below P (T.setTop (mkF m pc L (.ref a :: st))) := by
  obtain ⟨cl, A, r1, r2⟩ := F
  subst hp hn
  rw [← ar_len r2] at g
  exact Go.via (fun _ k => X.arraylength hx (by rw [eT]; exact A.1) (State.isArrayOf_alike hZ.alike A.2.1) (g := mkF m pc L (.ref a :: st)) rfl rfl hd _ k) g
theorem s_iaload (X : Stand p l e R s m args below meth c T locs cells slots) (hx : p.tables.exec = Jvm.exec) (hZ : Z.Warmed39 s.vm) (eT : T.heap = h) (F : AR Z h a k .int vs) (hd : decode c.code pc = .ok (.iaload, 1)) {j : Int32} (i : Nat) (hj : ¬ j < 0 ∧ j.toNatClampNeg = i) (v : Value) (hv : vs[i]? = some v) (pc' : Nat) (hp : pc + 1 = pc') (g : Go p e below P (T.setTop (mkF m pc' L (v :: st)))) : Go p e below P (T.setTop (mkF m pc L (.int j :: .ref a :: st))) := by
  obtain ⟨cl, A, r1, r2⟩ := F
  obtain ⟨q1, q2⟩ := ar_in r2 hj hv
  subst hp
  exact Go.via (fun _ k => X.iaload hx (by rw [eT]; exact A.1) (State.isArrayOf_alike hZ.alike A.2.1) A.2.2 q1 q2 (g := mkF m pc L (.int j :: .ref a :: st)) rfl rfl hd _ k) g
theorem s_laload (X : Stand p l e R s m args below meth c T locs cells slots) (hx : p.tables.exec = Jvm.exec) (hZ : Z.Warmed39 s.vm) (eT : T.heap = h) (F : AR Z h a k .long vs) (hd : decode c.code pc = .ok (.laload, 1)) {j : Int32} (i : Nat) (hj : ¬ j < 0 ∧ j.toNatClampNeg = i) (v : Value) (hv : vs[i]? = some v) (pc' : Nat) (hp : pc + 1 = pc') (g : Go p e below P (T.setTop (mkF m pc' L (v :: st)))) : Go p e below P (T.setTop (mkF m pc L (.int j :: .ref a :: st))) := by
  obtain ⟨cl, A, r1, r2⟩ := F
  obtain ⟨q1, q2⟩ := ar_in r2 hj hv
  subst hp
  exact Go.via (fun _ k => X.laload hx (by rw [eT]; exact A.1) (State.isArrayOf_alike hZ.alike A.2.1) A.2.2 q1 q2 (g := mkF m pc L (.int j :: .ref a :: st)) rfl rfl hd _ k) g
theorem s_daload (X : Stand p l e R s m args below meth c T locs cells slots) (hx : p.tables.exec = Jvm.exec) (hZ : Z.Warmed39 s.vm) (eT : T.heap = h) (F : AR Z h a k .double vs) (hd : decode c.code pc = .ok (.daload, 1)) {j : Int32} (i : Nat) (hj : ¬ j < 0 ∧ j.toNatClampNeg = i) (v : Value) (hv : vs[i]? = some v) (pc' : Nat) (hp : pc + 1 = pc') (g : Go p e below P (T.setTop (mkF m pc' L (v :: st)))) : Go p e below P (T.setTop (mkF m pc L (.int j :: .ref a :: st))) := by
  obtain ⟨cl, A, r1, r2⟩ := F
  obtain ⟨q1, q2⟩ := ar_in r2 hj hv
  subst hp
  exact Go.via (fun _ k => X.daload hx (by rw [eT]; exact A.1) (State.isArrayOf_alike hZ.alike A.2.1) A.2.2 q1 q2 (g := mkF m pc L (.int j :: .ref a :: st)) rfl rfl hd _ k) g
theorem s_aaload (X : Stand p l e R s m args below meth c T locs cells slots) (hx : p.tables.exec = Jvm.exec) (hZ : Z.Warmed39 s.vm) (eT : T.heap = h) (F : AR Z h a k ty vs) (ht : ty.isReference = true) (hd : decode c.code pc = .ok (.aaload, 1)) {j : Int32} (i : Nat) (hj : ¬ j < 0 ∧ j.toNatClampNeg = i) (v : Value) (hv : vs[i]? = some v) (pc' : Nat) (hp : pc + 1 = pc') (g : Go p e below P (T.setTop (mkF m pc' L (v :: st)))) : Go p e below P (T.setTop (mkF m pc L (.int j :: .ref a :: st))) := by
  obtain ⟨cl, A, r1, r2⟩ := F
  obtain ⟨q1, q2⟩ := ar_in r2 hj hv
  subst hp
  exact Go.via (fun _ k => X.aaload hx (by rw [eT]; exact A.1) (State.isArrayOf_alike hZ.alike A.2.1) ht A.2.2 q1 q2 (g := mkF m pc L (.int j :: .ref a :: st)) rfl rfl hd _ k) g
theorem s_iastore (X : Stand p l e R s m args below meth c T locs cells slots) (hx : p.tables.exec = Jvm.exec) (hZ : Z.Warmed39 s.vm) (eT : T.heap = h) (F : AR Z h a k .int vs) (hd : decode c.code pc = .ok (.iastore, 1)) (L : Array Slot) (st : List Value) {j : Int32} (i : Nat) (hj : ¬ j < 0 ∧ j.toNatClampNeg = i) (hi : i < vs.length) (x : Int32) (vs' : List Value) (hvs : vs.set i (.int x) = vs') (pc' : Nat) (hp : pc + 1 = pc') :
    ∃ T' h', Stand p l e R s m args below meth c T' (locs ++ [⟨a, i⟩]) cells slots ∧ T'.heap = h' ∧ Wr h h' a i (.int x) ∧ AR Z h' a k .int vs' ∧ ∀ t, Steps p.tables e below (T'.setTop (mkF m pc' L st)) t → Steps p.tables e below (T.setTop (mkF m pc L (.int x :: .int j :: .ref a :: st))) t := by
  obtain ⟨cl, A, r1, r2⟩ := F
  obtain ⟨q1, -⟩ := ar_in r2 hj (List.getElem?_eq_getElem hi)
  obtain ⟨hj1, rfl⟩ := hj
  subst hp hvs
  obtain ⟨T', h', X', e', W, st'⟩ := stI X hx hZ eT A q1 (g := mkF m pc L (.int x :: .int j :: .ref a :: st)) rfl rfl hd
  exact ⟨T', h', X', e', W, AR.same ⟨cl, A, r1, r2⟩ W, st'⟩
theorem s_lastore (X : Stand p l e R s m args below meth c T locs cells slots) (hx : p.tables.exec = Jvm.exec) (hZ : Z.Warmed39 s.vm) (eT : T.heap = h) (F : AR Z h a k .long vs) (hd : decode c.code pc = .ok (.lastore, 1)) (L : Array Slot) (st : List Value) {j : Int32} (i : Nat) (hj : ¬ j < 0 ∧ j.toNatClampNeg = i) (hi : i < vs.length) (x : Int64) (vs' : List Value) (hvs : vs.set i (.long x) = vs') (pc' : Nat) (hp : pc + 1 = pc') :
    ∃ T' h', Stand p l e R s m args below meth c T' (locs ++ [⟨a, i⟩]) cells slots ∧ T'.heap = h' ∧ Wr h h' a i (.long x) ∧ AR Z h' a k .long vs' ∧ ∀ t, Steps p.tables e below (T'.setTop (mkF m pc' L st)) t → Steps p.tables e below (T.setTop (mkF m pc L (.long x :: .int j :: .ref a :: st))) t := by
  obtain ⟨cl, A, r1, r2⟩ := F
  obtain ⟨q1, -⟩ := ar_in r2 hj (List.getElem?_eq_getElem hi)
  obtain ⟨hj1, rfl⟩ := hj
  subst hp hvs
  obtain ⟨T', h', X', e', W, st'⟩ := stJ X hx hZ eT A q1 (g := mkF m pc L (.long x :: .int j :: .ref a :: st)) rfl rfl hd
  exact ⟨T', h', X', e', W, AR.same ⟨cl, A, r1, r2⟩ W, st'⟩
theorem s_dastore (X : Stand p l e R s m args below meth c T locs cells slots) (hx : p.tables.exec = Jvm.exec) (hZ : Z.Warmed39 s.vm) (eT : T.heap = h) (F : AR Z h a k .double vs) (hd : decode c.code pc = .ok (.dastore, 1)) (L : Array Slot) (st : List Value) {j : Int32} (i : Nat) (hj : ¬ j < 0 ∧ j.toNatClampNeg = i) (hi : i < vs.length) (x : UInt64) (vs' : List Value) (hvs : vs.set i (.double x) = vs') (pc' : Nat) (hp : pc + 1 = pc') :
    ∃ T' h', Stand p l e R s m args below meth c T' (locs ++ [⟨a, i⟩]) cells slots ∧ T'.heap = h' ∧ Wr h h' a i (.double x) ∧ AR Z h' a k .double vs' ∧ ∀ t, Steps p.tables e below (T'.setTop (mkF m pc' L st)) t → Steps p.tables e below (T.setTop (mkF m pc L (.double x :: .int j :: .ref a :: st))) t := by
  obtain ⟨cl, A, r1, r2⟩ := F
  obtain ⟨q1, -⟩ := ar_in r2 hj (List.getElem?_eq_getElem hi)
  obtain ⟨hj1, rfl⟩ := hj
  subst hp hvs
  obtain ⟨T', h', X', e', W, st'⟩ := stD X hx hZ eT A q1 (g := mkF m pc L (.double x :: .int j :: .ref a :: st)) rfl rfl hd
  exact ⟨T', h', X', e', W, AR.same ⟨cl, A, r1, r2⟩ W, st'⟩
theorem s_aastore (X : Stand p l e R s m args below meth c T locs cells slots) (hx : p.tables.exec = Jvm.exec) (hZ : Z.Warmed39 s.vm) (eT : T.heap = h) (F : AR Z h a k ty vs) (ht : ty.isReference = true) (hd : decode c.code pc = .ok (.aastore, 1)) (L : Array Slot) (st : List Value) {j : Int32} (i : Nat) (hj : ¬ j < 0 ∧ j.toNatClampNeg = i) (hi : i < vs.length) (x : Value) (S : Sto Z h a x) (vs' : List Value) (hvs : vs.set i x = vs') (pc' : Nat) (hp : pc + 1 = pc') :
    ∃ T' h', Stand p l e R s m args below meth c T' (locs ++ [⟨a, i⟩]) cells slots ∧ T'.heap = h' ∧ Wr h h' a i x ∧ AR Z h' a k ty vs' ∧ ∀ t, Steps p.tables e below (T'.setTop (mkF m pc' L st)) t → Steps p.tables e below (T.setTop (mkF m pc L (x :: .int j :: .ref a :: st))) t := by
  obtain ⟨cl, A, r1, r2⟩ := F
  obtain ⟨q1, -⟩ := ar_in r2 hj (List.getElem?_eq_getElem hi)
  obtain ⟨hj1, rfl⟩ := hj
  subst hp hvs
  obtain ⟨T', h', X', e', W, st'⟩ := stR X hx hZ eT A q1 ht S (g := mkF m pc L (x :: .int j :: .ref a :: st)) rfl rfl hd
  exact ⟨T', h', X', e', W, AR.same ⟨cl, A, r1, r2⟩ W, st'⟩
theorem s_newarray (X : Stand p l e R s m args below meth c T locs cells slots) (hx : p.tables.exec = Jvm.exec) (hZ : Z.Warmed39 s.vm) {aty : ArrayType} (w : (Cond.arrayClass (newarray.typeOf aty)).before a0 Z = true) (eT : T.heap = h) (hd : decode c.code pc = .ok (.newarray aty, 2)) (L : Array Slot) (st : List Value) {n : Int32} (cap : Nat) (hn : ¬ n < 0 ∧ n.toNatClampNeg = cap) (vs : List Value) (hvs : List.replicate cap (defaultValue (newarray.typeOf aty)) = vs) (hb : cap * 8 ≤ 536870912) (hc : cells + 1 ≤ R.cells) (hl : slots + cap ≤ R.slots) (pc' : Nat) (hp : pc + 2 = pc') :
    ∃ T' h' cA, Stand p l e R s m args below meth c T' locs (cells + 1) (slots + cap) ∧ T'.heap = h' ∧ Ext h h' ∧ AR Z h' h.size cA (newarray.typeOf aty) vs ∧ ∀ t, Steps p.tables e below (T'.setTop (mkF m pc' L (.ref h.size :: st))) t → Steps p.tables e below (T.setTop (mkF m pc L (.int n :: st))) t := by
  obtain ⟨n1, n2⟩ := hn
  obtain ⟨T', h', cA, X', e', E, A, st'⟩ := newP X hx hZ w eT (g := mkF m pc L (.int n :: st)) rfl hd rfl n1 (cap := cap) (Nat.le_of_eq n2) hb hc hl
  subst hp hvs
  exact ⟨T', h', cA, X', e', E, ⟨_, A, rfl, by simp [newA, n2]⟩, st'⟩
end Arrays
/-! ## calls by contract -/
section Calls
variable {p : Program} {l : Launch} {e : Env} {R : Room} {s : State} {m : MethodId} {args : Array Value} {below : List Frame} {meth : Method} {c : Code} {T : State} {locs : List Loc} {cells slots : Nat} {P : Outcome → State → Prop} {pc : Nat} {L : Array Slot} {st : List Value} {Z : State} {h h' : Heap} {a0 : Array Value} {own : String} {index : Nat} {y : MethodName} {bytes : ByteArray} {ml : Nat} {rm : Room} {as : Array Value} {Q : Option Value → Heap → List Loc → Prop}
theorem ct_back {ret : Option FieldType} {len W : Nat} (C : Ct l Z y bytes ml ret [] rm as h Q) (hZ : Z.Warmed39 s.vm) (wc : (Cond.code y bytes ml ret).before a0 Z = true) (wz : (Cond.initialized y.cls).before a0 Z = true) (hf : rm.frames + 1 ≤ R.frames) (hl : W + (ml + 11) + rm.locals ≤ R.locals) :
    Back l R p e below s args y len W (fun A a => a = as ∧ A.U.heap = h ∧ A.cells + rm.cells ≤ R.cells ∧ A.slots + rm.slots ≤ R.slots)
      (fun A _ v B => ∃ L, Q v B.U.heap L ∧ B.locs = A.locs ++ L ∧ B.cells = A.cells + rm.cells ∧ B.slots = A.slots + rm.slots) := backOf C hZ wc wz hf hl
theorem callStat {ret : Option FieldType} (X : Stand p l e R s m args below meth c T locs cells slots) (hx : p.tables.exec = Jvm.exec) (hZ : Z.Warmed39 s.vm) (hown : s.vm.findClass own = some m.cls) (w1 : (Cond.methodLink own index y).before a0 Z = true) (w2 : (Cond.static y).before a0 Z = true) (w3 : (Cond.initialized y.cls).before a0 Z = true) (w4 : (Cond.code y bytes ml ret).before a0 Z = true) (hy : y.cls ≠ "java/lang/invoke/MethodHandle" ∧ y.cls ≠ "java/lang/invoke/VarHandle") (C : Ct l Z y bytes ml ret [] rm as h Q) (eT : T.heap = h) (hd : decode c.code pc = .ok (.invokestatic index, 3)) (hml : L.size = c.maxLocals) (argsL rest : List Value) (hst : st = argsL.reverse ++ rest) (has : argsL.toArray = as) {ps : List FieldType} {r : Option FieldType} (hpd : parseMethodDescriptor y.desc = some ⟨ps, r⟩) (hln : argsL.length = ps.length) (W : Nat) (hW : 2 * 0 + (rest.map fun v => v.category).sum ≤ W) (hfr : rm.frames + 1 ≤ R.frames) (hlo : W + (ml + 11) + rm.locals ≤ R.locals) (hc : cells + rm.cells ≤ R.cells) (hs : slots + rm.slots ≤ R.slots) :
    ∃ v T' L', Stand p l e R s m args below meth c T' (locs ++ L') (cells + rm.cells) (slots + rm.slots) ∧ Q v T'.heap L' ∧ ∀ t, Steps p.tables e below (T'.setTop (mkF m (pc + 3) L (v.toList ++ rest))) t → Steps p.tables e below (T.setTop (mkF m pc L st)) t := by
  obtain ⟨v, _, ⟨T', L1, k1, n1⟩, -, X', ⟨L', hQ, l1, y1, z1⟩, st'⟩ := Jvm.LawKit.callS X hx (y := y) hown (mvT hZ w1) (mvT hZ w2) (mvT hZ w3) (mvT hZ w4) hy (ct_back (W := W) C hZ w4 w3 hfr hlo) (g := mkF m pc L st) rfl hml (argsL := argsL) (rest := rest) (lenOf hpd hln) hst hW hd (fun _ _ => ⟨has, eT, hc, hs⟩)
  dsimp only [Pt.U, Pt.locs, Pt.cells, Pt.slots] at X' l1 y1 z1 st' hQ
  subst l1 y1 z1
  exact ⟨v, T', L', X', hQ, st'⟩
theorem callInit (X : Stand p l e R s m args below meth c T locs cells slots) (hx : p.tables.exec = Jvm.exec) (hZ : Z.Warmed39 s.vm) (hown : s.vm.findClass own = some m.cls) (hin : y.name = "<init>") (w1 : (Cond.methodLink own index y).before a0 Z = true) (w2 : (Cond.instanceMethod y).before a0 Z = true) (w3 : (Cond.initialized y.cls).before a0 Z = true) (w4 : (Cond.code y bytes ml none).before a0 Z = true) (hy : y.cls ≠ "java/lang/invoke/MethodHandle" ∧ y.cls ≠ "java/lang/invoke/VarHandle") (C : Ct l Z y bytes ml none [] rm as h Q) (eT : T.heap = h) (hd : decode c.code pc = .ok (.invokespecial index, 3)) (hml : L.size = c.maxLocals) (a : Addr) (argsL rest : List Value) (hst : st = argsL.reverse ++ .ref a :: rest) (has : (.ref a :: argsL).toArray = as) {ps : List FieldType} {r : Option FieldType} (hpd : parseMethodDescriptor y.desc = some ⟨ps, r⟩) (hln : argsL.length = ps.length) (W : Nat) (hW : 2 * 0 + (rest.map fun v => v.category).sum ≤ W) (hfr : rm.frames + 1 ≤ R.frames) (hlo : W + (ml + 11) + rm.locals ≤ R.locals) (hc : cells + rm.cells ≤ R.cells) (hs : slots + rm.slots ≤ R.slots) :
    ∃ v T' L', Stand p l e R s m args below meth c T' (locs ++ L') (cells + rm.cells) (slots + rm.slots) ∧ Q v T'.heap L' ∧ ∀ t, Steps p.tables e below (T'.setTop (mkF m (pc + 3) L (v.toList ++ rest))) t → Steps p.tables e below (T.setTop (mkF m pc L st)) t := by
  obtain ⟨v, _, ⟨T', L1, k1, n1⟩, -, X', ⟨L', hQ, l1, y1, z1⟩, st'⟩ := X.specialBack hx (y := y) hin hown (mvT hZ w1) (mvT hZ w2) (mvT hZ w4) hy (ct_back (W := W) C hZ w4 w3 hfr hlo) (g := mkF m pc L st) rfl hml (Steps.refl _) (a := a) (argsL := argsL) (rest := rest) (lenOf hpd hln) hst hW hd (fun _ _ => ⟨has, eT, hc, hs⟩)
  dsimp only [Pt.U, Pt.locs, Pt.cells, Pt.slots] at X' l1 y1 z1 st' hQ
  subst l1 y1 z1
  exact ⟨v, T', L', X', hQ, fun t k => st'.trans k⟩
theorem callVirt {ret : Option FieldType} {C0 : String} (X : Stand p l e R s m args below meth c T locs cells slots) (hx : p.tables.exec = Jvm.exec) (hZ : Z.Warmed39 s.vm) (hown : s.vm.findClass own = some m.cls) (w1 : (Cond.methodLink own index y).before a0 Z = true) (w2 : (Cond.declares y).before a0 Z = true) (w3 : (Cond.selects C0 y y).before a0 Z = true) (w4 : (Cond.instanceMethod y).before a0 Z = true) (w5 : (Cond.initialized y.cls).before a0 Z = true) (w6 : (Cond.code y bytes ml ret).before a0 Z = true) (hy : y.cls ≠ "java/lang/invoke/MethodHandle" ∧ y.cls ≠ "java/lang/invoke/VarHandle") (C : Ct l Z y bytes ml ret [] rm as h Q) (eT : T.heap = h) (a : Addr) (E : Exa Z h a C0) (hd : decode c.code pc = .ok (.invokevirtual index, 3)) (hml : L.size = c.maxLocals) (argsL rest : List Value) (hst : st = argsL.reverse ++ .ref a :: rest) (has : (.ref a :: argsL).toArray = as) {ps : List FieldType} {r : Option FieldType} (hpd : parseMethodDescriptor y.desc = some ⟨ps, r⟩) (hln : argsL.length = ps.length) (W : Nat) (hW : 2 * 0 + (rest.map fun v => v.category).sum ≤ W) (hfr : rm.frames + 1 ≤ R.frames) (hlo : W + (ml + 11) + rm.locals ≤ R.locals) (hc : cells + rm.cells ≤ R.cells) (hs : slots + rm.slots ≤ R.slots) :
    ∃ v T' L', Stand p l e R s m args below meth c T' (locs ++ L') (cells + rm.cells) (slots + rm.slots) ∧ Q v T'.heap L' ∧ ∀ t, Steps p.tables e below (T'.setTop (mkF m (pc + 3) L (v.toList ++ rest))) t → Steps p.tables e below (T.setTop (mkF m pc L st)) t := by
  obtain ⟨cq, kq, qa, qb, qc⟩ := isOf hZ eT E
  obtain ⟨v, _, ⟨T', L1, k1, n1⟩, -, X', ⟨L', hQ, l1, y1, z1⟩, st'⟩ := X.virtualBack hx (y := y) (z := y) hown (mvT hZ w1) (mvT hZ w2) (notFace_of_selects (args := #[]) (mvT hZ w3)) (mvT hZ w3) (mvT hZ w4) hy (ct_back (W := W) C hZ w6 w5 hfr hlo) qa qc (g := mkF m pc L st) rfl hml (Steps.refl _) (argsL := argsL) (rest := rest) (lenOf hpd hln) hst hW hd (fun _ _ => ⟨has, eT, hc, hs⟩)
  dsimp only [Pt.U, Pt.locs, Pt.cells, Pt.slots] at X' l1 y1 z1 st' hQ
  subst l1 y1 z1
  exact ⟨v, T', L', X', hQ, fun t k => st'.trans k⟩
end Calls
end Jvm.OwnGo
namespace Jvm.OwnFP
open Jvm.FP Jvm.FP.Core Jvm.Free.Fl
/-- a * 2^x = b -/
def PE (a b : Nat) (x : Int) : Prop := a * 2 ^ x.toNat = b * 2 ^ (-x).toNat
theorem pe_iff {a b : Nat} {x : Int} (y z : Nat) (h : x = (y : Int) - z) : PE a b x ↔ a * 2 ^ y = b * 2 ^ z := by
  unfold PE
  obtain ⟨d, rfl, rfl⟩ : ∃ d, y = x.toNat + d ∧ z = (-x).toNat + d := ⟨min y z, by omega, by omega⟩
  have p1 : 0 < 2 ^ d := Nat.two_pow_pos _
  rw [Nat.pow_add, Nat.pow_add, ← Nat.mul_assoc, ← Nat.mul_assoc]
  exact ⟨fun q => by rw [q], fun q => Nat.eq_of_mul_eq_mul_right p1 q⟩
theorem PE.symm {a b : Nat} {x : Int} (h : PE a b x) : PE b a (-x) := by
  unfold PE at h ⊢; rw [Int.neg_neg]; exact h.symm
theorem PE.trans {a b c : Nat} {x y : Int} (h : PE a b x) (g : PE b c y) : PE a c (x + y) := by
  rw [pe_iff (x.toNat + y.toNat) ((-x).toNat + (-y).toNat) (by omega)]
  unfold PE at h g
  rw [Nat.pow_add, Nat.pow_add, ← Nat.mul_assoc, h, Nat.mul_right_comm, g, Nat.mul_assoc, Nat.mul_comm (2 ^ (-y).toNat)]
theorem PE.mul {a b : Nat} {x : Int} (h : PE a b x) (c : Nat) : PE (c * a) (c * b) x := by
  unfold PE at h ⊢; rw [Nat.mul_assoc, Nat.mul_assoc, h]
theorem PE.of {a b : Nat} {y z : Nat} (h : a * 2 ^ y = b * 2 ^ z) : PE a b ((y : Int) - z) := (pe_iff y z rfl).mpr h
theorem PE.cast {a b : Nat} {x y : Int} (h : PE a b x) (e : x = y) : PE a b y := e ▸ h
/-- the datum times 2^k -/
def sh (k : Int) : Datum → Datum
  | .fin s c q => .fin s c (q + k)
  | d => d
/-- the double a is i / 2^k, just so -/
def Dy (i : Int) (k : Nat) (a : UInt64) : Prop := Whole i (sh k (val64 a))
theorem Dy.fin {i : Int} {k : Nat} {a : UInt64} (h : Dy i k a) : ∃ s c q, val64 a = .fin s c q := by
  unfold Dy at h
  cases hv : val64 a with
  | nan => rw [hv] at h; exact h.elim
  | inf s => rw [hv] at h; exact h.elim
  | fin s c q => exact ⟨s, c, q, rfl⟩
theorem Dy.dfin {i : Int} {k : Nat} {a : UInt64} (h : Dy i k a) : DFin a := h.fin
theorem Dy.fin64 {i : Int} {k : Nat} {a : UInt64} (h : Dy i k a) : Fin64 a := fin64_core.mpr h.fin
theorem Dy.nn {i : Int} {k : Nat} {a : UInt64} (h : Dy i k a) : NoNaN64 a := h.fin64.noNaN
theorem Dy.ne {i : Int} {k : Nat} {a : UInt64} (h : Dy i k a) : val64 a ≠ .nan := h.dfin.ne_nan
theorem dy_int {i : Int} {a : UInt64} (h : DInt i a) : Dy i 0 a := by
  unfold DInt at h; unfold Dy
  cases hv : val64 a with
  | nan => rw [hv] at h; exact h.elim
  | inf s => rw [hv] at h; exact h.elim
  | fin s c q => rw [hv] at h; show Whole i (.fin s c (q + 0)); rw [Int.add_zero]; exact h
theorem Dy.int {i : Int} {a : UInt64} (h : Dy i 0 a) : DInt i a := by
  obtain ⟨s, c, q, hv⟩ := h.fin
  unfold Dy at h; unfold DInt
  rw [hv] at h ⊢
  have h : Whole i (.fin s c (q + 0)) := h
  rw [Int.add_zero] at h; exact h
theorem dy_i2d (x : Int32) : Dy x.toInt 0 (FP.i2d x) := dy_int (i2d_int x)
theorem dy_l2d {x : Int64} (h : x.toInt.natAbs ≤ 2 ^ 53) : Dy x.toInt 0 (FP.l2d x) := dy_int (l2d_int h)
theorem whole_pe {i : Int} {s : Bool} {c : Nat} {q : Int} (h : Whole i (.fin s c q)) : PE c i.natAbs q := whole_natAbs h
/-- what is so small a multiple of a power of two is a double -/
theorem dy_rnd {i : Int} {k : Nat} {s : Bool} {n : Nat} (hn : i.natAbs = n) (hs : i ≠ 0 → s = decide (i < 0)) (hi : n ≤ 2 ^ 53) (hk : k ≤ 1000) : Whole i (sh k (roundRatio b64 s n 1 (-(k : Int)))) := by
  by_cases h0 : n = 0
  · have : i = 0 := by omega
    subst this
    unfold roundRatio
    rw [if_pos h0]
    show signed s (0 * _) = 0 * _
    rw [Nat.zero_mul, Int.zero_mul]; exact signed_zero s
  · obtain ⟨c, q, hfit, hv⟩ := natFit good_b64 wide_b64 s (n := n) hi
    have hq : q = -1074 ∨ b64.tails ≤ c := by have := hfit.2.2.2; rw [qmin_b64] at this; exact this
    have hv' : n * 2 ^ (-q).toNat = c * 2 ^ q.toNat := by
      rw [show (0 - q).toNat = (-q).toNat by omega, show (q - 0).toNat = q.toNat by omega, Nat.mul_one] at hv; exact hv
    have hc : c < 2 ^ 53 := hfit.1
    have hq2 : q ≤ b64.qmax := hfit.2.2.1
    have hq1 : -53 ≤ q := by
      refine Int.le_of_not_gt fun hlt => ?_
      have e1 : q.toNat = 0 := by omega
      rw [e1, Nat.pow_zero, Nat.mul_one] at hv'
      have : 2 ^ 53 ≤ 2 ^ (-q).toNat := Nat.pow_le_pow_right (by decide) (by omega)
      have h2 : 1 * 2 ^ 53 ≤ n * 2 ^ (-q).toNat := Nat.mul_le_mul (by omega) this
      omega
    have hfit2 : Core.fits b64 (.fin s c (q - k)) := by
      refine ⟨hfit.1, ?_, by omega, Or.inr ?_⟩
      · rw [qmin_b64]; omega
      · rcases hq with hq | hq
        · omega
        · exact hq
    rw [roundRatio_exact good_b64 (by decide) hfit2 (by
      rw [show (-(k : Int) - (q - k)).toNat = (-q).toNat by omega, show (q - (k : Int) - -(k : Int)).toNat = q.toNat by omega, Nat.mul_one]; exact hv')]
    show Whole i (.fin s c (q - k + k))
    rw [show q - (k : Int) + k = q by omega]
    show signed s (c * 2 ^ q.toNat) = i * _
    rw [← hv', signed_mul, hs (by omega)]
    congr 1
    unfold signed
    by_cases h : i < 0 <;> simp [h] <;> omega
theorem dy_round {i : Int} {k : Nat} {s : Bool} {c : Nat} {q : Int} (h : Whole i (.fin s c (q + k))) (hi : i.natAbs ≤ 2 ^ 53) (hk : k ≤ 1000) : Whole i (sh k (round b64 (.fin s c q))) := by
  have e : round b64 (.fin s c q) = roundRatio b64 s i.natAbs 1 (-(k : Int)) := by
    refine roundRatio_congr (by decide) (by decide) ?_
    have := whole_natAbs h
    rw [show (q - -(k : Int)).toNat = (q + k).toNat by omega, show (-(k : Int) - q).toNat = (-(q + k)).toNat by omega]
    simpa using this
  rw [e]
  exact dy_rnd rfl (fun hz => whole_sign h hz) hi hk
theorem sh_sum (k : Int) (s : Bool) (c : Nat) (q : Int) (t : Bool) (d : Nat) (r : Int) : sh k (exactSum (.fin s c q) (.fin t d r)) = exactSum (.fin s c (q + k)) (.fin t d (r + k)) := by
  have e : min (q + k) (r + k) = min q r + k := by omega
  simp only [exactSum, sh, e, sumUnits, inUnits]
  rw [show q + k - (min q r + k) = q - min q r by omega, show r + k - (min q r + k) = r - min q r by omega]
theorem dy_add {i j : Int} {k : Nat} {a b : UInt64} (ha : Dy i k a) (hb : Dy j k b) (h : (i + j).natAbs ≤ 2 ^ 53) (hk : k ≤ 1000) : Dy (i + j) k (FP.dadd a b) := by
  obtain ⟨s, c, q, ea⟩ := ha.fin
  obtain ⟨t, d, r, eb⟩ := hb.fin
  unfold Dy at ha hb ⊢
  rw [ea] at ha; rw [eb] at hb
  have w : Whole (i + j) (sh k (exactSum (.fin s c q) (.fin t d r))) := by rw [sh_sum]; exact whole_sum ha hb
  rw [show FP.dadd a b = Core.dadd a b from rfl, val64_dadd, ea, eb]
  exact dy_round w h hk
theorem dy_neg {i : Int} {k : Nat} {a : UInt64} (ha : Dy i k a) : Dy (-i) k (FP.dneg a) := by
  obtain ⟨s, c, q, ea⟩ := ha.fin
  unfold Dy at ha ⊢
  rw [ea] at ha
  rw [FP.val64_dneg, ea]
  exact whole_negate ha
theorem dy_sub {i j : Int} {k : Nat} {a b : UInt64} (ha : Dy i k a) (hb : Dy j k b) (h : (i - j).natAbs ≤ 2 ^ 53) (hk : k ≤ 1000) : Dy (i - j) k (FP.dsub a b) := by
  obtain ⟨s, c, q, ea⟩ := ha.fin
  obtain ⟨t, d, r, eb⟩ := hb.fin
  unfold Dy at ha hb ⊢
  rw [ea] at ha; rw [eb] at hb
  have hb' : Whole (-j) (.fin (!t) d (r + k)) := whole_negate hb
  have w : Whole (i - j) (sh k (exactSum (.fin s c q) (.fin (!t) d r))) := by rw [sh_sum]; exact whole_sum ha hb'
  rw [show FP.dsub a b = Core.dsub a b from rfl, val64_dsub, ea, eb]
  exact dy_round w h hk
theorem dy_mul {i j : Int} {k n : Nat} {a b : UInt64} (ha : Dy i k a) (hb : Dy j n b) (h : (i * j).natAbs ≤ 2 ^ 53) (hk : k + n ≤ 1000) : Dy (i * j) (k + n) (FP.dmul a b) := by
  obtain ⟨s, c, q, ea⟩ := ha.fin
  obtain ⟨t, d, r, eb⟩ := hb.fin
  unfold Dy at ha hb ⊢
  rw [ea] at ha; rw [eb] at hb
  have w : Whole (i * j) (.fin (s != t) (c * d) (q + r + (k + n : Nat))) := by
    have := whole_product ha hb
    rw [show q + r + ((k + n : Nat) : Int) = q + k + (r + n) by omega]; exact this
  rw [show FP.dmul a b = Core.dmul a b from rfl, val64_dmul, ea, eb]
  exact dy_round w h hk
theorem dy_up {i : Int} {k : Nat} {a : UInt64} (n : Nat) (ha : Dy i k a) : Dy (i * (2 ^ n : Nat)) (k + n) a := by
  obtain ⟨s, c, q, ea⟩ := ha.fin
  unfold Dy at ha ⊢
  rw [ea] at ha ⊢
  have ha : signed s (c * 2 ^ (q + k).toNat) = i * ((2 ^ (-(q + k)).toNat : Nat) : Int) := ha
  show signed s (c * 2 ^ (q + (k + n : Nat)).toNat) = i * (2 ^ n : Nat) * ((2 ^ (-(q + (k + n : Nat))).toNat : Nat) : Int)
  have p2 : ((2 ^ (-(q + (k : Int))).toNat : Nat) : Int) ≠ 0 := by have := Nat.two_pow_pos (-(q + (k : Int))).toNat; omega
  have e1 : (q + ((k + n : Nat) : Int)).toNat + (-(q + (k : Int))).toNat = (q + (k : Int)).toNat + (n + (-(q + ((k + n : Nat) : Int))).toNat) := by omega
  rw [signed_mul] at ha ⊢
  refine Int.eq_of_mul_eq_mul_right p2 ?_
  rw [Int.mul_assoc, ← Int.natCast_mul, ← Nat.pow_add, e1, Nat.pow_add, Int.natCast_mul, ← Int.mul_assoc, ha, Nat.pow_add, Int.natCast_mul]
  ac_rfl
theorem dy_cmp {i j : Int} {k : Nat} {a b : UInt64} (ha : Dy i k a) (hb : Dy j k b) : FP.dcmp a b = some (compare i j) := by
  obtain ⟨s, c, q, ea⟩ := ha.fin
  obtain ⟨t, d, r, eb⟩ := hb.fin
  unfold Dy at ha hb
  rw [ea] at ha; rw [eb] at hb
  have w := order_whole ha hb
  show order (val64 a) (val64 b) = _
  rw [ea, eb, ← w]
  have e : min (q + k) (r + k) = min q r + k := by omega
  simp only [order, sh, e, inUnits]
  rw [show q + k - (min q r + k) = q - min q r by omega, show r + k - (min q r + k) = r - min q r by omega]
theorem dy_div {i j t : Int} {k n r : Nat} {a b : UInt64} (ha : Dy i k a) (hb : Dy j n b) (hj : j ≠ 0) (h : i * (2 ^ (n + r) : Nat) = t * j * (2 ^ k : Nat)) (ht : t.natAbs ≤ 2 ^ 53) (hr : r ≤ 1000) : Dy t r (FP.ddiv a b) := by
  obtain ⟨s, c, q, ea⟩ := ha.fin
  obtain ⟨u, d, z, eb⟩ := hb.fin
  unfold Dy at ha hb ⊢
  rw [ea] at ha; rw [eb] at hb
  have ha : Whole i (.fin s c (q + k)) := ha
  have hb : Whole j (.fin u d (z + n)) := hb
  have hd : d ≠ 0 := fun e => hj ((whole_zero hb).mp e)
  rw [show FP.ddiv a b = Core.ddiv a b from rfl, val64_ddiv, ea, eb]
  show Whole t (sh r (if d = 0 then _ else roundRatio b64 (s != u) c d (q - z)))
  rw [if_neg hd]
  have pn : (0 : Int) < ((2 ^ (n + r) : Nat) : Int) := by have := Nat.two_pow_pos (n + r); omega
  have pk : (0 : Int) < ((2 ^ k : Nat) : Int) := by have := Nat.two_pow_pos k; omega
  have hn : i.natAbs * 2 ^ (n + r) = t.natAbs * j.natAbs * 2 ^ k := by
    have := congrArg Int.natAbs h
    rw [Int.natAbs_mul, Int.natAbs_mul, Int.natAbs_mul, Int.natAbs_natCast, Int.natAbs_natCast] at this
    exact this
  have e : roundRatio b64 (s != u) c d (q - z) = roundRatio b64 (s != u) t.natAbs 1 (-(r : Int)) := by
    refine roundRatio_congr (by omega) (by decide) ?_
    have g := ((whole_pe ha).trans (PE.of hn)).trans ((whole_pe hb).symm.mul t.natAbs)
    have g' : PE c (t.natAbs * d) (q - z + r) := g.cast (by omega)
    unfold PE at g'
    rw [show (q - z - -(r : Int)).toNat = (q - z + r).toNat by omega, show (-(r : Int) - (q - z)).toNat = (-(q - z + r)).toNat by omega, Nat.mul_one]
    exact g'
  rw [e]
  refine dy_rnd rfl (fun hz => ?_) ht hr
  have hi : i ≠ 0 := by
    rintro rfl
    rw [Int.zero_mul] at h
    rcases Int.mul_eq_zero.mp h.symm with q | q
    · rcases Int.mul_eq_zero.mp q with q | q
      · exact hz q
      · exact hj q
    · omega
  rw [whole_sign ha hi, whole_sign hb hj]
  have g1 : i < 0 ↔ t * j < 0 := by
    constructor
    · intro q
      have : t * j * ((2 ^ k : Nat) : Int) < 0 := by rw [← h]; exact Int.mul_neg_of_neg_of_pos q pn
      exact Int.lt_of_not_ge fun q' => by have := Int.mul_nonneg q' (Int.le_of_lt pk); omega
    · intro q
      have : i * ((2 ^ (n + r) : Nat) : Int) < 0 := by rw [h]; exact Int.mul_neg_of_neg_of_pos q pk
      exact Int.lt_of_not_ge fun q' => by have := Int.mul_nonneg q' (Int.le_of_lt pn); omega
  rcases Int.lt_or_lt_of_ne hz with ht0 | ht0 <;> rcases Int.lt_or_lt_of_ne hj with hj0 | hj0
  · have q1 := Int.mul_pos_of_neg_of_neg ht0 hj0
    have q2 : ¬ i < 0 := by rw [g1]; omega
    simp [ht0, hj0, q2]
  · have q1 := Int.mul_neg_of_neg_of_pos ht0 hj0
    have q2 : i < 0 := by rw [g1]; exact q1
    have q3 : ¬ j < 0 := by omega
    simp [ht0, q2, q3]
  · have q1 := Int.mul_neg_of_pos_of_neg ht0 hj0
    have q2 : i < 0 := by rw [g1]; exact q1
    have q3 : ¬ t < 0 := by omega
    simp [hj0, q2, q3]
  · have q1 := Int.mul_pos ht0 hj0
    have q2 : ¬ i < 0 := by rw [g1]; omega
    have q3 : ¬ t < 0 := by omega
    have q4 : ¬ j < 0 := by omega
    simp [q2, q3, q4]
theorem dy_eq {i j : Int} {k : Nat} {a b : UInt64} (ha : Dy i k a) (hb : Dy j k b) (h : i = j) : FP.dcmp a b = some .eq := by
  rw [dy_cmp ha hb, h, compare_self_int]
theorem dy_lt {i j : Int} {k : Nat} {a b : UInt64} (ha : Dy i k a) (hb : Dy j k b) (h : i < j) : FP.dcmp a b = some .lt := by
  rw [dy_cmp ha hb, (compare_lt_iff i j).mpr h]
theorem dy_gt {i j : Int} {k : Nat} {a b : UInt64} (ha : Dy i k a) (hb : Dy j k b) (h : j < i) : FP.dcmp a b = some .gt := by
  rw [dy_cmp ha hb, (compare_gt_iff i j).mpr h]
theorem dy_cast {i j : Int} {k n : Nat} {a : UInt64} (h : Dy i k a) (e : i = j) (e' : k = n) : Dy j n a := by subst e e'; exact h
theorem dy_zero : Dy 0 0 (0 : UInt64) := by
  show Whole 0 (sh 0 (val64 0)); rw [val64_zero]
  show signed false (0 * _) = 0 * _
  rw [Nat.zero_mul, Int.zero_mul]; rfl
end Jvm.OwnFP
namespace Jvm.OwnFP
open Jvm.FP Jvm.FP.Core Jvm.Free.Fl
/-! ## numbers with a bound: an int, a long, a double that is i (over 2^k), i at most N -/
def Ib (N : Nat) (i : Int) (x : Int32) : Prop := x.toInt = i ∧ i.natAbs ≤ N
def Lb (N : Nat) (i : Int) (x : Int64) : Prop := x.toInt = i ∧ i.natAbs ≤ N
def Db (N : Nat) (i : Int) (k : Nat) (a : UInt64) : Prop := Dy i k a ∧ i.natAbs ≤ N
theorem Ib.lit (N : Nat) (i : Int) (x : Int32) (h : x.toInt = i ∧ i.natAbs ≤ N := by decide) : Ib N i x := h
theorem Lb.lit (N : Nat) (i : Int) (x : Int64) (h : x.toInt = i ∧ i.natAbs ≤ N := by decide) : Lb N i x := h
theorem Ib.any (x : Int32) : Ib (2 ^ 31) x.toInt x := ⟨rfl, by have := x.toInt_lt; have := x.le_toInt; omega⟩
theorem Ib.cast {N M : Nat} {i j : Int} {x : Int32} (h : Ib N i x) (e : i = j) (g : j.natAbs ≤ M) : Ib M j x := ⟨h.1.trans e, g⟩
theorem Lb.cast {N M : Nat} {i j : Int} {x : Int64} (h : Lb N i x) (e : i = j) (g : j.natAbs ≤ M) : Lb M j x := ⟨h.1.trans e, g⟩
theorem Db.cast {N M : Nat} {i j : Int} {k : Nat} {a : UInt64} (h : Db N i k a) (e : i = j) (g : j.natAbs ≤ M) : Db M j k a := by subst e; exact ⟨h.1, g⟩
theorem bn_add {a b : Int} {N M : Nat} (h1 : a.natAbs ≤ N) (h2 : b.natAbs ≤ M) : (a + b).natAbs ≤ N + M := by omega
theorem bn_sub {a b : Int} {N M : Nat} (h1 : a.natAbs ≤ N) (h2 : b.natAbs ≤ M) : (a - b).natAbs ≤ N + M := by omega
theorem bn_mul {a b : Int} {N M : Nat} (h1 : a.natAbs ≤ N) (h2 : b.natAbs ≤ M) : (a * b).natAbs ≤ N * M := by rw [Int.natAbs_mul]; exact Nat.mul_le_mul h1 h2
section
variable {N M : Nat} {i j : Int} {k n : Nat}
theorem Ib.add {x y : Int32} (h1 : Ib N i x) (h2 : Ib M j y) (h : N + M < 2147483648) : Ib (N + M) (i + j) (x + y) := by
  obtain ⟨rfl, b1⟩ := h1
  obtain ⟨rfl, b2⟩ := h2
  have b := bn_add b1 b2
  exact ⟨Jvm.Free.XT.add32 ⟨by omega, by omega⟩, b⟩
theorem Ib.sub {x y : Int32} (h1 : Ib N i x) (h2 : Ib M j y) (h : N + M < 2147483648) : Ib (N + M) (i - j) (x - y) := by
  obtain ⟨rfl, b1⟩ := h1
  obtain ⟨rfl, b2⟩ := h2
  have b := bn_sub b1 b2
  exact ⟨Jvm.Free.XT.sub32 ⟨by omega, by omega⟩, b⟩
theorem Ib.mul {x y : Int32} (h1 : Ib N i x) (h2 : Ib M j y) (h : N * M < 2147483648) : Ib (N * M) (i * j) (x * y) := by
  obtain ⟨rfl, b1⟩ := h1
  obtain ⟨rfl, b2⟩ := h2
  have b := bn_mul b1 b2
  exact ⟨Jvm.Free.XT.mul32 ⟨by omega, by omega⟩, b⟩
theorem Lb.add {x y : Int64} (h1 : Lb N i x) (h2 : Lb M j y) (h : N + M < 9223372036854775808) : Lb (N + M) (i + j) (x + y) := by
  obtain ⟨rfl, b1⟩ := h1
  obtain ⟨rfl, b2⟩ := h2
  have b := bn_add b1 b2
  exact ⟨Jvm.Free.XT.add64 ⟨by omega, by omega⟩, b⟩
theorem Lb.sub {x y : Int64} (h1 : Lb N i x) (h2 : Lb M j y) (h : N + M < 9223372036854775808) : Lb (N + M) (i - j) (x - y) := by
  obtain ⟨rfl, b1⟩ := h1
  obtain ⟨rfl, b2⟩ := h2
  have b := bn_sub b1 b2
  exact ⟨Jvm.Free.XT.sub64 ⟨by omega, by omega⟩, b⟩
theorem Lb.mul {x y : Int64} (h1 : Lb N i x) (h2 : Lb M j y) (h : N * M < 9223372036854775808) : Lb (N * M) (i * j) (x * y) := by
  obtain ⟨rfl, b1⟩ := h1
  obtain ⟨rfl, b2⟩ := h2
  have b := bn_mul b1 b2
  exact ⟨Jvm.Free.XT.mul64 ⟨by omega, by omega⟩, b⟩
theorem Lb.neg {x : Int64} (h1 : Lb N i x) (h : N < 9223372036854775808) : Lb N (-i) (-x) := by
  obtain ⟨rfl, h2⟩ := h1
  exact ⟨int64_neg (by omega), by omega⟩
theorem Ib.i2l {x : Int32} (h : Ib N i x) : Lb N i x.toInt64 := ⟨(Int32.toInt_toInt64 x).trans h.1, h.2⟩
theorem Lb.l2i {x : Int64} (h : Lb N i x) (hN : N < 2147483648) : Ib N i x.toInt32 := by
  obtain ⟨rfl, h2⟩ := h
  exact ⟨int64_toInt32 (by omega) (by omega), h2⟩
theorem Ib.i2d {x : Int32} (h : Ib N i x) : Db N i 0 (FP.i2d x) := by obtain ⟨rfl, h2⟩ := h; exact ⟨dy_i2d x, h2⟩
theorem Lb.l2d {x : Int64} (h : Lb N i x) (hN : N ≤ 9007199254740992) : Db N i 0 (FP.l2d x) := by obtain ⟨rfl, h2⟩ := h; exact ⟨dy_l2d (Nat.le_trans h2 hN), h2⟩
theorem Db.nn {a : UInt64} (h : Db N i k a) : NoNaN64 a := h.1.nn
theorem Db.add {a b : UInt64} (h1 : Db N i k a) (h2 : Db M j k b) (h : N + M ≤ 9007199254740992 ∧ k ≤ 1000) : Db (N + M) (i + j) k (FP.dadd a b) :=
  ⟨dy_add h1.1 h2.1 (Nat.le_trans (bn_add h1.2 h2.2) h.1) h.2, bn_add h1.2 h2.2⟩
theorem Db.sub {a b : UInt64} (h1 : Db N i k a) (h2 : Db M j k b) (h : N + M ≤ 9007199254740992 ∧ k ≤ 1000) : Db (N + M) (i - j) k (FP.dsub a b) :=
  ⟨dy_sub h1.1 h2.1 (Nat.le_trans (bn_sub h1.2 h2.2) h.1) h.2, bn_sub h1.2 h2.2⟩
theorem Db.mul {a b : UInt64} (h1 : Db N i k a) (h2 : Db M j n b) (h : N * M ≤ 9007199254740992 ∧ k + n ≤ 1000) : Db (N * M) (i * j) (k + n) (FP.dmul a b) :=
  ⟨dy_mul h1.1 h2.1 (Nat.le_trans (bn_mul h1.2 h2.2) h.1) h.2, bn_mul h1.2 h2.2⟩
theorem Db.neg {a : UInt64} (h1 : Db N i k a) : Db N (-i) k (FP.dneg a) := ⟨dy_neg h1.1, by have := h1.2; omega⟩
theorem Db.eq {a b : UInt64} (h1 : Db N i k a) (h2 : Db M j k b) (e : i = j) : FP.dcmp a b = some .eq := dy_eq h1.1 h2.1 e
theorem Db.up {a : UInt64} (h : Db N i k a) (n : Nat) : Db (N * 2 ^ n) (i * (2 ^ n : Nat)) (k + n) a := ⟨dy_up n h.1, by rw [Int.natAbs_mul, Int.natAbs_natCast]; exact Nat.mul_le_mul_right _ h.2⟩
theorem Db.zero : Db 0 0 0 (0 : UInt64) := ⟨dy_zero, Nat.le_refl _⟩
theorem Db.div2 {a b : UInt64} (e : Nat) (h1 : Db N i k a) (h2 : Db M ((2 ^ e : Nat) : Int) 0 b) (h : N ≤ 9007199254740992 ∧ k + e ≤ 1000) : Db N i (k + e) (FP.ddiv a b) := by
  refine ⟨dy_div h1.1 h2.1 (by have := Nat.two_pow_pos e; omega) ?_ (Nat.le_trans h1.2 h.1) h.2, h1.2⟩
  rw [Nat.zero_add, Nat.pow_add, Int.natCast_mul, Int.mul_assoc, Int.mul_comm ((2 ^ k : Nat) : Int)]
theorem Db.lit {a : UInt64} (s : Bool) (c : Nat) (q : Int) (N : Nat) (i : Int) (k : Nat) (e : val64 a = .fin s c q) (w : signed s (c * 2 ^ (q + k).toNat) = i * ((2 ^ (-(q + (k : Int))).toNat : Nat) : Int) ∧ i.natAbs ≤ N) : Db N i k a := by
  refine ⟨?_, w.2⟩
  unfold Dy; rw [e]; exact w.1
theorem Ib.re {x : Int32} (h : Ib N i x) : Ib N x.toInt x := ⟨rfl, by rw [h.1]; exact h.2⟩
theorem Lb.re {x : Int64} (h : Lb N i x) : Lb N x.toInt x := ⟨rfl, by rw [h.1]; exact h.2⟩
theorem Db.weak {M : Nat} {a : UInt64} (h : Db N i k a) (q : N ≤ M) : Db M i k a := ⟨h.1, Nat.le_trans h.2 q⟩
theorem Lb.weak {M : Nat} {a : Int64} (h : Lb N i a) (q : N ≤ M) : Lb M i a := ⟨h.1, Nat.le_trans h.2 q⟩
theorem Ib.weak {M : Nat} {a : Int32} (h : Ib N i a) (q : N ≤ M) : Ib M i a := ⟨h.1, Nat.le_trans h.2 q⟩
end
end Jvm.OwnFP
namespace Jvm.OwnPlain
open Jvm.OwnFP
theorem own_rem (x : Int32) : Ib 1048576 (x % (1048576 : Int32)).toInt (x % (1048576 : Int32)) := ⟨rfl, by
  have h := Jvm.RoadKit.c_irem x 1048576 1048576 rfl; have := h.1; have := h.2; omega⟩
end Jvm.OwnPlain
namespace Jvm.Pilot.@@N@@
open Jvm Jvm.ClassFile Sem Op Lib Jvm.Free Jvm.Stand Jvm.LawKit Jvm.RoadKit Bundle Jvm.Pilot.@@N@@.Jvm.D Jvm.OwnGo
theorem wd {a0 : Array Value} {Z : State} (hw : ∀ d ∈ tables_1, d.before a0 Z = true) (k : Nat) (d : Jvm.Cond) (hd : tables_1[k]? = some d) : d.before a0 Z = true := hw _ (List.mem_of_getElem? hd)
theorem pn_law : plainFor x = true := plainFor_of_name (by show plainName "com/example/lamina3/lamina3/AffineMapDeterminantPinLaw" = true; first | (simp [plainName, overriddenIn]; done) | decide +kernel)
open Jvm.OwnPlain Jvm.OwnFP
theorem d3_0 : decode jdk_117_method_8_code 0 = .ok (.dload_n 0, 1) := by decide +kernel
theorem d3_1 : decode jdk_117_method_8_code 1 = .ok (.invokestatic 38, 3) := by decide +kernel
theorem d3_4 : decode jdk_117_method_8_code 4 = .ok (.ldc2_w 111, 3) := by decide +kernel
theorem d3_7 : decode jdk_117_method_8_code 7 = .ok (.dcmp .g, 1) := by decide +kernel
theorem d3_8 : decode jdk_117_method_8_code 8 = .ok (.ifCond .gt 7, 3) := by decide +kernel
theorem d3_11 : decode jdk_117_method_8_code 11 = .ok (.iconst 1, 1) := by decide +kernel
theorem d3_12 : decode jdk_117_method_8_code 12 = .ok (.goto 4, 3) := by decide +kernel
theorem d3_15 : decode jdk_117_method_8_code 15 = .ok (.iconst 0, 1) := by decide +kernel
theorem d3_16 : decode jdk_117_method_8_code 16 = .ok (.ireturn, 1) := by decide +kernel
theorem pd_3 : parseMethodDescriptor "(D)Z" = some ⟨[.double], some .boolean⟩ := by decide +kernel
theorem pn_3 : plainFor (⟨"java/lang/Double", "isFinite", "(D)Z"⟩ : MethodName) = true := plainFor_of_name (by show plainName "java/lang/Double" = true; first | (simp [plainName, overriddenIn]; done) | decide +kernel)
set_option maxRecDepth 65536 in
set_option maxHeartbeats 40000000 in
theorem rm_isfin (l : Launch) (Z : State) (a0 : Array Value) (hw : ∀ d ∈ tables_1, d.before a0 Z = true) (ws : List Jvm.Cond) (x : UInt64) (h0 : Heap) (n0 : Nat) (Z0 : n0 ≤ h0.size) (hf : Jvm.Free.Fl.Fin64 x) :
    Ct l Z (⟨"java/lang/Double", "isFinite", "(D)Z"⟩ : MethodName) jdk_117_method_8_code 2 (some .boolean) ws ({ frames := 1, cells := 0, slots := 0, locals := 13 } : Room) #[.double x] h0 (fun v h L => v = some (.int 1) ∧ Fr n0 L ∧ h = h0) := by
  refine Ct.intro pn_3 #[.val (.double x), .second] (fun _ => by first | (simp [entryFrame, mkF, argsToLocals, Value.category, maxLocals]; done) | rfl) ?_
  intro p e s m below meth c T0 X0 hx hZ hby hml hown hnm hret hlk e0
  have N0 := Fr.nil n0
  refine s_dloadN X0 hx (hb hby d3_0) rfl 1 rfl ?_
  obtain ⟨T1, X1, e1, st1⟩ := natS X0 hx hZ hown (wd hw 18 _ rfl) (wd hw 19 _ rfl) (wd hw 20 _ rfl) (wd hw 21 _ rfl) (by decide) e0 (W := 0) (fun q => Jvm.Free.Fl.Abs.absD_pays x q (by decide) (by decide)) (g := (mkF m 1 #[.val (.double x), .second] [.double x])) rfl (by rw [hml]; rfl) (argsL := [.double x]) (rest := []) (lenOf (d := "(D)D") (ps := [.double]) (r := some .double) (by decide +kernel) rfl) rfl (by show 2 * 0 + _ ≤ _; exact Nat.le_of_eq rfl) (hb hby d3_1) (by decide) (by decide) ⟨rfl, hf.noNaN⟩ rfl
  refine Go.via st1 ?_
  show Go p e below _ (T1.setTop (mkF m 4 #[.val (.double x), .second] [.double (x &&& 0x7fffffffffffffff)]))
  refine s_ldc2D X1 hx (hb hby d3_4) hZ hown (wd hw 22 _ rfl) 7 rfl ?_
  refine s_dcmp X1 hx (hb hby d3_7) (cmpValue (FP.dcmp (x &&& 0x7fffffffffffffff) (9218868437227405311 : UInt64)) .g) rfl 8 rfl ?_
  refine s_ifN X1 hx (hb hby d3_8) (dd_gt_f (Jvm.FP.Core.le_max (Jvm.Free.Fl.fin64_core.mp hf).notNaN |>.mpr (Jvm.Free.Fl.fin64_core.mp hf))) 11 rfl ?_
  refine s_iconst X1 hx (hb hby d3_11) (1 : Int32) rfl 12 rfl ?_
  refine s_goto X1 hx (hb hby d3_12) 16 (by decide) (by decide) ?_
  exact retZ X1 hx hlk hret (hb hby d3_16) (by decide) e1 ⟨rfl, N0, rfl⟩ (by decide) (by decide)
theorem d2_0 : decode prog_1_method_11_code 0 = .ok (.aload_n 0, 1) := by decide +kernel
theorem d2_1 : decode prog_1_method_11_code 1 = .ok (.astore_n 1, 1) := by decide +kernel
theorem d2_2 : decode prog_1_method_11_code 2 = .ok (.aload_n 1, 1) := by decide +kernel
theorem d2_3 : decode prog_1_method_11_code 3 = .ok (.arraylength, 1) := by decide +kernel
theorem d2_4 : decode prog_1_method_11_code 4 = .ok (.istore_n 2, 1) := by decide +kernel
theorem d2_5 : decode prog_1_method_11_code 5 = .ok (.iconst 0, 1) := by decide +kernel
theorem d2_6 : decode prog_1_method_11_code 6 = .ok (.istore_n 3, 1) := by decide +kernel
theorem d2_7 : decode prog_1_method_11_code 7 = .ok (.iload_n 3, 1) := by decide +kernel
theorem d2_8 : decode prog_1_method_11_code 8 = .ok (.iload_n 2, 1) := by decide +kernel
theorem d2_9 : decode prog_1_method_11_code 9 = .ok (.if_icmp .ge 24, 3) := by decide +kernel
theorem d2_12 : decode prog_1_method_11_code 12 = .ok (.aload_n 1, 1) := by decide +kernel
theorem d2_13 : decode prog_1_method_11_code 13 = .ok (.iload_n 3, 1) := by decide +kernel
theorem d2_14 : decode prog_1_method_11_code 14 = .ok (.daload, 1) := by decide +kernel
theorem d2_15 : decode prog_1_method_11_code 15 = .ok (.dstore 4, 2) := by decide +kernel
theorem d2_17 : decode prog_1_method_11_code 17 = .ok (.dload 4, 2) := by decide +kernel
theorem d2_19 : decode prog_1_method_11_code 19 = .ok (.invokestatic 81, 3) := by decide +kernel
theorem d2_22 : decode prog_1_method_11_code 22 = .ok (.ifCond .ne 5, 3) := by decide +kernel
theorem d2_25 : decode prog_1_method_11_code 25 = .ok (.iconst 0, 1) := by decide +kernel
theorem d2_26 : decode prog_1_method_11_code 26 = .ok (.ireturn, 1) := by decide +kernel
theorem d2_27 : decode prog_1_method_11_code 27 = .ok (.iinc 3 1, 3) := by decide +kernel
theorem d2_30 : decode prog_1_method_11_code 30 = .ok (.goto (-23), 3) := by decide +kernel
theorem d2_33 : decode prog_1_method_11_code 33 = .ok (.iconst 1, 1) := by decide +kernel
theorem d2_34 : decode prog_1_method_11_code 34 = .ok (.ireturn, 1) := by decide +kernel
theorem pd_2 : parseMethodDescriptor "([D)Z" = some ⟨[.array .double], some .boolean⟩ := by decide +kernel
theorem pn_2 : plainFor (⟨"com/example/lamina3/lamina3/AffineMap", "allFinite", "([D)Z"⟩ : MethodName) = true := plainFor_of_name (by show plainName "com/example/lamina3/lamina3/AffineMap" = true; first | (simp [plainName, overriddenIn]; done) | decide +kernel)
set_option maxRecDepth 65536 in
set_option maxHeartbeats 40000000 in
theorem rm_allfin (l : Launch) (Z : State) (a0 : Array Value) (hw : ∀ d ∈ tables_1, d.before a0 Z = true) (ws : List Jvm.Cond) (a1 : Addr) (k1 : ClassId) (x0 x1 x2 x3 x4 x5 : UInt64) (h0 : Heap) (n0 : Nat) (Z0 : n0 ≤ h0.size) (A1 : AR Z h0 a1 k1 .double [.double x0, .double x1, .double x2, .double x3, .double x4, .double x5]) (hf0 : Jvm.Free.Fl.Fin64 x0) (hf1 : Jvm.Free.Fl.Fin64 x1) (hf2 : Jvm.Free.Fl.Fin64 x2) (hf3 : Jvm.Free.Fl.Fin64 x3) (hf4 : Jvm.Free.Fl.Fin64 x4) (hf5 : Jvm.Free.Fl.Fin64 x5) :
    Ct l Z (⟨"com/example/lamina3/lamina3/AffineMap", "allFinite", "([D)Z"⟩ : MethodName) prog_1_method_11_code 6 (some .boolean) ws ({ frames := 2, cells := 0, slots := 0, locals := 26 } : Room) #[.ref a1] h0 (fun v h L => v = some (.int 1) ∧ Fr n0 L ∧ h = h0) := by
  refine Ct.intro pn_2 #[.val (.ref a1), .unset, .unset, .unset, .unset, .unset] (fun _ => by first | (simp [entryFrame, mkF, argsToLocals, Value.category, maxLocals]; done) | rfl) ?_
  intro p e s m below meth c T0 X0 hx hZ hby hml hown hnm hret hlk e0
  have N0 := Fr.nil n0
  refine s_aloadN X0 hx (hb hby d2_0) rfl rfl 1 rfl ?_
  refine s_astoreN X0 hx (hb hby d2_1) rfl #[.val (.ref a1), .val (.ref a1), .unset, .unset, .unset, .unset] rfl 2 rfl ?_
  refine s_aloadN X0 hx (hb hby d2_2) rfl rfl 3 rfl ?_
  refine s_len X0 hx hZ e0 A1 (hb hby d2_3) (6 : Int32) rfl 4 rfl ?_
  refine s_istoreN X0 hx (hb hby d2_4) #[.val (.ref a1), .val (.ref a1), .val (.int (6 : Int32)), .unset, .unset, .unset] rfl 5 rfl ?_
  refine s_iconst X0 hx (hb hby d2_5) (0 : Int32) rfl 6 rfl ?_
  refine s_istoreN X0 hx (hb hby d2_6) #[.val (.ref a1), .val (.ref a1), .val (.int (6 : Int32)), .val (.int (0 : Int32)), .unset, .unset] rfl 7 rfl ?_
  refine s_iloadN X0 hx (hb hby d2_7) rfl 8 rfl ?_
  refine s_iloadN X0 hx (hb hby d2_8) rfl 9 rfl ?_
  refine s_icmpN X0 hx (hb hby d2_9) (by decide) 12 rfl ?_
  refine s_aloadN X0 hx (hb hby d2_12) rfl rfl 13 rfl ?_
  refine s_iloadN X0 hx (hb hby d2_13) rfl 14 rfl ?_
  refine s_daload X0 hx hZ e0 A1 (hb hby d2_14) (j := (0 : Int32)) 0 (by decide) (.double x0) rfl 15 rfl ?_
  refine s_dstore X0 hx (hb hby d2_15) #[.val (.ref a1), .val (.ref a1), .val (.int (6 : Int32)), .val (.int (0 : Int32)), .val (.double x0), .second] rfl 17 rfl ?_
  refine s_dload X0 hx (hb hby d2_17) rfl 19 rfl ?_
  obtain ⟨v2, T2, L2, X2, hQ2, st2⟩ := callStat X0 hx hZ hown (wd hw 14 _ rfl) (wd hw 15 _ rfl) (wd hw 16 _ rfl) (wd hw 17 _ rfl) (by decide) (rm_isfin l Z a0 hw [] x0 h0 n0 Z0 hf0) e0 (L := #[.val (.ref a1), .val (.ref a1), .val (.int (6 : Int32)), .val (.int (0 : Int32)), .val (.double x0), .second]) (hb hby d2_19) (by rw [hml]; rfl) [.double x0] [] rfl rfl pd_3 rfl 0 (by show 2 * 0 + _ ≤ _; exact Nat.le_of_eq rfl) (by decide) (by decide) (by decide) (by decide)
  obtain ⟨rfl, N2, hh2⟩ := hQ2
  have M2 := Fr.app N0 N2
  refine Go.via st2 ?_
  show Go p e below _ (T2.setTop (mkF m 22 #[.val (.ref a1), .val (.ref a1), .val (.int (6 : Int32)), .val (.int (0 : Int32)), .val (.double x0), .second] [.int (1 : Int32)]))
  refine s_ifY X2 hx (hb hby d2_22) (by decide) 27 (by decide) (by decide) ?_
  refine s_iinc X2 hx (hb hby d2_27) (1 : Int32) rfl rfl #[.val (.ref a1), .val (.ref a1), .val (.int (6 : Int32)), .val (.int (1 : Int32)), .val (.double x0), .second] rfl 30 rfl ?_
  refine s_goto X2 hx (hb hby d2_30) 7 (by decide) (by decide) ?_
  refine s_iloadN X2 hx (hb hby d2_7) rfl 8 rfl ?_
  refine s_iloadN X2 hx (hb hby d2_8) rfl 9 rfl ?_
  refine s_icmpN X2 hx (hb hby d2_9) (by decide) 12 rfl ?_
  refine s_aloadN X2 hx (hb hby d2_12) rfl rfl 13 rfl ?_
  refine s_iloadN X2 hx (hb hby d2_13) rfl 14 rfl ?_
  refine s_daload X2 hx hZ hh2 A1 (hb hby d2_14) (j := (1 : Int32)) 1 (by decide) (.double x1) rfl 15 rfl ?_
  refine s_dstore X2 hx (hb hby d2_15) #[.val (.ref a1), .val (.ref a1), .val (.int (6 : Int32)), .val (.int (1 : Int32)), .val (.double x1), .second] rfl 17 rfl ?_
  refine s_dload X2 hx (hb hby d2_17) rfl 19 rfl ?_
  obtain ⟨v3, T3, L3, X3, hQ3, st3⟩ := callStat X2 hx hZ hown (wd hw 14 _ rfl) (wd hw 15 _ rfl) (wd hw 16 _ rfl) (wd hw 17 _ rfl) (by decide) (rm_isfin l Z a0 hw [] x1 h0 n0 Z0 hf1) hh2 (L := #[.val (.ref a1), .val (.ref a1), .val (.int (6 : Int32)), .val (.int (1 : Int32)), .val (.double x1), .second]) (hb hby d2_19) (by rw [hml]; rfl) [.double x1] [] rfl rfl pd_3 rfl 0 (by show 2 * 0 + _ ≤ _; exact Nat.le_of_eq rfl) (by decide) (by decide) (by decide) (by decide)
  obtain ⟨rfl, N3, hh3⟩ := hQ3
  have M3 := Fr.app M2 N3
  refine Go.via st3 ?_
  show Go p e below _ (T3.setTop (mkF m 22 #[.val (.ref a1), .val (.ref a1), .val (.int (6 : Int32)), .val (.int (1 : Int32)), .val (.double x1), .second] [.int (1 : Int32)]))
  refine s_ifY X3 hx (hb hby d2_22) (by decide) 27 (by decide) (by decide) ?_
  refine s_iinc X3 hx (hb hby d2_27) (2 : Int32) rfl rfl #[.val (.ref a1), .val (.ref a1), .val (.int (6 : Int32)), .val (.int (2 : Int32)), .val (.double x1), .second] rfl 30 rfl ?_
  refine s_goto X3 hx (hb hby d2_30) 7 (by decide) (by decide) ?_
  refine s_iloadN X3 hx (hb hby d2_7) rfl 8 rfl ?_
  refine s_iloadN X3 hx (hb hby d2_8) rfl 9 rfl ?_
  refine s_icmpN X3 hx (hb hby d2_9) (by decide) 12 rfl ?_
  refine s_aloadN X3 hx (hb hby d2_12) rfl rfl 13 rfl ?_
  refine s_iloadN X3 hx (hb hby d2_13) rfl 14 rfl ?_
  refine s_daload X3 hx hZ hh3 A1 (hb hby d2_14) (j := (2 : Int32)) 2 (by decide) (.double x2) rfl 15 rfl ?_
  refine s_dstore X3 hx (hb hby d2_15) #[.val (.ref a1), .val (.ref a1), .val (.int (6 : Int32)), .val (.int (2 : Int32)), .val (.double x2), .second] rfl 17 rfl ?_
  refine s_dload X3 hx (hb hby d2_17) rfl 19 rfl ?_
  obtain ⟨v4, T4, L4, X4, hQ4, st4⟩ := callStat X3 hx hZ hown (wd hw 14 _ rfl) (wd hw 15 _ rfl) (wd hw 16 _ rfl) (wd hw 17 _ rfl) (by decide) (rm_isfin l Z a0 hw [] x2 h0 n0 Z0 hf2) hh3 (L := #[.val (.ref a1), .val (.ref a1), .val (.int (6 : Int32)), .val (.int (2 : Int32)), .val (.double x2), .second]) (hb hby d2_19) (by rw [hml]; rfl) [.double x2] [] rfl rfl pd_3 rfl 0 (by show 2 * 0 + _ ≤ _; exact Nat.le_of_eq rfl) (by decide) (by decide) (by decide) (by decide)
  obtain ⟨rfl, N4, hh4⟩ := hQ4
  have M4 := Fr.app M3 N4
  refine Go.via st4 ?_
  show Go p e below _ (T4.setTop (mkF m 22 #[.val (.ref a1), .val (.ref a1), .val (.int (6 : Int32)), .val (.int (2 : Int32)), .val (.double x2), .second] [.int (1 : Int32)]))
  refine s_ifY X4 hx (hb hby d2_22) (by decide) 27 (by decide) (by decide) ?_
  refine s_iinc X4 hx (hb hby d2_27) (3 : Int32) rfl rfl #[.val (.ref a1), .val (.ref a1), .val (.int (6 : Int32)), .val (.int (3 : Int32)), .val (.double x2), .second] rfl 30 rfl ?_
  refine s_goto X4 hx (hb hby d2_30) 7 (by decide) (by decide) ?_
  refine s_iloadN X4 hx (hb hby d2_7) rfl 8 rfl ?_
  refine s_iloadN X4 hx (hb hby d2_8) rfl 9 rfl ?_
  refine s_icmpN X4 hx (hb hby d2_9) (by decide) 12 rfl ?_
  refine s_aloadN X4 hx (hb hby d2_12) rfl rfl 13 rfl ?_
  refine s_iloadN X4 hx (hb hby d2_13) rfl 14 rfl ?_
  refine s_daload X4 hx hZ hh4 A1 (hb hby d2_14) (j := (3 : Int32)) 3 (by decide) (.double x3) rfl 15 rfl ?_
  refine s_dstore X4 hx (hb hby d2_15) #[.val (.ref a1), .val (.ref a1), .val (.int (6 : Int32)), .val (.int (3 : Int32)), .val (.double x3), .second] rfl 17 rfl ?_
  refine s_dload X4 hx (hb hby d2_17) rfl 19 rfl ?_
  obtain ⟨v5, T5, L5, X5, hQ5, st5⟩ := callStat X4 hx hZ hown (wd hw 14 _ rfl) (wd hw 15 _ rfl) (wd hw 16 _ rfl) (wd hw 17 _ rfl) (by decide) (rm_isfin l Z a0 hw [] x3 h0 n0 Z0 hf3) hh4 (L := #[.val (.ref a1), .val (.ref a1), .val (.int (6 : Int32)), .val (.int (3 : Int32)), .val (.double x3), .second]) (hb hby d2_19) (by rw [hml]; rfl) [.double x3] [] rfl rfl pd_3 rfl 0 (by show 2 * 0 + _ ≤ _; exact Nat.le_of_eq rfl) (by decide) (by decide) (by decide) (by decide)
  obtain ⟨rfl, N5, hh5⟩ := hQ5
  have M5 := Fr.app M4 N5
  refine Go.via st5 ?_
  show Go p e below _ (T5.setTop (mkF m 22 #[.val (.ref a1), .val (.ref a1), .val (.int (6 : Int32)), .val (.int (3 : Int32)), .val (.double x3), .second] [.int (1 : Int32)]))
  refine s_ifY X5 hx (hb hby d2_22) (by decide) 27 (by decide) (by decide) ?_
  refine s_iinc X5 hx (hb hby d2_27) (4 : Int32) rfl rfl #[.val (.ref a1), .val (.ref a1), .val (.int (6 : Int32)), .val (.int (4 : Int32)), .val (.double x3), .second] rfl 30 rfl ?_
  refine s_goto X5 hx (hb hby d2_30) 7 (by decide) (by decide) ?_
  refine s_iloadN X5 hx (hb hby d2_7) rfl 8 rfl ?_
  refine s_iloadN X5 hx (hb hby d2_8) rfl 9 rfl ?_
  refine s_icmpN X5 hx (hb hby d2_9) (by decide) 12 rfl ?_
  refine s_aloadN X5 hx (hb hby d2_12) rfl rfl 13 rfl ?_
  refine s_iloadN X5 hx (hb hby d2_13) rfl 14 rfl ?_
  refine s_daload X5 hx hZ hh5 A1 (hb hby d2_14) (j := (4 : Int32)) 4 (by decide) (.double x4) rfl 15 rfl ?_
  refine s_dstore X5 hx (hb hby d2_15) #[.val (.ref a1), .val (.ref a1), .val (.int (6 : Int32)), .val (.int (4 : Int32)), .val (.double x4), .second] rfl 17 rfl ?_
  refine s_dload X5 hx (hb hby d2_17) rfl 19 rfl ?_
  obtain ⟨v6, T6, L6, X6, hQ6, st6⟩ := callStat X5 hx hZ hown (wd hw 14 _ rfl) (wd hw 15 _ rfl) (wd hw 16 _ rfl) (wd hw 17 _ rfl) (by decide) (rm_isfin l Z a0 hw [] x4 h0 n0 Z0 hf4) hh5 (L := #[.val (.ref a1), .val (.ref a1), .val (.int (6 : Int32)), .val (.int (4 : Int32)), .val (.double x4), .second]) (hb hby d2_19) (by rw [hml]; rfl) [.double x4] [] rfl rfl pd_3 rfl 0 (by show 2 * 0 + _ ≤ _; exact Nat.le_of_eq rfl) (by decide) (by decide) (by decide) (by decide)
  obtain ⟨rfl, N6, hh6⟩ := hQ6
  have M6 := Fr.app M5 N6
  refine Go.via st6 ?_
  show Go p e below _ (T6.setTop (mkF m 22 #[.val (.ref a1), .val (.ref a1), .val (.int (6 : Int32)), .val (.int (4 : Int32)), .val (.double x4), .second] [.int (1 : Int32)]))
  refine s_ifY X6 hx (hb hby d2_22) (by decide) 27 (by decide) (by decide) ?_
  refine s_iinc X6 hx (hb hby d2_27) (5 : Int32) rfl rfl #[.val (.ref a1), .val (.ref a1), .val (.int (6 : Int32)), .val (.int (5 : Int32)), .val (.double x4), .second] rfl 30 rfl ?_
  refine s_goto X6 hx (hb hby d2_30) 7 (by decide) (by decide) ?_
  refine s_iloadN X6 hx (hb hby d2_7) rfl 8 rfl ?_
  refine s_iloadN X6 hx (hb hby d2_8) rfl 9 rfl ?_
  refine s_icmpN X6 hx (hb hby d2_9) (by decide) 12 rfl ?_
  refine s_aloadN X6 hx (hb hby d2_12) rfl rfl 13 rfl ?_
  refine s_iloadN X6 hx (hb hby d2_13) rfl 14 rfl ?_
  refine s_daload X6 hx hZ hh6 A1 (hb hby d2_14) (j := (5 : Int32)) 5 (by decide) (.double x5) rfl 15 rfl ?_
  refine s_dstore X6 hx (hb hby d2_15) #[.val (.ref a1), .val (.ref a1), .val (.int (6 : Int32)), .val (.int (5 : Int32)), .val (.double x5), .second] rfl 17 rfl ?_
  refine s_dload X6 hx (hb hby d2_17) rfl 19 rfl ?_
  obtain ⟨v7, T7, L7, X7, hQ7, st7⟩ := callStat X6 hx hZ hown (wd hw 14 _ rfl) (wd hw 15 _ rfl) (wd hw 16 _ rfl) (wd hw 17 _ rfl) (by decide) (rm_isfin l Z a0 hw [] x5 h0 n0 Z0 hf5) hh6 (L := #[.val (.ref a1), .val (.ref a1), .val (.int (6 : Int32)), .val (.int (5 : Int32)), .val (.double x5), .second]) (hb hby d2_19) (by rw [hml]; rfl) [.double x5] [] rfl rfl pd_3 rfl 0 (by show 2 * 0 + _ ≤ _; exact Nat.le_of_eq rfl) (by decide) (by decide) (by decide) (by decide)
  obtain ⟨rfl, N7, hh7⟩ := hQ7
  have M7 := Fr.app M6 N7
  refine Go.via st7 ?_
  show Go p e below _ (T7.setTop (mkF m 22 #[.val (.ref a1), .val (.ref a1), .val (.int (6 : Int32)), .val (.int (5 : Int32)), .val (.double x5), .second] [.int (1 : Int32)]))
  refine s_ifY X7 hx (hb hby d2_22) (by decide) 27 (by decide) (by decide) ?_
  refine s_iinc X7 hx (hb hby d2_27) (6 : Int32) rfl rfl #[.val (.ref a1), .val (.ref a1), .val (.int (6 : Int32)), .val (.int (6 : Int32)), .val (.double x5), .second] rfl 30 rfl ?_
  refine s_goto X7 hx (hb hby d2_30) 7 (by decide) (by decide) ?_
  refine s_iloadN X7 hx (hb hby d2_7) rfl 8 rfl ?_
  refine s_iloadN X7 hx (hb hby d2_8) rfl 9 rfl ?_
  refine s_icmpY X7 hx (hb hby d2_9) (by decide) 33 (by decide) (by decide) ?_
  refine s_iconst X7 hx (hb hby d2_33) (1 : Int32) rfl 34 rfl ?_
  exact retZ X7 hx hlk hret (hb hby d2_34) (by decide) hh7 ⟨rfl, M7, rfl⟩ (by decide) (by decide)
theorem d0_0 : decode prog_1_method_1_code 0 = .ok (.aload_n 0, 1) := by decide +kernel
theorem d0_1 : decode prog_1_method_1_code 1 = .ok (.invokespecial 1, 3) := by decide +kernel
theorem d0_4 : decode prog_1_method_1_code 4 = .ok (.bipush 6, 2) := by decide +kernel
theorem d0_6 : decode prog_1_method_1_code 6 = .ok (.newarray .double, 2) := by decide +kernel
theorem d0_8 : decode prog_1_method_1_code 8 = .ok (.dup, 1) := by decide +kernel
theorem d0_9 : decode prog_1_method_1_code 9 = .ok (.iconst 0, 1) := by decide +kernel
theorem d0_10 : decode prog_1_method_1_code 10 = .ok (.dload_n 1, 1) := by decide +kernel
theorem d0_11 : decode prog_1_method_1_code 11 = .ok (.dastore, 1) := by decide +kernel
theorem d0_12 : decode prog_1_method_1_code 12 = .ok (.dup, 1) := by decide +kernel
theorem d0_13 : decode prog_1_method_1_code 13 = .ok (.iconst 1, 1) := by decide +kernel
theorem d0_14 : decode prog_1_method_1_code 14 = .ok (.dload_n 3, 1) := by decide +kernel
theorem d0_15 : decode prog_1_method_1_code 15 = .ok (.dastore, 1) := by decide +kernel
theorem d0_16 : decode prog_1_method_1_code 16 = .ok (.dup, 1) := by decide +kernel
theorem d0_17 : decode prog_1_method_1_code 17 = .ok (.iconst 2, 1) := by decide +kernel
theorem d0_18 : decode prog_1_method_1_code 18 = .ok (.dload 5, 2) := by decide +kernel
theorem d0_20 : decode prog_1_method_1_code 20 = .ok (.dastore, 1) := by decide +kernel
theorem d0_21 : decode prog_1_method_1_code 21 = .ok (.dup, 1) := by decide +kernel
theorem d0_22 : decode prog_1_method_1_code 22 = .ok (.iconst 3, 1) := by decide +kernel
theorem d0_23 : decode prog_1_method_1_code 23 = .ok (.dload 7, 2) := by decide +kernel
theorem d0_25 : decode prog_1_method_1_code 25 = .ok (.dastore, 1) := by decide +kernel
theorem d0_26 : decode prog_1_method_1_code 26 = .ok (.dup, 1) := by decide +kernel
theorem d0_27 : decode prog_1_method_1_code 27 = .ok (.iconst 4, 1) := by decide +kernel
theorem d0_28 : decode prog_1_method_1_code 28 = .ok (.dload 9, 2) := by decide +kernel
theorem d0_30 : decode prog_1_method_1_code 30 = .ok (.dastore, 1) := by decide +kernel
theorem d0_31 : decode prog_1_method_1_code 31 = .ok (.dup, 1) := by decide +kernel
theorem d0_32 : decode prog_1_method_1_code 32 = .ok (.iconst 5, 1) := by decide +kernel
theorem d0_33 : decode prog_1_method_1_code 33 = .ok (.dload 11, 2) := by decide +kernel
theorem d0_35 : decode prog_1_method_1_code 35 = .ok (.dastore, 1) := by decide +kernel
theorem d0_36 : decode prog_1_method_1_code 36 = .ok (.invokestatic 7, 3) := by decide +kernel
theorem d0_39 : decode prog_1_method_1_code 39 = .ok (.ifCond .ne 51, 3) := by decide +kernel
theorem d0_42 : decode prog_1_method_1_code 42 = .ok (.new 13, 3) := by decide +kernel
theorem d0_45 : decode prog_1_method_1_code 45 = .ok (.dup, 1) := by decide +kernel
theorem d0_46 : decode prog_1_method_1_code 46 = .ok (.bipush 6, 2) := by decide +kernel
theorem d0_48 : decode prog_1_method_1_code 48 = .ok (.newarray .double, 2) := by decide +kernel
theorem d0_50 : decode prog_1_method_1_code 50 = .ok (.dup, 1) := by decide +kernel
theorem d0_51 : decode prog_1_method_1_code 51 = .ok (.iconst 0, 1) := by decide +kernel
theorem d0_52 : decode prog_1_method_1_code 52 = .ok (.dload_n 1, 1) := by decide +kernel
theorem d0_53 : decode prog_1_method_1_code 53 = .ok (.dastore, 1) := by decide +kernel
theorem d0_54 : decode prog_1_method_1_code 54 = .ok (.dup, 1) := by decide +kernel
theorem d0_55 : decode prog_1_method_1_code 55 = .ok (.iconst 1, 1) := by decide +kernel
theorem d0_56 : decode prog_1_method_1_code 56 = .ok (.dload_n 3, 1) := by decide +kernel
theorem d0_57 : decode prog_1_method_1_code 57 = .ok (.dastore, 1) := by decide +kernel
theorem d0_58 : decode prog_1_method_1_code 58 = .ok (.dup, 1) := by decide +kernel
theorem d0_59 : decode prog_1_method_1_code 59 = .ok (.iconst 2, 1) := by decide +kernel
theorem d0_60 : decode prog_1_method_1_code 60 = .ok (.dload 5, 2) := by decide +kernel
theorem d0_62 : decode prog_1_method_1_code 62 = .ok (.dastore, 1) := by decide +kernel
theorem d0_63 : decode prog_1_method_1_code 63 = .ok (.dup, 1) := by decide +kernel
theorem d0_64 : decode prog_1_method_1_code 64 = .ok (.iconst 3, 1) := by decide +kernel
theorem d0_65 : decode prog_1_method_1_code 65 = .ok (.dload 7, 2) := by decide +kernel
theorem d0_67 : decode prog_1_method_1_code 67 = .ok (.dastore, 1) := by decide +kernel
theorem d0_68 : decode prog_1_method_1_code 68 = .ok (.dup, 1) := by decide +kernel
theorem d0_69 : decode prog_1_method_1_code 69 = .ok (.iconst 4, 1) := by decide +kernel
theorem d0_70 : decode prog_1_method_1_code 70 = .ok (.dload 9, 2) := by decide +kernel
theorem d0_72 : decode prog_1_method_1_code 72 = .ok (.dastore, 1) := by decide +kernel
theorem d0_73 : decode prog_1_method_1_code 73 = .ok (.dup, 1) := by decide +kernel
theorem d0_74 : decode prog_1_method_1_code 74 = .ok (.iconst 5, 1) := by decide +kernel
theorem d0_75 : decode prog_1_method_1_code 75 = .ok (.dload 11, 2) := by decide +kernel
theorem d0_77 : decode prog_1_method_1_code 77 = .ok (.dastore, 1) := by decide +kernel
theorem d0_78 : decode prog_1_method_1_code 78 = .ok (.invokestatic 15, 3) := by decide +kernel
theorem d0_81 : decode prog_1_method_1_code 81 = .ok (.invokedynamic 21, 5) := by decide +kernel
theorem d0_86 : decode prog_1_method_1_code 86 = .ok (.invokespecial 25, 3) := by decide +kernel
theorem d0_89 : decode prog_1_method_1_code 89 = .ok (.athrow, 1) := by decide +kernel
theorem d0_90 : decode prog_1_method_1_code 90 = .ok (.aload_n 0, 1) := by decide +kernel
theorem d0_91 : decode prog_1_method_1_code 91 = .ok (.dload_n 1, 1) := by decide +kernel
theorem d0_92 : decode prog_1_method_1_code 92 = .ok (.dconst 0, 1) := by decide +kernel
theorem d0_93 : decode prog_1_method_1_code 93 = .ok (.dadd, 1) := by decide +kernel
theorem d0_94 : decode prog_1_method_1_code 94 = .ok (.putfield 28, 3) := by decide +kernel
theorem d0_97 : decode prog_1_method_1_code 97 = .ok (.aload_n 0, 1) := by decide +kernel
theorem d0_98 : decode prog_1_method_1_code 98 = .ok (.dload_n 3, 1) := by decide +kernel
theorem d0_99 : decode prog_1_method_1_code 99 = .ok (.dconst 0, 1) := by decide +kernel
theorem d0_100 : decode prog_1_method_1_code 100 = .ok (.dadd, 1) := by decide +kernel
theorem d0_101 : decode prog_1_method_1_code 101 = .ok (.putfield 32, 3) := by decide +kernel
theorem d0_104 : decode prog_1_method_1_code 104 = .ok (.aload_n 0, 1) := by decide +kernel
theorem d0_105 : decode prog_1_method_1_code 105 = .ok (.dload 5, 2) := by decide +kernel
theorem d0_107 : decode prog_1_method_1_code 107 = .ok (.dconst 0, 1) := by decide +kernel
theorem d0_108 : decode prog_1_method_1_code 108 = .ok (.dadd, 1) := by decide +kernel
theorem d0_109 : decode prog_1_method_1_code 109 = .ok (.putfield 35, 3) := by decide +kernel
theorem d0_112 : decode prog_1_method_1_code 112 = .ok (.aload_n 0, 1) := by decide +kernel
theorem d0_113 : decode prog_1_method_1_code 113 = .ok (.dload 7, 2) := by decide +kernel
theorem d0_115 : decode prog_1_method_1_code 115 = .ok (.dconst 0, 1) := by decide +kernel
theorem d0_116 : decode prog_1_method_1_code 116 = .ok (.dadd, 1) := by decide +kernel
theorem d0_117 : decode prog_1_method_1_code 117 = .ok (.putfield 38, 3) := by decide +kernel
theorem d0_120 : decode prog_1_method_1_code 120 = .ok (.aload_n 0, 1) := by decide +kernel
theorem d0_121 : decode prog_1_method_1_code 121 = .ok (.dload 9, 2) := by decide +kernel
theorem d0_123 : decode prog_1_method_1_code 123 = .ok (.dconst 0, 1) := by decide +kernel
theorem d0_124 : decode prog_1_method_1_code 124 = .ok (.dadd, 1) := by decide +kernel
theorem d0_125 : decode prog_1_method_1_code 125 = .ok (.putfield 41, 3) := by decide +kernel
theorem d0_128 : decode prog_1_method_1_code 128 = .ok (.aload_n 0, 1) := by decide +kernel
theorem d0_129 : decode prog_1_method_1_code 129 = .ok (.dload 11, 2) := by decide +kernel
theorem d0_131 : decode prog_1_method_1_code 131 = .ok (.dconst 0, 1) := by decide +kernel
theorem d0_132 : decode prog_1_method_1_code 132 = .ok (.dadd, 1) := by decide +kernel
theorem d0_133 : decode prog_1_method_1_code 133 = .ok (.putfield 44, 3) := by decide +kernel
theorem d0_136 : decode prog_1_method_1_code 136 = .ok (.return_, 1) := by decide +kernel
theorem pd_0 : parseMethodDescriptor "(DDDDDD)V" = some ⟨[.double, .double, .double, .double, .double, .double], none⟩ := by decide +kernel
theorem pn_0 : plainFor (⟨"com/example/lamina3/lamina3/AffineMap", "<init>", "(DDDDDD)V"⟩ : MethodName) = true := plainFor_of_name (by show plainName "com/example/lamina3/lamina3/AffineMap" = true; first | (simp [plainName, overriddenIn]; done) | decide +kernel)
set_option maxRecDepth 65536 in
set_option maxHeartbeats 40000000 in
theorem rm_init (l : Launch) (Z : State) (a0 : Array Value) (hw : ∀ d ∈ tables_1, d.before a0 Z = true) (ws : List Jvm.Cond) (a1 : Addr) (x0 x1 x2 x3 x4 x5 : UInt64) (h0 : Heap) (n0 : Nat) (Z0 : n0 ≤ h0.size) (E1 : Exa Z h0 a1 "com/example/lamina3/lamina3/AffineMap") (g1 : n0 ≤ a1) (F_0 : Fld Z h0 a1 "com/example/lamina3/lamina3/AffineMap" "a" "D" (.double (0 : UInt64))) (F_1 : Fld Z h0 a1 "com/example/lamina3/lamina3/AffineMap" "b" "D" (.double (0 : UInt64))) (F_2 : Fld Z h0 a1 "com/example/lamina3/lamina3/AffineMap" "c" "D" (.double (0 : UInt64))) (F_3 : Fld Z h0 a1 "com/example/lamina3/lamina3/AffineMap" "d" "D" (.double (0 : UInt64))) (F_4 : Fld Z h0 a1 "com/example/lamina3/lamina3/AffineMap" "e" "D" (.double (0 : UInt64))) (F_5 : Fld Z h0 a1 "com/example/lamina3/lamina3/AffineMap" "f" "D" (.double (0 : UInt64))) (hf0 : Jvm.Free.Fl.Fin64 x0) (hf1 : Jvm.Free.Fl.Fin64 x1) (hf2 : Jvm.Free.Fl.Fin64 x2) (hf3 : Jvm.Free.Fl.Fin64 x3) (hf4 : Jvm.Free.Fl.Fin64 x4) (hf5 : Jvm.Free.Fl.Fin64 x5) (nn0 : Jvm.Free.Fl.NoNaN64 (FP.dadd x0 (0 : UInt64))) (nn1 : Jvm.Free.Fl.NoNaN64 (FP.dadd x1 (0 : UInt64))) (nn2 : Jvm.Free.Fl.NoNaN64 (FP.dadd x2 (0 : UInt64))) (nn3 : Jvm.Free.Fl.NoNaN64 (FP.dadd x3 (0 : UInt64))) (nn4 : Jvm.Free.Fl.NoNaN64 (FP.dadd x4 (0 : UInt64))) (nn5 : Jvm.Free.Fl.NoNaN64 (FP.dadd x5 (0 : UInt64))) :
    Ct l Z (⟨"com/example/lamina3/lamina3/AffineMap", "<init>", "(DDDDDD)V"⟩ : MethodName) prog_1_method_1_code 13 none ws ({ frames := 3, cells := 1, slots := 6, locals := 43 } : Room) #[.ref a1, .double x0, .double x1, .double x2, .double x3, .double x4, .double x5] h0 (fun w h L => w = none ∧ Fr n0 L ∧ Keep h0 h [a1] ∧ Fld Z h a1 "com/example/lamina3/lamina3/AffineMap" "a" "D" (.double (FP.dadd x0 (0 : UInt64))) ∧ Fld Z h a1 "com/example/lamina3/lamina3/AffineMap" "b" "D" (.double (FP.dadd x1 (0 : UInt64))) ∧ Fld Z h a1 "com/example/lamina3/lamina3/AffineMap" "c" "D" (.double (FP.dadd x2 (0 : UInt64))) ∧ Fld Z h a1 "com/example/lamina3/lamina3/AffineMap" "d" "D" (.double (FP.dadd x3 (0 : UInt64))) ∧ Fld Z h a1 "com/example/lamina3/lamina3/AffineMap" "e" "D" (.double (FP.dadd x4 (0 : UInt64))) ∧ Fld Z h a1 "com/example/lamina3/lamina3/AffineMap" "f" "D" (.double (FP.dadd x5 (0 : UInt64)))) := by
  refine Ct.intro pn_0 #[.val (.ref a1), .val (.double x0), .second, .val (.double x1), .second, .val (.double x2), .second, .val (.double x3), .second, .val (.double x4), .second, .val (.double x5), .second] (fun _ => by first | (simp [entryFrame, mkF, argsToLocals, Value.category, maxLocals]; done) | rfl) ?_
  intro p e s m below meth c T0 X0 hx hZ hby hml hown hnm hret hlk e0
  have N0 := Fr.nil n0
  have K0 := Keep.refl h0 [a1]
  refine s_aloadN X0 hx (hb hby d0_0) rfl rfl 1 rfl ?_
  obtain ⟨T8, X8, e8, st8⟩ := initO X0 hx hZ hown (wd hw 7 _ rfl) (wd hw 8 _ rfl) (wd hw 9 _ rfl) e0 (g := (mkF m 1 #[.val (.ref a1), .val (.double x0), .second, .val (.double x1), .second, .val (.double x2), .second, .val (.double x3), .second, .val (.double x4), .second, .val (.double x5), .second] [.ref a1])) rfl (by rw [hml]; rfl) rfl (hb hby d0_1) (by decide) (W := 0) (by show 2 * 0 + _ ≤ _; exact Nat.le_of_eq rfl) (by decide)
  refine Go.via st8 ?_
  show Go p e below _ (T8.setTop (mkF m 4 #[.val (.ref a1), .val (.double x0), .second, .val (.double x1), .second, .val (.double x2), .second, .val (.double x3), .second, .val (.double x4), .second, .val (.double x5), .second] []))
  refine s_bipush X8 hx (hb hby d0_4) (6 : Int32) rfl 6 rfl ?_
  obtain ⟨T9, h9, c9, X9, e9, E9, A9, st9⟩ := s_newarray X8 hx hZ (aty := .double) (wd hw 10 _ rfl) e8 (hb hby d0_6) #[.val (.ref a1), .val (.double x0), .second, .val (.double x1), .second, .val (.double x2), .second, .val (.double x3), .second, .val (.double x4), .second, .val (.double x5), .second] [] (n := (6 : Int32)) 6 (by decide) [.double (0 : UInt64), .double (0 : UInt64), .double (0 : UInt64), .double (0 : UInt64), .double (0 : UInt64), .double (0 : UInt64)] rfl (by decide) (by decide) (by decide) 8 rfl
  obtain ⟨a9, g9⟩ : ∃ z, z = h0.size := ⟨_, rfl⟩
  rw [← g9] at A9 st9
  have ne10 : a1 ≠ a9 := by rw [g9]; exact Nat.ne_of_lt E1.lt
  have q11 : n0 ≤ a9 := by rw [g9]; exact Z0
  have q12 : h0.size ≤ a9 := by rw [g9]; exact K0.1
  have K13 := K0.ext E9
  have F14 := E1.ext E9
  have F15 := F_0.ext E9
  have F16 := F_1.ext E9
  have F17 := F_2.ext E9
  have F18 := F_3.ext E9
  have F19 := F_4.ext E9
  have F20 := F_5.ext E9
  have Z21 := Nat.le_trans Z0 E9.1
  refine Go.via st9 ?_
  refine s_dup X9 hx (hb hby d0_8) rfl 9 rfl ?_
  refine s_iconst X9 hx (hb hby d0_9) (0 : Int32) rfl 10 rfl ?_
  refine s_dloadN X9 hx (hb hby d0_10) rfl 11 rfl ?_
  obtain ⟨T22, h22, X22, e22, W22, A22, st22⟩ := s_dastore X9 hx hZ e9 A9 (hb hby d0_11) #[.val (.ref a1), .val (.double x0), .second, .val (.double x1), .second, .val (.double x2), .second, .val (.double x3), .second, .val (.double x4), .second, .val (.double x5), .second] [.ref a9] (j := (0 : Int32)) 0 (by decide) (by show 0 < 6; decide) x0 [.double x0, .double (0 : UInt64), .double (0 : UInt64), .double (0 : UInt64), .double (0 : UInt64), .double (0 : UInt64)] rfl 12 rfl
  have N22 := Fr.snoc X22 N0 q11
  have F23 := F14.wr W22
  have F24 := F15.other W22 (Or.inl ne10)
  have F25 := F16.other W22 (Or.inl ne10)
  have F26 := F17.other W22 (Or.inl ne10)
  have F27 := F18.other W22 (Or.inl ne10)
  have F28 := F19.other W22 (Or.inl ne10)
  have F29 := F20.other W22 (Or.inl ne10)
  have Z30 : n0 ≤ h22.size := by rw [W22.size]; exact Z21
  have K31 := K13.wr W22 (Or.inr q12)
  refine Go.via st22 ?_
  refine s_dup X22 hx (hb hby d0_12) rfl 13 rfl ?_
  refine s_iconst X22 hx (hb hby d0_13) (1 : Int32) rfl 14 rfl ?_
  refine s_dloadN X22 hx (hb hby d0_14) rfl 15 rfl ?_
  obtain ⟨T32, h32, X32, e32, W32, A32, st32⟩ := s_dastore X22 hx hZ e22 A22 (hb hby d0_15) #[.val (.ref a1), .val (.double x0), .second, .val (.double x1), .second, .val (.double x2), .second, .val (.double x3), .second, .val (.double x4), .second, .val (.double x5), .second] [.ref a9] (j := (1 : Int32)) 1 (by decide) (by show 1 < 6; decide) x1 [.double x0, .double x1, .double (0 : UInt64), .double (0 : UInt64), .double (0 : UInt64), .double (0 : UInt64)] rfl 16 rfl
  have N32 := Fr.snoc X32 N22 q11
  have F33 := F23.wr W32
  have F34 := F24.other W32 (Or.inl ne10)
  have F35 := F25.other W32 (Or.inl ne10)
  have F36 := F26.other W32 (Or.inl ne10)
  have F37 := F27.other W32 (Or.inl ne10)
  have F38 := F28.other W32 (Or.inl ne10)
  have F39 := F29.other W32 (Or.inl ne10)
  have Z40 : n0 ≤ h32.size := by rw [W32.size]; exact Z30
  have K41 := K31.wr W32 (Or.inr q12)
  refine Go.via st32 ?_
  refine s_dup X32 hx (hb hby d0_16) rfl 17 rfl ?_
  refine s_iconst X32 hx (hb hby d0_17) (2 : Int32) rfl 18 rfl ?_
  refine s_dload X32 hx (hb hby d0_18) rfl 20 rfl ?_
  obtain ⟨T42, h42, X42, e42, W42, A42, st42⟩ := s_dastore X32 hx hZ e32 A32 (hb hby d0_20) #[.val (.ref a1), .val (.double x0), .second, .val (.double x1), .second, .val (.double x2), .second, .val (.double x3), .second, .val (.double x4), .second, .val (.double x5), .second] [.ref a9] (j := (2 : Int32)) 2 (by decide) (by show 2 < 6; decide) x2 [.double x0, .double x1, .double x2, .double (0 : UInt64), .double (0 : UInt64), .double (0 : UInt64)] rfl 21 rfl
  have N42 := Fr.snoc X42 N32 q11
  have F43 := F33.wr W42
  have F44 := F34.other W42 (Or.inl ne10)
  have F45 := F35.other W42 (Or.inl ne10)
  have F46 := F36.other W42 (Or.inl ne10)
  have F47 := F37.other W42 (Or.inl ne10)
  have F48 := F38.other W42 (Or.inl ne10)
  have F49 := F39.other W42 (Or.inl ne10)
  have Z50 : n0 ≤ h42.size := by rw [W42.size]; exact Z40
  have K51 := K41.wr W42 (Or.inr q12)
  refine Go.via st42 ?_
  refine s_dup X42 hx (hb hby d0_21) rfl 22 rfl ?_
  refine s_iconst X42 hx (hb hby d0_22) (3 : Int32) rfl 23 rfl ?_
  refine s_dload X42 hx (hb hby d0_23) rfl 25 rfl ?_
  obtain ⟨T52, h52, X52, e52, W52, A52, st52⟩ := s_dastore X42 hx hZ e42 A42 (hb hby d0_25) #[.val (.ref a1), .val (.double x0), .second, .val (.double x1), .second, .val (.double x2), .second, .val (.double x3), .second, .val (.double x4), .second, .val (.double x5), .second] [.ref a9] (j := (3 : Int32)) 3 (by decide) (by show 3 < 6; decide) x3 [.double x0, .double x1, .double x2, .double x3, .double (0 : UInt64), .double (0 : UInt64)] rfl 26 rfl
  have N52 := Fr.snoc X52 N42 q11
  have F53 := F43.wr W52
  have F54 := F44.other W52 (Or.inl ne10)
  have F55 := F45.other W52 (Or.inl ne10)
  have F56 := F46.other W52 (Or.inl ne10)
  have F57 := F47.other W52 (Or.inl ne10)
  have F58 := F48.other W52 (Or.inl ne10)
  have F59 := F49.other W52 (Or.inl ne10)
  have Z60 : n0 ≤ h52.size := by rw [W52.size]; exact Z50
  have K61 := K51.wr W52 (Or.inr q12)
  refine Go.via st52 ?_
  refine s_dup X52 hx (hb hby d0_26) rfl 27 rfl ?_
  refine s_iconst X52 hx (hb hby d0_27) (4 : Int32) rfl 28 rfl ?_
  refine s_dload X52 hx (hb hby d0_28) rfl 30 rfl ?_
  obtain ⟨T62, h62, X62, e62, W62, A62, st62⟩ := s_dastore X52 hx hZ e52 A52 (hb hby d0_30) #[.val (.ref a1), .val (.double x0), .second, .val (.double x1), .second, .val (.double x2), .second, .val (.double x3), .second, .val (.double x4), .second, .val (.double x5), .second] [.ref a9] (j := (4 : Int32)) 4 (by decide) (by show 4 < 6; decide) x4 [.double x0, .double x1, .double x2, .double x3, .double x4, .double (0 : UInt64)] rfl 31 rfl
  have N62 := Fr.snoc X62 N52 q11
  have F63 := F53.wr W62
  have F64 := F54.other W62 (Or.inl ne10)
  have F65 := F55.other W62 (Or.inl ne10)
  have F66 := F56.other W62 (Or.inl ne10)
  have F67 := F57.other W62 (Or.inl ne10)
  have F68 := F58.other W62 (Or.inl ne10)
  have F69 := F59.other W62 (Or.inl ne10)
  have Z70 : n0 ≤ h62.size := by rw [W62.size]; exact Z60
  have K71 := K61.wr W62 (Or.inr q12)
  refine Go.via st62 ?_
  refine s_dup X62 hx (hb hby d0_31) rfl 32 rfl ?_
  refine s_iconst X62 hx (hb hby d0_32) (5 : Int32) rfl 33 rfl ?_
  refine s_dload X62 hx (hb hby d0_33) rfl 35 rfl ?_
  obtain ⟨T72, h72, X72, e72, W72, A72, st72⟩ := s_dastore X62 hx hZ e62 A62 (hb hby d0_35) #[.val (.ref a1), .val (.double x0), .second, .val (.double x1), .second, .val (.double x2), .second, .val (.double x3), .second, .val (.double x4), .second, .val (.double x5), .second] [.ref a9] (j := (5 : Int32)) 5 (by decide) (by show 5 < 6; decide) x5 [.double x0, .double x1, .double x2, .double x3, .double x4, .double x5] rfl 36 rfl
  have N72 := Fr.snoc X72 N62 q11
  have F73 := F63.wr W72
  have F74 := F64.other W72 (Or.inl ne10)
  have F75 := F65.other W72 (Or.inl ne10)
  have F76 := F66.other W72 (Or.inl ne10)
  have F77 := F67.other W72 (Or.inl ne10)
  have F78 := F68.other W72 (Or.inl ne10)
  have F79 := F69.other W72 (Or.inl ne10)
  have Z80 : n0 ≤ h72.size := by rw [W72.size]; exact Z70
  have K81 := K71.wr W72 (Or.inr q12)
  refine Go.via st72 ?_
  obtain ⟨v82, T82, L82, X82, hQ82, st82⟩ := callStat X72 hx hZ hown (wd hw 11 _ rfl) (wd hw 12 _ rfl) (wd hw 3 _ rfl) (wd hw 13 _ rfl) (by decide) (rm_allfin l Z a0 hw [] a9 c9 x0 x1 x2 x3 x4 x5 h72 n0 Z80 A72 hf0 hf1 hf2 hf3 hf4 hf5) e72 (L := #[.val (.ref a1), .val (.double x0), .second, .val (.double x1), .second, .val (.double x2), .second, .val (.double x3), .second, .val (.double x4), .second, .val (.double x5), .second]) (hb hby d0_36) (by rw [hml]; rfl) [.ref a9] [] rfl rfl pd_2 rfl 0 (by show 2 * 0 + _ ≤ _; exact Nat.le_of_eq rfl) (by decide) (by decide) (by decide) (by decide)
  obtain ⟨rfl, N82, hh82⟩ := hQ82
  have M82 := Fr.app N72 N82
  refine Go.via st82 ?_
  show Go p e below _ (T82.setTop (mkF m 39 #[.val (.ref a1), .val (.double x0), .second, .val (.double x1), .second, .val (.double x2), .second, .val (.double x3), .second, .val (.double x4), .second, .val (.double x5), .second] [.int (1 : Int32)]))
  refine s_ifY X82 hx (hb hby d0_39) (by decide) 90 (by decide) (by decide) ?_
  refine s_aloadN X82 hx (hb hby d0_90) rfl rfl 91 rfl ?_
  refine s_dloadN X82 hx (hb hby d0_91) rfl 92 rfl ?_
  refine s_dconst0 X82 hx (hb hby d0_92) (0 : UInt64) rfl 93 rfl ?_
  refine s_dadd X82 hx (hb hby d0_93) (FP.dadd x0 (0 : UInt64)) rfl nn0 94 rfl ?_
  obtain ⟨T83, h83, X83, e83, W83, st83⟩ := putF X82 hx hZ hown (host := "") (Or.inl (wd hw 23 _ rfl)) Via.refl hh82 F74 F73 (Or.inr ⟨(wd hw 24 _ rfl), rfl, hnm⟩) (wd hw 2 _ rfl) (ty := .double) (by decide) rfl rfl (g := (mkF m 94 #[.val (.ref a1), .val (.double x0), .second, .val (.double x1), .second, .val (.double x2), .second, .val (.double x3), .second, .val (.double x4), .second, .val (.double x5), .second] [.double (FP.dadd x0 (0 : UInt64)), .ref a1])) rfl rfl (hb hby d0_94)
  have N83 := Fr.snoc X83 M82 g1
  have F84 := F74.same W83
  have F85 := F73.wr W83
  have F86 := F75.other W83 (Or.inr (slot_ne (a0 := a0) (t := .double) (t' := .double) (Or.inr (wd hw 26 _ rfl)) (Or.inr (wd hw 24 _ rfl)) (by decide) (by decide) (by decide)))
  have F87 := F76.other W83 (Or.inr (slot_ne (a0 := a0) (t := .double) (t' := .double) (Or.inr (wd hw 28 _ rfl)) (Or.inr (wd hw 24 _ rfl)) (by decide) (by decide) (by decide)))
  have F88 := F77.other W83 (Or.inr (slot_ne (a0 := a0) (t := .double) (t' := .double) (Or.inr (wd hw 30 _ rfl)) (Or.inr (wd hw 24 _ rfl)) (by decide) (by decide) (by decide)))
  have F89 := F78.other W83 (Or.inr (slot_ne (a0 := a0) (t := .double) (t' := .double) (Or.inr (wd hw 32 _ rfl)) (Or.inr (wd hw 24 _ rfl)) (by decide) (by decide) (by decide)))
  have F90 := F79.other W83 (Or.inr (slot_ne (a0 := a0) (t := .double) (t' := .double) (Or.inr (wd hw 34 _ rfl)) (Or.inr (wd hw 24 _ rfl)) (by decide) (by decide) (by decide)))
  have F91 := A72.other W83 ((ne10).symm)
  have Z92 : n0 ≤ h83.size := by rw [W83.size]; exact Z80
  have K93 := K81.wr W83 (Or.inl (by simp))
  refine Go.via st83 ?_
  show Go p e below _ (T83.setTop (mkF m 97 #[.val (.ref a1), .val (.double x0), .second, .val (.double x1), .second, .val (.double x2), .second, .val (.double x3), .second, .val (.double x4), .second, .val (.double x5), .second] []))
  refine s_aloadN X83 hx (hb hby d0_97) rfl rfl 98 rfl ?_
  refine s_dloadN X83 hx (hb hby d0_98) rfl 99 rfl ?_
  refine s_dconst0 X83 hx (hb hby d0_99) (0 : UInt64) rfl 100 rfl ?_
  refine s_dadd X83 hx (hb hby d0_100) (FP.dadd x1 (0 : UInt64)) rfl nn1 101 rfl ?_
  obtain ⟨T94, h94, X94, e94, W94, st94⟩ := putF X83 hx hZ hown (host := "") (Or.inl (wd hw 25 _ rfl)) Via.refl e83 F86 F85 (Or.inr ⟨(wd hw 26 _ rfl), rfl, hnm⟩) (wd hw 2 _ rfl) (ty := .double) (by decide) rfl rfl (g := (mkF m 101 #[.val (.ref a1), .val (.double x0), .second, .val (.double x1), .second, .val (.double x2), .second, .val (.double x3), .second, .val (.double x4), .second, .val (.double x5), .second] [.double (FP.dadd x1 (0 : UInt64)), .ref a1])) rfl rfl (hb hby d0_101)
  have N94 := Fr.snoc X94 N83 g1
  have F95 := F86.same W94
  have F96 := F85.wr W94
  have F97 := F84.other W94 (Or.inr (slot_ne (a0 := a0) (t := .double) (t' := .double) (Or.inr (wd hw 24 _ rfl)) (Or.inr (wd hw 26 _ rfl)) (by decide) (by decide) (by decide)))
  have F98 := F87.other W94 (Or.inr (slot_ne (a0 := a0) (t := .double) (t' := .double) (Or.inr (wd hw 28 _ rfl)) (Or.inr (wd hw 26 _ rfl)) (by decide) (by decide) (by decide)))
  have F99 := F88.other W94 (Or.inr (slot_ne (a0 := a0) (t := .double) (t' := .double) (Or.inr (wd hw 30 _ rfl)) (Or.inr (wd hw 26 _ rfl)) (by decide) (by decide) (by decide)))
  have F100 := F89.other W94 (Or.inr (slot_ne (a0 := a0) (t := .double) (t' := .double) (Or.inr (wd hw 32 _ rfl)) (Or.inr (wd hw 26 _ rfl)) (by decide) (by decide) (by decide)))
  have F101 := F90.other W94 (Or.inr (slot_ne (a0 := a0) (t := .double) (t' := .double) (Or.inr (wd hw 34 _ rfl)) (Or.inr (wd hw 26 _ rfl)) (by decide) (by decide) (by decide)))
  have F102 := F91.other W94 ((ne10).symm)
  have Z103 : n0 ≤ h94.size := by rw [W94.size]; exact Z92
  have K104 := K93.wr W94 (Or.inl (by simp))
  refine Go.via st94 ?_
  show Go p e below _ (T94.setTop (mkF m 104 #[.val (.ref a1), .val (.double x0), .second, .val (.double x1), .second, .val (.double x2), .second, .val (.double x3), .second, .val (.double x4), .second, .val (.double x5), .second] []))
  refine s_aloadN X94 hx (hb hby d0_104) rfl rfl 105 rfl ?_
  refine s_dload X94 hx (hb hby d0_105) rfl 107 rfl ?_
  refine s_dconst0 X94 hx (hb hby d0_107) (0 : UInt64) rfl 108 rfl ?_
  refine s_dadd X94 hx (hb hby d0_108) (FP.dadd x2 (0 : UInt64)) rfl nn2 109 rfl ?_
  obtain ⟨T105, h105, X105, e105, W105, st105⟩ := putF X94 hx hZ hown (host := "") (Or.inl (wd hw 27 _ rfl)) Via.refl e94 F98 F96 (Or.inr ⟨(wd hw 28 _ rfl), rfl, hnm⟩) (wd hw 2 _ rfl) (ty := .double) (by decide) rfl rfl (g := (mkF m 109 #[.val (.ref a1), .val (.double x0), .second, .val (.double x1), .second, .val (.double x2), .second, .val (.double x3), .second, .val (.double x4), .second, .val (.double x5), .second] [.double (FP.dadd x2 (0 : UInt64)), .ref a1])) rfl rfl (hb hby d0_109)
  have N105 := Fr.snoc X105 N94 g1
  have F106 := F98.same W105
  have F107 := F96.wr W105
  have F108 := F97.other W105 (Or.inr (slot_ne (a0 := a0) (t := .double) (t' := .double) (Or.inr (wd hw 24 _ rfl)) (Or.inr (wd hw 28 _ rfl)) (by decide) (by decide) (by decide)))
  have F109 := F95.other W105 (Or.inr (slot_ne (a0 := a0) (t := .double) (t' := .double) (Or.inr (wd hw 26 _ rfl)) (Or.inr (wd hw 28 _ rfl)) (by decide) (by decide) (by decide)))
  have F110 := F99.other W105 (Or.inr (slot_ne (a0 := a0) (t := .double) (t' := .double) (Or.inr (wd hw 30 _ rfl)) (Or.inr (wd hw 28 _ rfl)) (by decide) (by decide) (by decide)))
  have F111 := F100.other W105 (Or.inr (slot_ne (a0 := a0) (t := .double) (t' := .double) (Or.inr (wd hw 32 _ rfl)) (Or.inr (wd hw 28 _ rfl)) (by decide) (by decide) (by decide)))
  have F112 := F101.other W105 (Or.inr (slot_ne (a0 := a0) (t := .double) (t' := .double) (Or.inr (wd hw 34 _ rfl)) (Or.inr (wd hw 28 _ rfl)) (by decide) (by decide) (by decide)))
  have F113 := F102.other W105 ((ne10).symm)
  have Z114 : n0 ≤ h105.size := by rw [W105.size]; exact Z103
  have K115 := K104.wr W105 (Or.inl (by simp))
  refine Go.via st105 ?_
  show Go p e below _ (T105.setTop (mkF m 112 #[.val (.ref a1), .val (.double x0), .second, .val (.double x1), .second, .val (.double x2), .second, .val (.double x3), .second, .val (.double x4), .second, .val (.double x5), .second] []))
  refine s_aloadN X105 hx (hb hby d0_112) rfl rfl 113 rfl ?_
  refine s_dload X105 hx (hb hby d0_113) rfl 115 rfl ?_
  refine s_dconst0 X105 hx (hb hby d0_115) (0 : UInt64) rfl 116 rfl ?_
  refine s_dadd X105 hx (hb hby d0_116) (FP.dadd x3 (0 : UInt64)) rfl nn3 117 rfl ?_
  obtain ⟨T116, h116, X116, e116, W116, st116⟩ := putF X105 hx hZ hown (host := "") (Or.inl (wd hw 29 _ rfl)) Via.refl e105 F110 F107 (Or.inr ⟨(wd hw 30 _ rfl), rfl, hnm⟩) (wd hw 2 _ rfl) (ty := .double) (by decide) rfl rfl (g := (mkF m 117 #[.val (.ref a1), .val (.double x0), .second, .val (.double x1), .second, .val (.double x2), .second, .val (.double x3), .second, .val (.double x4), .second, .val (.double x5), .second] [.double (FP.dadd x3 (0 : UInt64)), .ref a1])) rfl rfl (hb hby d0_117)
  have N116 := Fr.snoc X116 N105 g1
  have F117 := F110.same W116
  have F118 := F107.wr W116
  have F119 := F108.other W116 (Or.inr (slot_ne (a0 := a0) (t := .double) (t' := .double) (Or.inr (wd hw 24 _ rfl)) (Or.inr (wd hw 30 _ rfl)) (by decide) (by decide) (by decide)))
  have F120 := F109.other W116 (Or.inr (slot_ne (a0 := a0) (t := .double) (t' := .double) (Or.inr (wd hw 26 _ rfl)) (Or.inr (wd hw 30 _ rfl)) (by decide) (by decide) (by decide)))
  have F121 := F106.other W116 (Or.inr (slot_ne (a0 := a0) (t := .double) (t' := .double) (Or.inr (wd hw 28 _ rfl)) (Or.inr (wd hw 30 _ rfl)) (by decide) (by decide) (by decide)))
  have F122 := F111.other W116 (Or.inr (slot_ne (a0 := a0) (t := .double) (t' := .double) (Or.inr (wd hw 32 _ rfl)) (Or.inr (wd hw 30 _ rfl)) (by decide) (by decide) (by decide)))
  have F123 := F112.other W116 (Or.inr (slot_ne (a0 := a0) (t := .double) (t' := .double) (Or.inr (wd hw 34 _ rfl)) (Or.inr (wd hw 30 _ rfl)) (by decide) (by decide) (by decide)))
  have F124 := F113.other W116 ((ne10).symm)
  have Z125 : n0 ≤ h116.size := by rw [W116.size]; exact Z114
  have K126 := K115.wr W116 (Or.inl (by simp))
  refine Go.via st116 ?_
  show Go p e below _ (T116.setTop (mkF m 120 #[.val (.ref a1), .val (.double x0), .second, .val (.double x1), .second, .val (.double x2), .second, .val (.double x3), .second, .val (.double x4), .second, .val (.double x5), .second] []))
  refine s_aloadN X116 hx (hb hby d0_120) rfl rfl 121 rfl ?_
  refine s_dload X116 hx (hb hby d0_121) rfl 123 rfl ?_
  refine s_dconst0 X116 hx (hb hby d0_123) (0 : UInt64) rfl 124 rfl ?_
  refine s_dadd X116 hx (hb hby d0_124) (FP.dadd x4 (0 : UInt64)) rfl nn4 125 rfl ?_
  obtain ⟨T127, h127, X127, e127, W127, st127⟩ := putF X116 hx hZ hown (host := "") (Or.inl (wd hw 31 _ rfl)) Via.refl e116 F122 F118 (Or.inr ⟨(wd hw 32 _ rfl), rfl, hnm⟩) (wd hw 2 _ rfl) (ty := .double) (by decide) rfl rfl (g := (mkF m 125 #[.val (.ref a1), .val (.double x0), .second, .val (.double x1), .second, .val (.double x2), .second, .val (.double x3), .second, .val (.double x4), .second, .val (.double x5), .second] [.double (FP.dadd x4 (0 : UInt64)), .ref a1])) rfl rfl (hb hby d0_125)
  have N127 := Fr.snoc X127 N116 g1
  have F128 := F122.same W127
  have F129 := F118.wr W127
  have F130 := F119.other W127 (Or.inr (slot_ne (a0 := a0) (t := .double) (t' := .double) (Or.inr (wd hw 24 _ rfl)) (Or.inr (wd hw 32 _ rfl)) (by decide) (by decide) (by decide)))
  have F131 := F120.other W127 (Or.inr (slot_ne (a0 := a0) (t := .double) (t' := .double) (Or.inr (wd hw 26 _ rfl)) (Or.inr (wd hw 32 _ rfl)) (by decide) (by decide) (by decide)))
  have F132 := F121.other W127 (Or.inr (slot_ne (a0 := a0) (t := .double) (t' := .double) (Or.inr (wd hw 28 _ rfl)) (Or.inr (wd hw 32 _ rfl)) (by decide) (by decide) (by decide)))
  have F133 := F117.other W127 (Or.inr (slot_ne (a0 := a0) (t := .double) (t' := .double) (Or.inr (wd hw 30 _ rfl)) (Or.inr (wd hw 32 _ rfl)) (by decide) (by decide) (by decide)))
  have F134 := F123.other W127 (Or.inr (slot_ne (a0 := a0) (t := .double) (t' := .double) (Or.inr (wd hw 34 _ rfl)) (Or.inr (wd hw 32 _ rfl)) (by decide) (by decide) (by decide)))
  have F135 := F124.other W127 ((ne10).symm)
  have Z136 : n0 ≤ h127.size := by rw [W127.size]; exact Z125
  have K137 := K126.wr W127 (Or.inl (by simp))
  refine Go.via st127 ?_
  show Go p e below _ (T127.setTop (mkF m 128 #[.val (.ref a1), .val (.double x0), .second, .val (.double x1), .second, .val (.double x2), .second, .val (.double x3), .second, .val (.double x4), .second, .val (.double x5), .second] []))
  refine s_aloadN X127 hx (hb hby d0_128) rfl rfl 129 rfl ?_
  refine s_dload X127 hx (hb hby d0_129) rfl 131 rfl ?_
  refine s_dconst0 X127 hx (hb hby d0_131) (0 : UInt64) rfl 132 rfl ?_
  refine s_dadd X127 hx (hb hby d0_132) (FP.dadd x5 (0 : UInt64)) rfl nn5 133 rfl ?_
  obtain ⟨T138, h138, X138, e138, W138, st138⟩ := putF X127 hx hZ hown (host := "") (Or.inl (wd hw 33 _ rfl)) Via.refl e127 F134 F129 (Or.inr ⟨(wd hw 34 _ rfl), rfl, hnm⟩) (wd hw 2 _ rfl) (ty := .double) (by decide) rfl rfl (g := (mkF m 133 #[.val (.ref a1), .val (.double x0), .second, .val (.double x1), .second, .val (.double x2), .second, .val (.double x3), .second, .val (.double x4), .second, .val (.double x5), .second] [.double (FP.dadd x5 (0 : UInt64)), .ref a1])) rfl rfl (hb hby d0_133)
  have N138 := Fr.snoc X138 N127 g1
  have F139 := F134.same W138
  have F140 := F129.wr W138
  have F141 := F130.other W138 (Or.inr (slot_ne (a0 := a0) (t := .double) (t' := .double) (Or.inr (wd hw 24 _ rfl)) (Or.inr (wd hw 34 _ rfl)) (by decide) (by decide) (by decide)))
  have F142 := F131.other W138 (Or.inr (slot_ne (a0 := a0) (t := .double) (t' := .double) (Or.inr (wd hw 26 _ rfl)) (Or.inr (wd hw 34 _ rfl)) (by decide) (by decide) (by decide)))
  have F143 := F132.other W138 (Or.inr (slot_ne (a0 := a0) (t := .double) (t' := .double) (Or.inr (wd hw 28 _ rfl)) (Or.inr (wd hw 34 _ rfl)) (by decide) (by decide) (by decide)))
  have F144 := F133.other W138 (Or.inr (slot_ne (a0 := a0) (t := .double) (t' := .double) (Or.inr (wd hw 30 _ rfl)) (Or.inr (wd hw 34 _ rfl)) (by decide) (by decide) (by decide)))
  have F145 := F128.other W138 (Or.inr (slot_ne (a0 := a0) (t := .double) (t' := .double) (Or.inr (wd hw 32 _ rfl)) (Or.inr (wd hw 34 _ rfl)) (by decide) (by decide) (by decide)))
  have F146 := F135.other W138 ((ne10).symm)
  have Z147 : n0 ≤ h138.size := by rw [W138.size]; exact Z136
  have K148 := K137.wr W138 (Or.inl (by simp))
  refine Go.via st138 ?_
  show Go p e below _ (T138.setTop (mkF m 136 #[.val (.ref a1), .val (.double x0), .second, .val (.double x1), .second, .val (.double x2), .second, .val (.double x3), .second, .val (.double x4), .second, .val (.double x5), .second] []))
  exact retV X138 hx hlk hret (hb hby d0_136) e138 ⟨rfl, N138, K148, F141, F142, F143, F144, F145, F139⟩ (by decide) (by decide)
theorem d5_0 : decode prog_1_method_6_code 0 = .ok (.aload_n 0, 1) := by decide +kernel
theorem d5_1 : decode prog_1_method_6_code 1 = .ok (.getfield 28, 3) := by decide +kernel
theorem d5_4 : decode prog_1_method_6_code 4 = .ok (.aload_n 0, 1) := by decide +kernel
theorem d5_5 : decode prog_1_method_6_code 5 = .ok (.getfield 41, 3) := by decide +kernel
theorem d5_8 : decode prog_1_method_6_code 8 = .ok (.dmul, 1) := by decide +kernel
theorem d5_9 : decode prog_1_method_6_code 9 = .ok (.aload_n 0, 1) := by decide +kernel
theorem d5_10 : decode prog_1_method_6_code 10 = .ok (.getfield 32, 3) := by decide +kernel
theorem d5_13 : decode prog_1_method_6_code 13 = .ok (.aload_n 0, 1) := by decide +kernel
theorem d5_14 : decode prog_1_method_6_code 14 = .ok (.getfield 38, 3) := by decide +kernel
theorem d5_17 : decode prog_1_method_6_code 17 = .ok (.dmul, 1) := by decide +kernel
theorem d5_18 : decode prog_1_method_6_code 18 = .ok (.dsub, 1) := by decide +kernel
theorem d5_19 : decode prog_1_method_6_code 19 = .ok (.dreturn, 1) := by decide +kernel
theorem pd_5 : parseMethodDescriptor "()D" = some ⟨[], some .double⟩ := by decide +kernel
theorem pn_5 : plainFor (⟨"com/example/lamina3/lamina3/AffineMap", "determinant", "()D"⟩ : MethodName) = true := plainFor_of_name (by show plainName "com/example/lamina3/lamina3/AffineMap" = true; first | (simp [plainName, overriddenIn]; done) | decide +kernel)
set_option maxRecDepth 65536 in
set_option maxHeartbeats 40000000 in
theorem rm_det (l : Launch) (Z : State) (a0 : Array Value) (hw : ∀ d ∈ tables_1, d.before a0 Z = true) (ws : List Jvm.Cond) (a1 : Addr) (xa xb xd xe : UInt64) (A B D E : Int) (h0 : Heap) (n0 : Nat) (Z0 : n0 ≤ h0.size) (F_a : Fld Z h0 a1 "com/example/lamina3/lamina3/AffineMap" "a" "D" (.double xa)) (H_a : Db 1048576 A 0 xa) (F_b : Fld Z h0 a1 "com/example/lamina3/lamina3/AffineMap" "b" "D" (.double xb)) (H_b : Db 1048576 B 0 xb) (F_d : Fld Z h0 a1 "com/example/lamina3/lamina3/AffineMap" "d" "D" (.double xd)) (H_d : Db 1048576 D 0 xd) (F_e : Fld Z h0 a1 "com/example/lamina3/lamina3/AffineMap" "e" "D" (.double xe)) (H_e : Db 1048576 E 0 xe) :
    Ct l Z (⟨"com/example/lamina3/lamina3/AffineMap", "determinant", "()D"⟩ : MethodName) prog_1_method_6_code 1 (some .double) ws ({ frames := 0, cells := 0, slots := 0, locals := 0 } : Room) #[.ref a1] h0 (fun v h L => ∃ r, v = some (.double r) ∧ Fr n0 L ∧ h = h0 ∧ Db (1048576 * 1048576 + 1048576 * 1048576) (A * E - B * D) (0 + 0) r) := by
  refine Ct.intro pn_5 #[.val (.ref a1)] (fun _ => by first | (simp [entryFrame, mkF, argsToLocals, Value.category, maxLocals]; done) | rfl) ?_
  intro p e s m below meth c T0 X0 hx hZ hby hml hown hnm hret hlk e0
  have N0 := Fr.nil n0
  refine s_aloadN X0 hx (hb hby d5_0) rfl rfl 1 rfl ?_
  obtain ⟨T149, X149, e149, st149⟩ := getF X0 hx hZ hown (host := "") (Or.inl (wd hw 23 _ rfl)) Via.refl e0 F_a (g := (mkF m 1 #[.val (.ref a1)] [.ref a1])) rfl rfl (hb hby d5_1)
  refine Go.via st149 ?_
  show Go p e below _ (T149.setTop (mkF m 4 #[.val (.ref a1)] [.double xa]))
  refine s_aloadN X149 hx (hb hby d5_4) rfl rfl 5 rfl ?_
  obtain ⟨T150, X150, e150, st150⟩ := getF X149 hx hZ hown (host := "") (Or.inl (wd hw 31 _ rfl)) Via.refl e149 F_e (g := (mkF m 5 #[.val (.ref a1)] [.ref a1, .double xa])) rfl rfl (hb hby d5_5)
  refine Go.via st150 ?_
  show Go p e below _ (T150.setTop (mkF m 8 #[.val (.ref a1)] [.double xe, .double xa]))
  have Dd151 := Db.mul H_a H_e (by decide)
  obtain ⟨d151, h_d151⟩ : ∃ v, FP.dmul xa xe = v := ⟨_, rfl⟩
  rw [h_d151] at Dd151
  refine s_dmul X150 hx (hb hby d5_8) d151 h_d151 Dd151.nn 9 rfl ?_
  refine s_aloadN X150 hx (hb hby d5_9) rfl rfl 10 rfl ?_
  obtain ⟨T152, X152, e152, st152⟩ := getF X150 hx hZ hown (host := "") (Or.inl (wd hw 25 _ rfl)) Via.refl e150 F_b (g := (mkF m 10 #[.val (.ref a1)] [.ref a1, .double d151])) rfl rfl (hb hby d5_10)
  refine Go.via st152 ?_
  show Go p e below _ (T152.setTop (mkF m 13 #[.val (.ref a1)] [.double xb, .double d151]))
  refine s_aloadN X152 hx (hb hby d5_13) rfl rfl 14 rfl ?_
  obtain ⟨T153, X153, e153, st153⟩ := getF X152 hx hZ hown (host := "") (Or.inl (wd hw 29 _ rfl)) Via.refl e152 F_d (g := (mkF m 14 #[.val (.ref a1)] [.ref a1, .double xb, .double d151])) rfl rfl (hb hby d5_14)
  refine Go.via st153 ?_
  show Go p e below _ (T153.setTop (mkF m 17 #[.val (.ref a1)] [.double xd, .double xb, .double d151]))
  have Dd154 := Db.mul H_b H_d (by decide)
  obtain ⟨d154, h_d154⟩ : ∃ v, FP.dmul xb xd = v := ⟨_, rfl⟩
  rw [h_d154] at Dd154
  refine s_dmul X153 hx (hb hby d5_17) d154 h_d154 Dd154.nn 18 rfl ?_
  have Dd155 := Db.sub Dd151 Dd154 (by decide)
  obtain ⟨d155, h_d155⟩ : ∃ v, FP.dsub d151 d154 = v := ⟨_, rfl⟩
  rw [h_d155] at Dd155
  refine s_dsub X153 hx (hb hby d5_18) d155 h_d155 Dd155.nn 19 rfl ?_
  exact retD X153 hx hlk hret (hb hby d5_19) e153 ⟨_, rfl, N0, rfl, Dd155⟩ (by decide) (by decide)
set_option maxRecDepth 65536 in
set_option maxHeartbeats 40000000 in
theorem rm_law (l : Launch) (Z : State) (a0 : Array Value) (hw : ∀ d ∈ tables_1, d.before a0 Z = true) (ws : List Jvm.Cond) (i0 i1 i2 i3 i4 i5 : Int32) (h0 : Heap) (n0 : Nat) (Z0 : n0 ≤ h0.size)  :
    Ct l Z x code maxLocals ret ws room_1 #[.int i0, .int i1, .int i2, .int i3, .int i4, .int i5] h0 (fun v h L => v = some (.int 1) ∧ Fr n0 L) := by
  refine Ct.intro pn_law #[.val (.int i0), .val (.int i1), .val (.int i2), .val (.int i3), .val (.int i4), .val (.int i5), .unset, .unset, .unset, .unset, .unset, .unset, .unset, .unset, .unset, .unset, .unset] (fun _ => by first | (simp [entryFrame, mkF, argsToLocals, Value.category, maxLocals]; done) | rfl) ?_
  intro p e s m below meth c T0 X0 hx hZ hby hml hown hnm hret hlk e0
  have N0 := Fr.nil n0
  refine s_iloadN X0 hx (hb hby at_0) rfl 1 rfl ?_
  refine s_ldcI X0 hx (hb hby at_1) hZ hown (wd hw 0 _ rfl) 3 rfl ?_
  refine s_irem X0 hx (hb hby at_3) (by decide) (i0 % (1048576 : Int32)) rfl 4 rfl ?_
  have B156 := Ib.i2l (own_rem i0)
  refine s_i2l X0 hx (hb hby at_4) ((i0 % (1048576 : Int32)).toInt64) rfl 5 rfl ?_
  refine s_lstore X0 hx (hb hby at_5) #[.val (.int i0), .val (.int i1), .val (.int i2), .val (.int i3), .val (.int i4), .val (.int i5), .val (.long ((i0 % (1048576 : Int32)).toInt64)), .second, .unset, .unset, .unset, .unset, .unset, .unset, .unset, .unset, .unset] rfl 7 rfl ?_
  refine s_iloadN X0 hx (hb hby at_7) rfl 8 rfl ?_
  refine s_ldcI X0 hx (hb hby at_8) hZ hown (wd hw 0 _ rfl) 10 rfl ?_
  refine s_irem X0 hx (hb hby at_10) (by decide) (i1 % (1048576 : Int32)) rfl 11 rfl ?_
  have B157 := Ib.i2l (own_rem i1)
  refine s_i2l X0 hx (hb hby at_11) ((i1 % (1048576 : Int32)).toInt64) rfl 12 rfl ?_
  refine s_lstore X0 hx (hb hby at_12) #[.val (.int i0), .val (.int i1), .val (.int i2), .val (.int i3), .val (.int i4), .val (.int i5), .val (.long ((i0 % (1048576 : Int32)).toInt64)), .second, .val (.long ((i1 % (1048576 : Int32)).toInt64)), .second, .unset, .unset, .unset, .unset, .unset, .unset, .unset] rfl 14 rfl ?_
  refine s_iloadN X0 hx (hb hby at_14) rfl 15 rfl ?_
  refine s_ldcI X0 hx (hb hby at_15) hZ hown (wd hw 0 _ rfl) 17 rfl ?_
  refine s_irem X0 hx (hb hby at_17) (by decide) (i3 % (1048576 : Int32)) rfl 18 rfl ?_
  have B158 := Ib.i2l (own_rem i3)
  refine s_i2l X0 hx (hb hby at_18) ((i3 % (1048576 : Int32)).toInt64) rfl 19 rfl ?_
  refine s_lstore X0 hx (hb hby at_19) #[.val (.int i0), .val (.int i1), .val (.int i2), .val (.int i3), .val (.int i4), .val (.int i5), .val (.long ((i0 % (1048576 : Int32)).toInt64)), .second, .val (.long ((i1 % (1048576 : Int32)).toInt64)), .second, .val (.long ((i3 % (1048576 : Int32)).toInt64)), .second, .unset, .unset, .unset, .unset, .unset] rfl 21 rfl ?_
  refine s_iload X0 hx (hb hby at_21) rfl 23 rfl ?_
  refine s_ldcI X0 hx (hb hby at_23) hZ hown (wd hw 0 _ rfl) 25 rfl ?_
  refine s_irem X0 hx (hb hby at_25) (by decide) (i4 % (1048576 : Int32)) rfl 26 rfl ?_
  have B159 := Ib.i2l (own_rem i4)
  refine s_i2l X0 hx (hb hby at_26) ((i4 % (1048576 : Int32)).toInt64) rfl 27 rfl ?_
  refine s_lstore X0 hx (hb hby at_27) #[.val (.int i0), .val (.int i1), .val (.int i2), .val (.int i3), .val (.int i4), .val (.int i5), .val (.long ((i0 % (1048576 : Int32)).toInt64)), .second, .val (.long ((i1 % (1048576 : Int32)).toInt64)), .second, .val (.long ((i3 % (1048576 : Int32)).toInt64)), .second, .val (.long ((i4 % (1048576 : Int32)).toInt64)), .second, .unset, .unset, .unset] rfl 29 rfl ?_
  obtain ⟨T160, h160, X160, e160, E160, A160, D160, -, st160⟩ := newO X0 hx hZ hown (wd hw 1 _ rfl) (wd hw 2 _ rfl) (wd hw 3 _ rfl) e0 (g := (mkF m 29 #[.val (.int i0), .val (.int i1), .val (.int i2), .val (.int i3), .val (.int i4), .val (.int i5), .val (.long ((i0 % (1048576 : Int32)).toInt64)), .second, .val (.long ((i1 % (1048576 : Int32)).toInt64)), .second, .val (.long ((i3 % (1048576 : Int32)).toInt64)), .second, .val (.long ((i4 % (1048576 : Int32)).toInt64)), .second, .unset, .unset, .unset] [])) rfl (hb hby at_29) (by decide) (by decide)
  obtain ⟨a160, g160⟩ : ∃ z, z = h0.size := ⟨_, rfl⟩
  rw [← g160] at A160 D160 st160
  have q161 : n0 ≤ a160 := by rw [g160]; exact Z0
  have Z162 := Nat.le_trans Z0 E160.1
  have F163 : Fld Z h160 a160 "com/example/lamina3/lamina3/AffineMap" "a" "D" (.double (0 : UInt64)) := D160 (Or.inr (wd hw 24 _ rfl)) (ty := .double) (by decide)
  have F164 : Fld Z h160 a160 "com/example/lamina3/lamina3/AffineMap" "b" "D" (.double (0 : UInt64)) := D160 (Or.inr (wd hw 26 _ rfl)) (ty := .double) (by decide)
  have F165 : Fld Z h160 a160 "com/example/lamina3/lamina3/AffineMap" "c" "D" (.double (0 : UInt64)) := D160 (Or.inr (wd hw 28 _ rfl)) (ty := .double) (by decide)
  have F166 : Fld Z h160 a160 "com/example/lamina3/lamina3/AffineMap" "d" "D" (.double (0 : UInt64)) := D160 (Or.inr (wd hw 30 _ rfl)) (ty := .double) (by decide)
  have F167 : Fld Z h160 a160 "com/example/lamina3/lamina3/AffineMap" "e" "D" (.double (0 : UInt64)) := D160 (Or.inr (wd hw 32 _ rfl)) (ty := .double) (by decide)
  have F168 : Fld Z h160 a160 "com/example/lamina3/lamina3/AffineMap" "f" "D" (.double (0 : UInt64)) := D160 (Or.inr (wd hw 34 _ rfl)) (ty := .double) (by decide)
  refine Go.via st160 ?_
  show Go p e below _ (T160.setTop (mkF m 32 #[.val (.int i0), .val (.int i1), .val (.int i2), .val (.int i3), .val (.int i4), .val (.int i5), .val (.long ((i0 % (1048576 : Int32)).toInt64)), .second, .val (.long ((i1 % (1048576 : Int32)).toInt64)), .second, .val (.long ((i3 % (1048576 : Int32)).toInt64)), .second, .val (.long ((i4 % (1048576 : Int32)).toInt64)), .second, .unset, .unset, .unset] [.ref a160]))
  refine s_dup X160 hx (hb hby at_32) rfl 33 rfl ?_
  refine s_lload X160 hx (hb hby at_33) rfl 35 rfl ?_
  have Dd169 := Lb.l2d B156 (by decide)
  obtain ⟨d169, h_d169⟩ : ∃ v, (FP.l2d ((i0 % (1048576 : Int32)).toInt64)) = v := ⟨_, rfl⟩
  rw [h_d169] at Dd169
  refine s_l2d X160 hx (hb hby at_35) d169 h_d169 36 rfl ?_
  refine s_lload X160 hx (hb hby at_36) rfl 38 rfl ?_
  have Dd170 := Lb.l2d B157 (by decide)
  obtain ⟨d170, h_d170⟩ : ∃ v, (FP.l2d ((i1 % (1048576 : Int32)).toInt64)) = v := ⟨_, rfl⟩
  rw [h_d170] at Dd170
  refine s_l2d X160 hx (hb hby at_38) d170 h_d170 39 rfl ?_
  refine s_iloadN X160 hx (hb hby at_39) rfl 40 rfl ?_
  have Dd171 := Ib.i2d (Ib.any i2)
  obtain ⟨d171, h_d171⟩ : ∃ v, (FP.i2d i2) = v := ⟨_, rfl⟩
  rw [h_d171] at Dd171
  refine s_i2d X160 hx (hb hby at_40) d171 h_d171 41 rfl ?_
  refine s_lload X160 hx (hb hby at_41) rfl 43 rfl ?_
  have Dd172 := Lb.l2d B158 (by decide)
  obtain ⟨d172, h_d172⟩ : ∃ v, (FP.l2d ((i3 % (1048576 : Int32)).toInt64)) = v := ⟨_, rfl⟩
  rw [h_d172] at Dd172
  refine s_l2d X160 hx (hb hby at_43) d172 h_d172 44 rfl ?_
  refine s_lload X160 hx (hb hby at_44) rfl 46 rfl ?_
  have Dd173 := Lb.l2d B159 (by decide)
  obtain ⟨d173, h_d173⟩ : ∃ v, (FP.l2d ((i4 % (1048576 : Int32)).toInt64)) = v := ⟨_, rfl⟩
  rw [h_d173] at Dd173
  refine s_l2d X160 hx (hb hby at_46) d173 h_d173 47 rfl ?_
  refine s_iload X160 hx (hb hby at_47) rfl 49 rfl ?_
  have Dd174 := Ib.i2d (Ib.any i5)
  obtain ⟨d174, h_d174⟩ : ∃ v, (FP.i2d i5) = v := ⟨_, rfl⟩
  rw [h_d174] at Dd174
  refine s_i2d X160 hx (hb hby at_49) d174 h_d174 50 rfl ?_
  obtain ⟨v175, T175, L175, X175, hQ175, st175⟩ := callInit X160 hx hZ hown rfl (wd hw 4 _ rfl) (wd hw 5 _ rfl) (wd hw 3 _ rfl) (wd hw 6 _ rfl) (by decide) (rm_init l Z a0 hw [] a160 d169 d170 d171 d172 d173 d174 h160 n0 Z162 A160 q161 F163 F164 F165 F166 F167 F168 Dd169.1.fin64 Dd170.1.fin64 Dd171.1.fin64 Dd172.1.fin64 Dd173.1.fin64 Dd174.1.fin64 (Db.add Dd169 Db.zero (by decide)).nn (Db.add Dd170 Db.zero (by decide)).nn (Db.add Dd171 Db.zero (by decide)).nn (Db.add Dd172 Db.zero (by decide)).nn (Db.add Dd173 Db.zero (by decide)).nn (Db.add Dd174 Db.zero (by decide)).nn) e160 (L := #[.val (.int i0), .val (.int i1), .val (.int i2), .val (.int i3), .val (.int i4), .val (.int i5), .val (.long ((i0 % (1048576 : Int32)).toInt64)), .second, .val (.long ((i1 % (1048576 : Int32)).toInt64)), .second, .val (.long ((i3 % (1048576 : Int32)).toInt64)), .second, .val (.long ((i4 % (1048576 : Int32)).toInt64)), .second, .unset, .unset, .unset]) (hb hby at_50) (by rw [hml]; rfl) a160 [.double d169, .double d170, .double d171, .double d172, .double d173, .double d174] [.ref a160] rfl rfl pd_0 rfl 1 (by show 2 * 0 + _ ≤ _; exact Nat.le_of_eq rfl) (by decide) (by decide) (by decide) (by decide)
  obtain ⟨rfl, N175, K175, G175_0, G175_1, G175_2, G175_3, G175_4, G175_5⟩ := hQ175
  have M175 := Fr.app N0 N175
  have Dd176 := Db.add Dd169 Db.zero (by decide)
  obtain ⟨d176, h_d176⟩ : ∃ v, FP.dadd d169 (0 : UInt64) = v := ⟨_, rfl⟩
  rw [h_d176] at Dd176 G175_0
  have Dd177 := Db.add Dd170 Db.zero (by decide)
  obtain ⟨d177, h_d177⟩ : ∃ v, FP.dadd d170 (0 : UInt64) = v := ⟨_, rfl⟩
  rw [h_d177] at Dd177 G175_1
  have Dd178 := Db.add Dd171 Db.zero (by decide)
  obtain ⟨d178, h_d178⟩ : ∃ v, FP.dadd d171 (0 : UInt64) = v := ⟨_, rfl⟩
  rw [h_d178] at Dd178 G175_2
  have Dd179 := Db.add Dd172 Db.zero (by decide)
  obtain ⟨d179, h_d179⟩ : ∃ v, FP.dadd d172 (0 : UInt64) = v := ⟨_, rfl⟩
  rw [h_d179] at Dd179 G175_3
  have Dd180 := Db.add Dd173 Db.zero (by decide)
  obtain ⟨d180, h_d180⟩ : ∃ v, FP.dadd d173 (0 : UInt64) = v := ⟨_, rfl⟩
  rw [h_d180] at Dd180 G175_4
  have Dd181 := Db.add Dd174 Db.zero (by decide)
  obtain ⟨d181, h_d181⟩ : ∃ v, FP.dadd d174 (0 : UInt64) = v := ⟨_, rfl⟩
  rw [h_d181] at Dd181 G175_5
  have F182 := A160.keep K175
  have Z183 := Nat.le_trans Z162 K175.1
  have e175 : T175.heap = T175.heap := rfl
  refine Go.via st175 ?_
  show Go p e below _ (T175.setTop (mkF m 53 #[.val (.int i0), .val (.int i1), .val (.int i2), .val (.int i3), .val (.int i4), .val (.int i5), .val (.long ((i0 % (1048576 : Int32)).toInt64)), .second, .val (.long ((i1 % (1048576 : Int32)).toInt64)), .second, .val (.long ((i3 % (1048576 : Int32)).toInt64)), .second, .val (.long ((i4 % (1048576 : Int32)).toInt64)), .second, .unset, .unset, .unset] [.ref a160]))
  refine s_astore X175 hx (hb hby at_53) rfl #[.val (.int i0), .val (.int i1), .val (.int i2), .val (.int i3), .val (.int i4), .val (.int i5), .val (.long ((i0 % (1048576 : Int32)).toInt64)), .second, .val (.long ((i1 % (1048576 : Int32)).toInt64)), .second, .val (.long ((i3 % (1048576 : Int32)).toInt64)), .second, .val (.long ((i4 % (1048576 : Int32)).toInt64)), .second, .val (.ref a160), .unset, .unset] rfl 55 rfl ?_
  refine s_lload X175 hx (hb hby at_55) rfl 57 rfl ?_
  refine s_lload X175 hx (hb hby at_57) rfl 59 rfl ?_
  have B184 := Lb.mul B156 B159 (by decide)
  refine s_lmul X175 hx (hb hby at_59) ((i0 % (1048576 : Int32)).toInt64 * (i4 % (1048576 : Int32)).toInt64) rfl 60 rfl ?_
  refine s_lload X175 hx (hb hby at_60) rfl 62 rfl ?_
  refine s_lload X175 hx (hb hby at_62) rfl 64 rfl ?_
  have B185 := Lb.mul B157 B158 (by decide)
  refine s_lmul X175 hx (hb hby at_64) ((i1 % (1048576 : Int32)).toInt64 * (i3 % (1048576 : Int32)).toInt64) rfl 65 rfl ?_
  have B186 := Lb.sub B184 B185 (by decide)
  refine s_lsub X175 hx (hb hby at_65) (((i0 % (1048576 : Int32)).toInt64 * (i4 % (1048576 : Int32)).toInt64) - ((i1 % (1048576 : Int32)).toInt64 * (i3 % (1048576 : Int32)).toInt64)) rfl 66 rfl ?_
  refine s_lstore X175 hx (hb hby at_66) #[.val (.int i0), .val (.int i1), .val (.int i2), .val (.int i3), .val (.int i4), .val (.int i5), .val (.long ((i0 % (1048576 : Int32)).toInt64)), .second, .val (.long ((i1 % (1048576 : Int32)).toInt64)), .second, .val (.long ((i3 % (1048576 : Int32)).toInt64)), .second, .val (.long ((i4 % (1048576 : Int32)).toInt64)), .second, .val (.ref a160), .val (.long (((i0 % (1048576 : Int32)).toInt64 * (i4 % (1048576 : Int32)).toInt64) - ((i1 % (1048576 : Int32)).toInt64 * (i3 % (1048576 : Int32)).toInt64))), .second] rfl 68 rfl ?_
  refine s_aload X175 hx (hb hby at_68) rfl rfl 70 rfl ?_
  obtain ⟨v187, T187, L187, X187, hQ187, st187⟩ := callVirt X175 hx hZ hown (wd hw 35 _ rfl) (wd hw 36 _ rfl) (wd hw 38 _ rfl) (wd hw 37 _ rfl) (wd hw 3 _ rfl) (wd hw 39 _ rfl) (by decide) (rm_det l Z a0 hw [] a160 d176 d177 d179 d180 _ _ _ _ T175.heap n0 Z183 G175_0 (Dd176.weak (by decide)) G175_1 (Dd177.weak (by decide)) G175_3 (Dd179.weak (by decide)) G175_4 (Dd180.weak (by decide))) e175 a160 F182 (L := #[.val (.int i0), .val (.int i1), .val (.int i2), .val (.int i3), .val (.int i4), .val (.int i5), .val (.long ((i0 % (1048576 : Int32)).toInt64)), .second, .val (.long ((i1 % (1048576 : Int32)).toInt64)), .second, .val (.long ((i3 % (1048576 : Int32)).toInt64)), .second, .val (.long ((i4 % (1048576 : Int32)).toInt64)), .second, .val (.ref a160), .val (.long (((i0 % (1048576 : Int32)).toInt64 * (i4 % (1048576 : Int32)).toInt64) - ((i1 % (1048576 : Int32)).toInt64 * (i3 % (1048576 : Int32)).toInt64))), .second]) (hb hby at_70) (by rw [hml]; rfl) [] [] rfl rfl pd_5 rfl 0 (by show 2 * 0 + _ ≤ _; exact Nat.le_of_eq rfl) (by decide) (by decide) (by decide) (by decide)
  obtain ⟨r187, rfl, N187, hh187, H187⟩ := hQ187
  have M187 := Fr.app M175 N187
  refine Go.via st187 ?_
  show Go p e below _ (T187.setTop (mkF m 73 #[.val (.int i0), .val (.int i1), .val (.int i2), .val (.int i3), .val (.int i4), .val (.int i5), .val (.long ((i0 % (1048576 : Int32)).toInt64)), .second, .val (.long ((i1 % (1048576 : Int32)).toInt64)), .second, .val (.long ((i3 % (1048576 : Int32)).toInt64)), .second, .val (.long ((i4 % (1048576 : Int32)).toInt64)), .second, .val (.ref a160), .val (.long (((i0 % (1048576 : Int32)).toInt64 * (i4 % (1048576 : Int32)).toInt64) - ((i1 % (1048576 : Int32)).toInt64 * (i3 % (1048576 : Int32)).toInt64))), .second] [.double r187]))
  refine s_lload X187 hx (hb hby at_73) rfl 75 rfl ?_
  have Dd188 := Lb.l2d B186 (by decide)
  obtain ⟨d188, h_d188⟩ : ∃ v, (FP.l2d (((i0 % (1048576 : Int32)).toInt64 * (i4 % (1048576 : Int32)).toInt64) - ((i1 % (1048576 : Int32)).toInt64 * (i3 % (1048576 : Int32)).toInt64))) = v := ⟨_, rfl⟩
  rw [h_d188] at Dd188
  refine s_l2d X187 hx (hb hby at_75) d188 h_d188 76 rfl ?_
  refine s_dcmp X187 hx (hb hby at_76) (0 : Int32) (by rw [show FP.dcmp r187 d188 = some .eq from (Db.eq H187 Dd188 (by grind))]; rfl) 77 rfl ?_
  refine s_ifN X187 hx (hb hby at_77) (by decide) 80 rfl ?_
  refine s_iconst X187 hx (hb hby at_80) (1 : Int32) rfl 81 rfl ?_
  refine s_goto X187 hx (hb hby at_81) 85 (by decide) (by decide) ?_
  exact retZ X187 hx hlk hret (hb hby at_85) (by decide) hh187 ⟨rfl, M187⟩ (by decide) (by decide)
set_option maxRecDepth 65536 in
set_option maxHeartbeats 40000000 in
theorem comes_1 {Post : Tables → Env → Array Value → State → Outcome → State → Prop} (hpost : ∀ tb e args s v u, (limb_1_1.after args s (.returned v) u = true ∧ limb_1_2.after args s (.returned v) u = true ∧ True) → FrameEnd s (.returned v) u (Jvm.fieldLocs frame_1_writes args s ++ Jvm.arrayLocs frame_1_arrays args s ++ Jvm.staticLocs frame_1_statics s) 16 128 → Post tb e args s (.returned v) u) :
    ArmFor flags0 classFile x code maxLocals ret World_1 tables_1 room_1 Calls_1 rest_1 Pre_1 Post := by
  intro l hfl _ _ p e ha hc hk s m args below hf hA hF happ hP
  obtain ⟨hcalls, hrest, hpre⟩ := hP
  obtain ⟨-, -, -, hnamed, -, -, -, hat⟩ := (Spec.applies_iff hf).mp happ
  obtain ⟨hg, hn⟩ := and_e (Cond.before_iff.mp (show (Jvm.Cond.and given_1 narrow_1).before args s = true from hpre))
  obtain ⟨hg0, hg1⟩ := and_e hg
  obtain ⟨w0, w1, w2, w3, w4, w5, rfl⟩ : ∃ w0 w1 w2 w3 w4 w5 : Value, args = #[w0, w1, w2, w3, w4, w5] := by
    have hs : args.size = 6 := by simpa [Cond.value, given_1] using hg0
    obtain ⟨L⟩ := args
    match L, hs with
    | [w0, w1, w2, w3, w4, w5], _ => exact ⟨w0, w1, w2, w3, w4, w5, rfl⟩
  have hw := fun d (hd : d ∈ tables_1) => atoms_spec (ws := Jvm.Cond.code x code maxLocals ret :: tables_1) hat d (List.mem_cons_of_mem _ hd)
  obtain ⟨ga0, hg2⟩ := and_e hg1
  obtain ⟨ga1, hg3⟩ := and_e hg2
  obtain ⟨ga2, hg4⟩ := and_e hg3
  obtain ⟨ga3, hg5⟩ := and_e hg4
  obtain ⟨ga4, hg6⟩ := and_e hg5
  have ga5 := hg6
  obtain ⟨i0, ei0⟩ := is_v ga0
  obtain rfl : w0 = .int i0 := Option.some.inj ei0
  obtain ⟨i1, ei1⟩ := is_v ga1
  obtain rfl : w1 = .int i1 := Option.some.inj ei1
  obtain ⟨i2, ei2⟩ := is_v ga2
  obtain rfl : w2 = .int i2 := Option.some.inj ei2
  obtain ⟨i3, ei3⟩ := is_v ga3
  obtain rfl : w3 = .int i3 := Option.some.inj ei3
  obtain ⟨i4, ei4⟩ := is_v ga4
  obtain rfl : w4 = .int i4 := Option.some.inj ei4
  obtain ⟨i5, ei5⟩ := is_v ga5
  obtain rfl : w5 = .int i5 := Option.some.inj ei5
  obtain ⟨n, o, h1, h2, h3, _, L, rfl, ⟨rfl, N⟩, hq⟩ := rm_law l s _ hw tables_1 i0 i1 i2 i3 i4 i5 s.heap s.heap.size (Nat.le_refl _) p e ha hc hk s m _ below hf ((Spec.applies_iff_loose hf).mp happ).1 ⟨rfl, State.Warmed39.refl s, rfl⟩ trivial
  refine ⟨n, _, h1, h2, h3, hpost _ _ _ _ _ _ ⟨Cond.after_iff.mpr rfl, Cond.after_iff.mpr (eq_i res_at (Term.int_eval (1)) rfl), trivial⟩ ⟨hq.1, hq.2.1, (hq.2.2.sift fun y hy => Or.inr (N y hy)).mono (by decide) (by decide)⟩⟩
theorem main_1_1 : Claimed_1_1 := comes_1 fun _ _ _ _ _ _ h hF => ⟨h.1, hF⟩
theorem main_1_2 : Claimed_1_2 := comes_1 fun _ _ _ _ _ _ h hF => ⟨h.2.1, hF⟩
end Jvm.Pilot.@@N@@
namespace Jvm.Pilot.@@N@@
open Jvm Jvm.ClassFile Sem Op Lib Jvm.Free Jvm.Stand Jvm.Pilot.@@N@@.Jvm.D
/-! MADE BY PROGRAM (witnessworld.py) out of the Statement's table words and the real class files: 17 classes; the members and pool entries that the words name. The judged class is class 1, her method 1. -/
namespace start1
open Jvm.ClassFile
def u (s : String) : CpInfo := .utf8 (stringToUtf16 s)
/-- a pool by its gaps: so many unusable entries, then the entry; so many at the end -/
def gap : Nat → List CpInfo → List CpInfo
  | 0, r => r
  | n + 1, r => .unusable :: gap n r
def poolList (es : List (Nat × CpInfo)) (last : Nat) : List CpInfo := es.foldr (fun e r => gap e.1 (e.2 :: r)) (gap last [])
def pool (es : List (Nat × CpInfo)) (last : Nat) : Array CpInfo := ⟨poolList es last⟩
def fileOf (pool : Array CpInfo) (this : Nat) (attrs : Array Attribute := #[]) (ms : Array MethodInfo := #[]) (fl : Nat := 33) (sup : Nat := 0) (ifs : Array Nat := #[]) (fds : Array FieldInfo := #[]) : ClassFile where
  minorVersion := 0
  majorVersion := 65
  constantPool := pool
  accessFlags := fl
  thisClass := this
  superClass := sup
  interfaces := ifs
  fields := fds
  methods := ms
  attributes := attrs
def plain (name : String) (sup : Option ClassId) : Class where
  name := name
  kind := .ordinary
  loader := none
  accessFlags := 33
  super := sup
  interfaces := #[]
  cf := none
  fields := #[]
  methods := #[]
  instanceTypes := #[]
  staticTypes := #[]
  resolved := #[]
  callSites := []
  init := .initialized
  statics := none
  mirror := none

def pool0 : Array CpInfo := pool [(5, u "<init>"), (0, u "()V"), (1, .class_ 10), (1, u "java/lang/Object")] 113

def k0c0 : Code := { maxStack := 0, maxLocals := 1, code := object_method_1_code, exceptionTable := #[], attributes := #[] }
def k0m0 : Method := { name := "<init>", desc := "()V", sig := { parameters := [], returnType := none }, accessFlags := 1, code := some k0c0 }
/-- java/lang/Object -/
def k0 : Class := { plain "java/lang/Object" none with
  accessFlags := 33
  interfaces := #[]
  cf := some (fileOf pool0 8 #[] #[{ accessFlags := 1, nameIndex := 5, descriptorIndex := 6, attributes := #[] }] 33 0 #[] #[])
  fields := #[]
  methods := #[k0m0]
  instanceTypes := #[]
  staticTypes := #[]
  resolved := Array.replicate 124 none
  statics := none }

def pool1 : Array CpInfo := pool [(2, .class_ 4), (1, u "java/lang/Object"), (0, u "<init>"), (0, u "()V"), (0, .integer 1048576), (0, .class_ 9), (0, u "com/example/lamina3/lamina3/AffineMap"), (0, .methodref 8 11), (0, .nameAndType 5 12), (0, u "(DDDDDD)V"), (0, .methodref 8 14), (0, .nameAndType 15 16), (0, u "determinant"), (0, u "()D"), (0, .class_ 18), (0, u "com/example/lamina3/lamina3/AffineMapDeterminantPinLaw"), (2, u "law"), (0, u "(IIIIII)Z")] 3

def k1m0 : Method := { name := "<init>", desc := "()V", sig := { parameters := [], returnType := none }, accessFlags := 1, code := none }
def k1c1 : Code := { maxStack := 14, maxLocals := 17, code := code, exceptionTable := #[], attributes := #[] }
def k1m1 : Method := { name := "law", desc := "(IIIIII)Z", sig := { parameters := [.int, .int, .int, .int, .int, .int], returnType := some .boolean }, accessFlags := 9, code := some k1c1 }
/-- com/example/lamina3/lamina3/AffineMapDeterminantPinLaw -/
def k1 : Class := { plain "com/example/lamina3/lamina3/AffineMapDeterminantPinLaw" (some 0) with
  accessFlags := 49
  interfaces := #[]
  cf := some (fileOf pool1 17 #[] #[{ accessFlags := 1, nameIndex := 5, descriptorIndex := 6, attributes := #[] }, { accessFlags := 9, nameIndex := 21, descriptorIndex := 22, attributes := #[] }] 49 2 #[] #[])
  fields := #[]
  methods := #[k1m0, k1m1]
  instanceTypes := #[]
  staticTypes := #[]
  resolved := Array.replicate 26 none
  statics := none }

def pool2 : Array CpInfo := pool [(1, .methodref 2 3), (0, .class_ 4), (0, .nameAndType 5 6), (0, u "java/lang/Object"), (0, u "<init>"), (0, u "()V"), (0, .methodref 8 9), (0, .class_ 10), (0, .nameAndType 11 12), (0, u "com/example/lamina3/lamina3/AffineMap"), (0, u "allFinite"), (0, u "([D)Z"), (15, .fieldref 8 29), (0, .nameAndType 30 31), (0, u "a"), (0, u "D"), (0, .fieldref 8 33), (0, .nameAndType 34 31), (0, u "b"), (0, .fieldref 8 36), (0, .nameAndType 37 31), (0, u "c"), (0, .fieldref 8 39), (0, .nameAndType 40 31), (0, u "d"), (0, .fieldref 8 42), (0, .nameAndType 43 31), (0, u "e"), (0, .fieldref 8 45), (0, .nameAndType 46 31), (0, u "f"), (2, u "(DDDDDD)V"), (6, u "determinant"), (0, u "()D"), (1, .class_ 61), (1, u "java/lang/Double"), (1, u "(D)Z"), (17, .methodref 59 82), (0, .nameAndType 83 63), (0, u "isFinite")] 36

def k2c0 : Code := { maxStack := 7, maxLocals := 13, code := prog_1_method_1_code, exceptionTable := #[], attributes := #[] }
def k2m0 : Method := { name := "<init>", desc := "(DDDDDD)V", sig := { parameters := [.double, .double, .double, .double, .double, .double], returnType := none }, accessFlags := 1, code := some k2c0 }
def k2c1 : Code := { maxStack := 6, maxLocals := 1, code := prog_1_method_6_code, exceptionTable := #[], attributes := #[] }
def k2m1 : Method := { name := "determinant", desc := "()D", sig := { parameters := [], returnType := some .double }, accessFlags := 1, code := some k2c1 }
def k2c2 : Code := { maxStack := 2, maxLocals := 6, code := prog_1_method_11_code, exceptionTable := #[], attributes := #[] }
def k2m2 : Method := { name := "allFinite", desc := "([D)Z", sig := { parameters := [(.array .double)], returnType := some .boolean }, accessFlags := 138, code := some k2c2 }
/-- com/example/lamina3/lamina3/AffineMap -/
def k2 : Class := { plain "com/example/lamina3/lamina3/AffineMap" (some 0) with
  accessFlags := 49
  interfaces := #[]
  cf := some (fileOf pool2 8 #[] #[{ accessFlags := 1, nameIndex := 5, descriptorIndex := 49, attributes := #[] }, { accessFlags := 1, nameIndex := 56, descriptorIndex := 57, attributes := #[] }, { accessFlags := 138, nameIndex := 11, descriptorIndex := 12, attributes := #[] }] 49 2 #[] #[{ accessFlags := 18, nameIndex := 30, descriptorIndex := 31, attributes := #[] }, { accessFlags := 18, nameIndex := 34, descriptorIndex := 31, attributes := #[] }, { accessFlags := 18, nameIndex := 37, descriptorIndex := 31, attributes := #[] }, { accessFlags := 18, nameIndex := 40, descriptorIndex := 31, attributes := #[] }, { accessFlags := 18, nameIndex := 43, descriptorIndex := 31, attributes := #[] }, { accessFlags := 18, nameIndex := 46, descriptorIndex := 31, attributes := #[] }])
  fields := #[{ name := "a", type := .double, accessFlags := 18, slot := 0, constantValue := 0 }, { name := "b", type := .double, accessFlags := 18, slot := 1, constantValue := 0 }, { name := "c", type := .double, accessFlags := 18, slot := 2, constantValue := 0 }, { name := "d", type := .double, accessFlags := 18, slot := 3, constantValue := 0 }, { name := "e", type := .double, accessFlags := 18, slot := 4, constantValue := 0 }, { name := "f", type := .double, accessFlags := 18, slot := 5, constantValue := 0 }]
  methods := #[k2m0, k2m1, k2m2]
  instanceTypes := #[.double, .double, .double, .double, .double, .double]
  staticTypes := #[]
  resolved := Array.replicate 120 none
  statics := none }

def pool3 : Array CpInfo := pool [(1, .class_ 2), (0, u "java/io/Serializable"), (0, .class_ 4), (0, u "java/lang/Object")] 2

/-- java/io/Serializable -/
def k3 : Class := { plain "java/io/Serializable" (some 0) with
  accessFlags := 1537
  interfaces := #[]
  cf := some (fileOf pool3 1 #[] #[] 1537 3 #[] #[])
  fields := #[]
  methods := #[]
  instanceTypes := #[]
  staticTypes := #[]
  resolved := Array.replicate 7 none
  statics := none }

def pool4 : Array CpInfo := pool [(2, .class_ 4), (1, u "java/lang/Object"), (0, u "<init>"), (0, u "()V"), (1, .class_ 10), (1, u "java/lang/Number"), (2, .class_ 14), (0, u "java/io/Serializable"), (0, u "serialVersionUID"), (0, u "J")] 20

def k4m0 : Method := { name := "<init>", desc := "()V", sig := { parameters := [], returnType := none }, accessFlags := 1, code := none }
/-- java/lang/Number -/
def k4 : Class := { plain "java/lang/Number" (some 0) with
  accessFlags := 1057
  interfaces := #[3]
  cf := some (fileOf pool4 8 #[] #[{ accessFlags := 1, nameIndex := 5, descriptorIndex := 6, attributes := #[] }] 1057 2 #[13] #[{ accessFlags := 26, nameIndex := 15, descriptorIndex := 16, attributes := #[] }])
  fields := #[{ name := "serialVersionUID", type := .long, accessFlags := 26, slot := 0, constantValue := 0 }]
  methods := #[k4m0]
  instanceTypes := #[]
  staticTypes := #[.long]
  resolved := Array.replicate 37 none
  statics := none }

def pool5 : Array CpInfo := pool [(1, .class_ 2), (0, u "java/lang/Comparable"), (0, .class_ 4), (0, u "java/lang/Object")] 7

/-- java/lang/Comparable -/
def k5 : Class := { plain "java/lang/Comparable" (some 0) with
  accessFlags := 1537
  interfaces := #[]
  cf := some (fileOf pool5 1 #[] #[] 1537 3 #[] #[])
  fields := #[]
  methods := #[]
  instanceTypes := #[]
  staticTypes := #[]
  resolved := Array.replicate 12 none
  statics := none }

def pool6 : Array CpInfo := pool [(1, .class_ 2), (0, u "java/lang/constant/Constable"), (0, .class_ 4), (0, u "java/lang/Object")] 6

/-- java/lang/constant/Constable -/
def k6 : Class := { plain "java/lang/constant/Constable" (some 0) with
  accessFlags := 1537
  interfaces := #[]
  cf := some (fileOf pool6 1 #[] #[] 1537 3 #[] #[])
  fields := #[]
  methods := #[]
  instanceTypes := #[]
  staticTypes := #[]
  resolved := Array.replicate 11 none
  statics := none }

def pool7 : Array CpInfo := pool [(1, .class_ 2), (0, u "java/lang/constant/ConstantDesc"), (0, .class_ 4), (0, u "java/lang/Object")] 32

/-- java/lang/constant/ConstantDesc -/
def k7 : Class := { plain "java/lang/constant/ConstantDesc" (some 0) with
  accessFlags := 1537
  interfaces := #[]
  cf := some (fileOf pool7 1 #[] #[] 1537 3 #[] #[])
  fields := #[]
  methods := #[]
  instanceTypes := #[]
  staticTypes := #[]
  resolved := Array.replicate 37 none
  statics := none }

def pool8 : Array CpInfo := pool [(1, .class_ 2), (0, u "java/lang/Double"), (10, u "isFinite"), (0, u "(D)Z"), (8, .class_ 25), (1, u "java/lang/Math"), (12, .methodref 23 39), (0, .nameAndType 40 41), (0, u "abs"), (0, u "(D)D"), (69, .double 9218868437227405311), (2, .class_ 116), (1, u "java/lang/Number"), (3, u "value"), (0, u "D"), (51, u "TYPE"), (0, u "Ljava/lang/Class;"), (0, .class_ 176), (0, u "java/lang/Comparable"), (0, .class_ 178), (0, u "java/lang/constant/Constable"), (0, .class_ 180), (0, u "java/lang/constant/ConstantDesc"), (0, u "POSITIVE_INFINITY"), (3, u "NEGATIVE_INFINITY"), (2, u "NaN"), (2, u "MAX_VALUE"), (0, u "MIN_NORMAL"), (0, u "MIN_VALUE"), (2, u "SIZE"), (0, u "I"), (1, u "PRECISION"), (1, u "MAX_EXPONENT"), (1, u "MIN_EXPONENT"), (1, u "BYTES"), (3, u "serialVersionUID"), (0, u "J")] 79

def k8c0 : Code := { maxStack := 4, maxLocals := 2, code := jdk_117_method_8_code, exceptionTable := #[], attributes := #[] }
def k8m0 : Method := { name := "isFinite", desc := "(D)Z", sig := { parameters := [.double], returnType := some .boolean }, accessFlags := 9, code := some k8c0 }
/-- java/lang/Double -/
def k8 : Class := { plain "java/lang/Double" (some 4) with
  accessFlags := 49
  interfaces := #[5, 6, 7]
  cf := some (fileOf pool8 1 #[] #[{ accessFlags := 9, nameIndex := 13, descriptorIndex := 14, attributes := #[] }] 49 114 #[175, 177, 179] #[{ accessFlags := 25, nameIndex := 181, descriptorIndex := 121, attributes := #[] }, { accessFlags := 25, nameIndex := 185, descriptorIndex := 121, attributes := #[] }, { accessFlags := 25, nameIndex := 188, descriptorIndex := 121, attributes := #[] }, { accessFlags := 25, nameIndex := 191, descriptorIndex := 121, attributes := #[] }, { accessFlags := 25, nameIndex := 192, descriptorIndex := 121, attributes := #[] }, { accessFlags := 25, nameIndex := 193, descriptorIndex := 121, attributes := #[] }, { accessFlags := 25, nameIndex := 196, descriptorIndex := 197, attributes := #[] }, { accessFlags := 25, nameIndex := 199, descriptorIndex := 197, attributes := #[] }, { accessFlags := 25, nameIndex := 201, descriptorIndex := 197, attributes := #[] }, { accessFlags := 25, nameIndex := 203, descriptorIndex := 197, attributes := #[] }, { accessFlags := 25, nameIndex := 205, descriptorIndex := 197, attributes := #[] }, { accessFlags := 25, nameIndex := 173, descriptorIndex := 174, attributes := #[] }, { accessFlags := 18, nameIndex := 120, descriptorIndex := 121, attributes := #[] }, { accessFlags := 26, nameIndex := 209, descriptorIndex := 210, attributes := #[] }])
  fields := #[{ name := "POSITIVE_INFINITY", type := .double, accessFlags := 25, slot := 0, constantValue := 0 }, { name := "NEGATIVE_INFINITY", type := .double, accessFlags := 25, slot := 1, constantValue := 0 }, { name := "NaN", type := .double, accessFlags := 25, slot := 2, constantValue := 0 }, { name := "MAX_VALUE", type := .double, accessFlags := 25, slot := 3, constantValue := 0 }, { name := "MIN_NORMAL", type := .double, accessFlags := 25, slot := 4, constantValue := 0 }, { name := "MIN_VALUE", type := .double, accessFlags := 25, slot := 5, constantValue := 0 }, { name := "SIZE", type := .int, accessFlags := 25, slot := 6, constantValue := 0 }, { name := "PRECISION", type := .int, accessFlags := 25, slot := 7, constantValue := 0 }, { name := "MAX_EXPONENT", type := .int, accessFlags := 25, slot := 8, constantValue := 0 }, { name := "MIN_EXPONENT", type := .int, accessFlags := 25, slot := 9, constantValue := 0 }, { name := "BYTES", type := .int, accessFlags := 25, slot := 10, constantValue := 0 }, { name := "TYPE", type := (.object "java/lang/Class"), accessFlags := 25, slot := 11, constantValue := 0 }, { name := "value", type := .double, accessFlags := 18, slot := 0, constantValue := 0 }, { name := "serialVersionUID", type := .long, accessFlags := 26, slot := 12, constantValue := 0 }]
  methods := #[k8m0]
  instanceTypes := #[.double]
  staticTypes := #[.double, .double, .double, .double, .double, .double, .int, .int, .int, .int, .int, (.object "java/lang/Class"), .long]
  resolved := Array.replicate 290 none
  statics := none }

def pool9 : Array CpInfo := pool [(1, .class_ 2), (0, u "java/lang/Math"), (1, .class_ 6), (1, u "java/lang/Object"), (0, u "<init>"), (0, u "()V"), (5, u "(D)D"), (83, .class_ 100), (1, u "java/lang/Math$RandomNumberGeneratorHolder"), (23, u "abs"), (47, u "negativeZeroFloatBits"), (0, u "J"), (2, u "negativeZeroDoubleBits"), (68, u "$assertionsDisabled"), (0, u "Z"), (91, u "twoToTheDoubleScaleDown"), (0, u "D"), (4, u "twoToTheDoubleScaleUp"), (9, u "E"), (3, u "PI"), (2, u "TAU"), (2, u "DEGREES_TO_RADIANS"), (0, u "RADIANS_TO_DEGREES")] 94

def k9m0 : Method := { name := "<init>", desc := "()V", sig := { parameters := [], returnType := none }, accessFlags := 2, code := none }
def k9c1 : Code := { maxStack := 4, maxLocals := 2, code := jdk_29_method_64_code, exceptionTable := #[], attributes := #[] }
def k9m1 : Method := { name := "abs", desc := "(D)D", sig := { parameters := [.double], returnType := some .double }, accessFlags := 9, code := some k9c1 }
/-- java/lang/Math -/
def k9 : Class := { plain "java/lang/Math" (some 0) with
  accessFlags := 49
  interfaces := #[]
  cf := some (fileOf pool9 1 #[.nestMembers #[98]] #[{ accessFlags := 2, nameIndex := 7, descriptorIndex := 8, attributes := #[] }, { accessFlags := 9, nameIndex := 124, descriptorIndex := 14, attributes := #[] }] 49 4 #[] #[{ accessFlags := 25, nameIndex := 354, descriptorIndex := 339, attributes := #[] }, { accessFlags := 25, nameIndex := 358, descriptorIndex := 339, attributes := #[] }, { accessFlags := 25, nameIndex := 361, descriptorIndex := 339, attributes := #[] }, { accessFlags := 26, nameIndex := 364, descriptorIndex := 339, attributes := #[] }, { accessFlags := 26, nameIndex := 365, descriptorIndex := 339, attributes := #[] }, { accessFlags := 26, nameIndex := 172, descriptorIndex := 173, attributes := #[] }, { accessFlags := 26, nameIndex := 176, descriptorIndex := 173, attributes := #[] }, { accessFlags := 8, nameIndex := 344, descriptorIndex := 339, attributes := #[] }, { accessFlags := 8, nameIndex := 338, descriptorIndex := 339, attributes := #[] }, { accessFlags := 4120, nameIndex := 245, descriptorIndex := 246, attributes := #[] }])
  fields := #[{ name := "E", type := .double, accessFlags := 25, slot := 0, constantValue := 0 }, { name := "PI", type := .double, accessFlags := 25, slot := 1, constantValue := 0 }, { name := "TAU", type := .double, accessFlags := 25, slot := 2, constantValue := 0 }, { name := "DEGREES_TO_RADIANS", type := .double, accessFlags := 26, slot := 3, constantValue := 0 }, { name := "RADIANS_TO_DEGREES", type := .double, accessFlags := 26, slot := 4, constantValue := 0 }, { name := "negativeZeroFloatBits", type := .long, accessFlags := 26, slot := 5, constantValue := 0 }, { name := "negativeZeroDoubleBits", type := .long, accessFlags := 26, slot := 6, constantValue := 0 }, { name := "twoToTheDoubleScaleUp", type := .double, accessFlags := 8, slot := 7, constantValue := 0 }, { name := "twoToTheDoubleScaleDown", type := .double, accessFlags := 8, slot := 8, constantValue := 0 }, { name := "$assertionsDisabled", type := .boolean, accessFlags := 4120, slot := 9, constantValue := 0 }]
  methods := #[k9m0, k9m1]
  instanceTypes := #[]
  staticTypes := #[.double, .double, .double, .double, .double, .long, .long, .double, .double, .boolean]
  resolved := Array.replicate 460 none
  statics := none }

def pool10 : Array CpInfo := pool [(1, u "java/lang/Cloneable"), (0, .class_ 1), (0, u "java/lang/Object"), (0, .class_ 3)] 3

/-- java/lang/Cloneable -/
def k10 : Class := { plain "java/lang/Cloneable" (some 0) with
  accessFlags := 1537
  interfaces := #[]
  cf := some (fileOf pool10 2 #[] #[] 1537 4 #[] #[])
  fields := #[]
  methods := #[]
  instanceTypes := #[]
  staticTypes := #[]
  resolved := Array.replicate 8 none
  statics := none }

/-- the primitive byte -/
def k11 : Class := { plain "byte" none with kind := .primitive 'B', accessFlags := 0x411 }
/-- [B -/
def k12 : Class := { plain "[B" (some 0) with kind := .array 11 .byte, interfaces := #[10, 3], accessFlags := 1041 }

/-- the primitive double -/
def k13 : Class := { plain "double" none with kind := .primitive 'D', accessFlags := 0x411 }
/-- [D -/
def k14 : Class := { plain "[D" (some 0) with kind := .array 13 .double, interfaces := #[10, 3], accessFlags := 1041 }

/-- the primitive int -/
def k15 : Class := { plain "int" none with kind := .primitive 'I', accessFlags := 0x411 }
/-- [I -/
def k16 : Class := { plain "[I" (some 0) with kind := .array 15 .int, interfaces := #[10, 3], accessFlags := 1041 }

def heap : Heap := #[]
def classes : Array Class := #[k0, k1, k2, k3, k4, k5, k6, k7, k8, k9, k10, k11, k12, k13, k14, k15, k16]
def interned : List (Array UInt16 × Addr) := []
def slotsUsed : Nat := 0
def theMethod : MethodId := ⟨1, 1⟩
def args0 : Array Value := #[.int 3, .int 2, .int 5, .int 1, .int 7, .int 4]
def aboutOver (below : List Frame) : State where
  vm := { classes := classes, interned := interned.toArray }
  heap := heap
  slotsUsed := slotsUsed
  threads := #[{ frames := .invoking theMethod args0 :: below }]
def below0 : List Frame := [.native { method := ⟨0, 0⟩, args := #[] }]
def about1 : State := aboutOver below0
def p0 : Program := .bare "" "" ""
def e0 : Env := launch0.env 0 0 0
theorem w_frames : about1.frames = Frame.invoking theMethod args0 :: below0 := rfl
set_option maxRecDepth 65536 in
theorem w_args : argsFit about1.vm theMethod args0 = true := by decide +kernel
set_option maxRecDepth 65536 in
theorem w_heap : heapFits about1 = true := by decide +kernel
set_option maxRecDepth 65536 in
theorem w_runnable : about1.curStatus? = some .runnable := by decide +kernel
set_option maxRecDepth 65536 in
theorem w_alone : about1.alone = true := by decide +kernel
set_option maxRecDepth 65536 in
theorem w_named : about1.methodNamed? x = some theMethod := by decide +kernel
set_option maxRecDepth 65536 in
theorem w_hears : about1.hears theMethod below0 = true := by decide +kernel
set_option maxRecDepth 65536 in
theorem w_ripe : about1.ripe theMethod args0 below0 = true := by decide +kernel
theorem w_running : about1.status = .running := rfl
set_option maxRecDepth 65536 in
theorem w_room : about1.hasRoom e0.platform room_1 = true :=
  launch0.hasRoom_least _ room_1 (by decide +kernel) (by decide +kernel) (by decide +kernel) (by decide +kernel) (by decide +kernel) (by decide +kernel)
theorem allAtoms_all (ts : List Jvm.Cond) (a : Array Jvm.Value) (st : Jvm.State) : (allAtoms ts).before a st = ts.all (fun c => c.before a st) := by
  induction ts with
  | nil => rfl
  | cons c t ih =>
    show (Jvm.Cond.and c (allAtoms t)).before a st = _
    rw [Jvm.Cond.before_and, ih, List.all_cons]
def words1 : List Jvm.Cond := Jvm.Cond.code x code maxLocals ret :: tables_1
/-- a 'code' word, met by the world's own term for the bytes: nothing is compared byte by byte -/
theorem code_word {y : MethodName} {bytes : ByteArray} {mx : Nat} {rt : Option FieldType} {a : Array Value} {s : State} {m : MethodId} {meth : Method} {c : Code} (h1 : s.methodNamed? y = some m) (h2 : s.vm.method? m = some meth) (h3 : meth.code = some c) (h4 : c.code = bytes)
    (h5 : (c.maxLocals == mx && c.exceptionTable.isEmpty && decide (c.maxStack ≤ mostOperands) && decide (meth.sig.returnType = rt) && !meth.locks && decide (parseMethodDescriptor y.desc = some meth.sig)) = true) : (Jvm.Cond.code y bytes mx rt).before a s = true := by
  simp only [Bool.and_eq_true, beq_iff_eq, Bool.not_eq_true', decide_eq_true_eq] at h5
  obtain ⟨⟨⟨⟨⟨g1, g2⟩, g3⟩, g4⟩, g5⟩, g6⟩ := h5
  simp [Cond.before, Cond.holds, Cond.value, h1, h2, h3, h4, g1, g2, g3, g4, g5, g6]
def isCode : Jvm.Cond → Bool
  | .code _ _ _ _ => true
  | _ => false
theorem all_split {L : List Jvm.Cond} {P : Jvm.Cond → Bool} (h1 : L.all (fun c => isCode c || P c) = true) (h2 : ∀ c ∈ L.filter isCode, P c = true) : L.all P = true := by
  refine List.all_eq_true.mpr fun c hc => ?_
  have h := List.all_eq_true.mp h1 c hc
  rcases Bool.eq_false_or_eq_true (isCode c) with hi | hi
  · exact h2 c (List.mem_filter.mpr ⟨hc, hi⟩)
  · simpa [hi] using h
set_option maxRecDepth 65536 in
theorem w_c0 : (Jvm.Cond.code x code maxLocals ret).before args0 about1 = true := code_word (m := ⟨1, 1⟩) (meth := k1m1) (c := k1c1) (by decide +kernel) rfl rfl rfl (by decide +kernel)
set_option maxRecDepth 65536 in
theorem w_c1 : (Jvm.Cond.code ({ cls := "com/example/lamina3/lamina3/AffineMap", name := "<init>", desc := "(DDDDDD)V" } : Jvm.MethodName) prog_1_method_1_code (13 : Nat) (Option.none : Option Jvm.ClassFile.FieldType)).before args0 about1 = true := code_word (m := ⟨2, 0⟩) (meth := k2m0) (c := k2c0) (by decide +kernel) rfl rfl rfl (by decide +kernel)
set_option maxRecDepth 65536 in
theorem w_c2 : (Jvm.Cond.code ({ cls := "java/lang/Object", name := "<init>", desc := "()V" } : Jvm.MethodName) object_method_1_code (1 : Nat) (Option.none : Option Jvm.ClassFile.FieldType)).before args0 about1 = true := code_word (m := ⟨0, 0⟩) (meth := k0m0) (c := k0c0) (by decide +kernel) rfl rfl rfl (by decide +kernel)
set_option maxRecDepth 65536 in
theorem w_c3 : (Jvm.Cond.code ({ cls := "com/example/lamina3/lamina3/AffineMap", name := "allFinite", desc := "([D)Z" } : Jvm.MethodName) prog_1_method_11_code (6 : Nat) (Option.some Jvm.ClassFile.FieldType.boolean)).before args0 about1 = true := code_word (m := ⟨2, 2⟩) (meth := k2m2) (c := k2c2) (by decide +kernel) rfl rfl rfl (by decide +kernel)
set_option maxRecDepth 65536 in
theorem w_c4 : (Jvm.Cond.code ({ cls := "java/lang/Double", name := "isFinite", desc := "(D)Z" } : Jvm.MethodName) jdk_117_method_8_code (2 : Nat) (Option.some Jvm.ClassFile.FieldType.boolean)).before args0 about1 = true := code_word (m := ⟨8, 0⟩) (meth := k8m0) (c := k8c0) (by decide +kernel) rfl rfl rfl (by decide +kernel)
set_option maxRecDepth 65536 in
theorem w_c5 : (Jvm.Cond.code ({ cls := "java/lang/Math", name := "abs", desc := "(D)D" } : Jvm.MethodName) jdk_29_method_64_code (2 : Nat) (Option.some Jvm.ClassFile.FieldType.double)).before args0 about1 = true := code_word (m := ⟨9, 1⟩) (meth := k9m1) (c := k9c1) (by decide +kernel) rfl rfl rfl (by decide +kernel)
set_option maxRecDepth 65536 in
theorem w_c6 : (Jvm.Cond.code ({ cls := "com/example/lamina3/lamina3/AffineMap", name := "determinant", desc := "()D" } : Jvm.MethodName) prog_1_method_6_code (1 : Nat) (Option.some Jvm.ClassFile.FieldType.double)).before args0 about1 = true := code_word (m := ⟨2, 1⟩) (meth := k2m1) (c := k2c1) (by decide +kernel) rfl rfl rfl (by decide +kernel)
def codes1 : List Jvm.Cond := [Jvm.Cond.code x code maxLocals ret, Jvm.Cond.code ({ cls := "com/example/lamina3/lamina3/AffineMap", name := "<init>", desc := "(DDDDDD)V" } : Jvm.MethodName) prog_1_method_1_code (13 : Nat) (Option.none : Option Jvm.ClassFile.FieldType), Jvm.Cond.code ({ cls := "java/lang/Object", name := "<init>", desc := "()V" } : Jvm.MethodName) object_method_1_code (1 : Nat) (Option.none : Option Jvm.ClassFile.FieldType), Jvm.Cond.code ({ cls := "com/example/lamina3/lamina3/AffineMap", name := "allFinite", desc := "([D)Z" } : Jvm.MethodName) prog_1_method_11_code (6 : Nat) (Option.some Jvm.ClassFile.FieldType.boolean), Jvm.Cond.code ({ cls := "java/lang/Double", name := "isFinite", desc := "(D)Z" } : Jvm.MethodName) jdk_117_method_8_code (2 : Nat) (Option.some Jvm.ClassFile.FieldType.boolean), Jvm.Cond.code ({ cls := "java/lang/Math", name := "abs", desc := "(D)D" } : Jvm.MethodName) jdk_29_method_64_code (2 : Nat) (Option.some Jvm.ClassFile.FieldType.double), Jvm.Cond.code ({ cls := "com/example/lamina3/lamina3/AffineMap", name := "determinant", desc := "()D" } : Jvm.MethodName) prog_1_method_6_code (1 : Nat) (Option.some Jvm.ClassFile.FieldType.double)]
set_option maxRecDepth 65536 in
theorem codes_eq : words1.filter isCode = codes1 := rfl
theorem w_codes : ∀ c ∈ words1.filter isCode, c.before args0 about1 = true := by
  rw [codes_eq]
  intro c hc
  simp only [codes1, List.mem_cons, List.not_mem_nil, or_false] at hc
  rcases hc with rfl | rfl | rfl | rfl | rfl | rfl | rfl
  · exact w_c0
  · exact w_c1
  · exact w_c2
  · exact w_c3
  · exact w_c4
  · exact w_c5
  · exact w_c6
set_option maxRecDepth 65536 in
theorem w_t1 : (words1.take 24).all (fun c => isCode c || c.before args0 about1) = true := by decide +kernel
set_option maxRecDepth 65536 in
theorem w_t2 : (words1.drop 24).all (fun c => isCode c || c.before args0 about1) = true := by decide +kernel
theorem w_tables : (allAtoms (Jvm.Cond.code x code maxLocals ret :: tables_1)).before args0 about1 = true := by
  rw [allAtoms_all]
  show words1.all (fun c => c.before args0 about1) = true
  refine all_split ?_ w_codes
  rw [← List.take_append_drop 24 words1, List.all_append, w_t1, w_t2]
  rfl
set_option maxRecDepth 65536 in
theorem w_case : (Jvm.Cond.and given_1 narrow_1).before args0 about1 = true := by decide +kernel
theorem w_applies : (headSpec (Jvm.Cond.code x code maxLocals ret :: tables_1) room_1).applies x e0.platform about1 = true :=
  (Spec.applies_iff w_frames).mpr ⟨w_running, w_runnable, w_alone, w_named, w_hears, w_ripe, w_room, w_tables⟩
theorem atStart : AtStart classFile x code maxLocals ret World_1 tables_1 room_1 Calls_1 rest_1 Pre_1 launch0 p0 e0 about1 theMethod args0 below0 :=
  ⟨lists_1, trivial, launch0.admits_env _ _ _, launch0.least_env, fairChoices_fair.cas, fairChoices_fair.clock, w_frames, w_args, w_heap, w_applies, trivial, trivial, w_case⟩
end start1
theorem witness_1 : WitnessClaimed_1 := ⟨start1.p0, start1.e0, start1.about1, start1.theMethod, start1.args0, start1.below0, start1.atStart⟩
end Jvm.Pilot.@@N@@
