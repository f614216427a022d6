import JvmDerived
import JvmDerived.Pilot.@@N@@Statement
import JvmDerived.Pilot.@@N@@Code
set_option linter.unusedVariables false
set_option linter.unusedSimpArgs false
namespace Jvm.Own
open Sem ClassFile Op Lib Jvm.Stand Jvm.Free Jvm.LawKit Jvm.RoadKit
/-- what stays put in the walk of one body: program, environment, the state at the call, the method, its arguments, the frames below, its record and code, the state behind the entry, the entry frame -/
abbrev Dyn : Type := Program × Env × State × MethodId × Array Value × List Frame × Method × Code × State × JFrame
def Base (Z : State) (y : MethodName) (bytes : ByteArray) (mx : Nat) (rt : Option FieldType) (D : Dyn) : Prop :=
  match D with
  | (p, _, s, m, _, _, meth, c, _, _) => p.tables.exec = Jvm.exec ∧ c.code = bytes ∧ c.maxLocals = mx ∧ s.vm.findClass y.cls = some m.cls ∧ Z.Warmed39 s.vm ∧ meth.sig.returnType = rt ∧ meth.locks = false ∧ meth.name = y.name
/-- the walk has come to pc with these locals, this stack, this heap; k cells and n slots have been made -/
def Rch (l : Launch) (Z : State) (n0 : Nat) (R : Room) (y : MethodName) (bytes : ByteArray) (mx : Nat) (rt : Option FieldType) (D : Dyn) (h : Heap) (k n pc : Nat) (Ls : Array Slot) (st : List Value) : Prop :=
  Base Z y bytes mx rt D ∧
  match D with
  | (p, e, s, m, args, below, meth, c, s₁, g0) => ∃ (T : State) (locs : List Loc), Stand p l e R s m args below meth c T locs k n ∧ T.heap = h ∧ Fr n0 locs ∧ Steps p.tables e below (s₁.setTop g0) (T.setTop (mkF m pc Ls st))
/-- the body has returned v and left the heap h -/
def Don (l : Launch) (Z : State) (n0 : Nat) (R : Room) (D : Dyn) (h : Heap) (k n : Nat) (v : Option Value) : Prop :=
  match D with
  | (p, e, s, m, args, below, meth, c, s₁, g0) => ∃ (T : State) (locs : List Loc) (fs : List Frame), Stand p l e R s m args below meth c T locs k n ∧ T.heap = h ∧ Fr n0 locs ∧ Steps p.tables e below (s₁.setTop g0) (T.setFrames fs) ∧ (T.setFrames fs).heap = h ∧
      (T.setFrames fs).status = .running ∧ Ended (T.setFrames fs) below (.returned v) ∧ s.WarmedH (T.setFrames fs).vm ∧ s.sameButNew ({ T.setFrames fs with vm := s.vm } : State) locs k n
/-- a callee's contract at the heap h and the arguments as' -/
def Con (l : Launch) (Z : State) (n0 : Nat) (y : MethodName) (bytes : ByteArray) (mx : Nat) (rt : Option FieldType) (rm : Room) (as' : Array Value) (h : Heap) (Q : Option Value → Heap → Prop) : Prop :=
  ∀ ws : List Jvm.Cond, MetFree l y (head1 (Jvm.Cond.code y bytes mx rt :: ws) rm) (fun a U => a = as' ∧ Z.Warmed39 U.vm ∧ U.heap = h) (fun _ _ _ _ _ => True) (fun _ U o U' => ∃ v L, o = .returned v ∧ (Fr n0 L ∧ Q v U'.heap) ∧ FrameEnd U o U' L rm.cells rm.slots)
def ishlW (x z : Int32) : Int32 := x <<< (z &&& 31)
def ishrW (x z : Int32) : Int32 := x >>> (z &&& 31)
def iushrW (x z : Int32) : Int32 := (x.toUInt32 >>> (z &&& 31).toUInt32).toInt32
def lshlW (x : Int64) (z : Int32) : Int64 := x <<< (z &&& 0x3f).toInt64
def lshrW (x : Int64) (z : Int32) : Int64 := x >>> (z &&& 0x3f).toInt64
def lushrW (x : Int64) (z : Int32) : Int64 := (x.toUInt64 >>> (z &&& 0x3f).toInt64.toUInt64).toInt64
def lremW (x z : Int64) : Int64 := x - (x / z) * z
def i2bW (x : Int32) : Int32 := x.toInt8.toInt32
def i2cW (x : Int32) : Int32 := x.toUInt32.toUInt16.toUInt32.toInt32
def i2sW (x : Int32) : Int32 := x.toInt16.toInt32
/-- an element of an int list, by a Java index -/
def ga (L : List Int32) (j : Int32) : Int32 := L.getD j.toNatClampNeg 0
section Kit
variable {l : Launch} {Z : State} {a0 : Array Value} {n0 : Nat} {R : Room} {y : MethodName} {bytes : ByteArray} {mx : Nat} {rt : Option FieldType} {D : Dyn} {h h' : Heap} {k n pc : Nat} {Ls : Array Slot} {st : List Value}
theorem Con.enter {rm : Room} {as' : Array Value} {Q : Option Value → Heap → Prop} (hp : plainFor y = true) (ef : ∀ m, entryFrame m as' mx = mkF m 0 Ls [])
    (f : ∀ D : Dyn, Rch l Z n0 rm y bytes mx rt D h 0 0 0 Ls [] → ∃ v h', Don l Z n0 rm D h' rm.cells rm.slots v ∧ Q v h') : Con l Z n0 y bytes mx rt rm as' h Q := by
  intro ws
  refine MetFree.of_bodySF hp hisR ?_
  intro p e s m args below meth c s₁ Bd hml0 hP hK
  obtain ⟨rfl, hZ, hh⟩ := hP
  have X0 : Stand p l e rm s m args below meth c s₁ [] 0 0 := Stand.of_body Bd
  have e0 : s₁.heap = h := by rw [← hh, Bd.state]; rfl
  obtain ⟨v, h', hD, hQ⟩ := f (p, e, s, m, args, below, meth, c, s₁, mkF m 0 Ls []) ⟨⟨Bd.exec, Bd.bytes, hml0, findClass_of_methodNamed Bd.named, hZ, Bd.returns, Bd.notSynchronized, (name_of_methodNamed Bd.named Bd.method).1⟩, s₁, [], X0, e0, Fr.nil n0, Steps.refl _⟩
  obtain ⟨T, locs, fs, X, eT, N, hs, hh', hrun, hend, hW, hsame⟩ := hD
  exact ⟨_, _, castTop (ef m) hs, hrun, hend, v, locs, rfl, ⟨N, hh'.symm ▸ hQ⟩, ⟨_, rfl⟩, hW, hsame⟩
theorem Rch.go (r : Rch l Z n0 R y bytes mx rt D h k n pc Ls st) {pc' : Nat} {Ls' : Array Slot} {st' : List Value}
    (f : ∀ {p : Program} {e : Env} {s : State} {m : MethodId} {args : Array Value} {below : List Frame} {meth : Method} {c : Code} {T : State} {locs : List Loc}, Stand p l e R s m args below meth c T locs k n → p.tables.exec = Jvm.exec → c.code = bytes → Z.Warmed39 s.vm → s.vm.findClass y.cls = some m.cls → T.heap = h →
      ∀ target, Steps p.tables e below (T.setTop (mkF m pc' Ls' st')) target → Steps p.tables e below (T.setTop (mkF m pc Ls st)) target) : Rch l Z n0 R y bytes mx rt D h k n pc' Ls' st' := by
  obtain ⟨p, e, s, m, args, below, meth, c, s₁, g0⟩ := D
  obtain ⟨hB, T, locs, X, eT, N, hs⟩ := r
  exact ⟨hB, T, locs, X, eT, N, hs.trans (f X hB.1 hB.2.1 hB.2.2.2.2.1 hB.2.2.2.1 eT _ (Steps.refl _))⟩
theorem Rch.mv (r : Rch l Z n0 R y bytes mx rt D h k n pc Ls st) {k' n' pc' : Nat} {Ls' : Array Slot} {st' : Heap → List Value} {P : Heap → Prop}
    (f : ∀ {p : Program} {e : Env} {s : State} {m : MethodId} {args : Array Value} {below : List Frame} {meth : Method} {c : Code} {T : State} {locs : List Loc}, Stand p l e R s m args below meth c T locs k n → p.tables.exec = Jvm.exec → c.code = bytes → c.maxLocals = mx → meth.name = y.name → Z.Warmed39 s.vm → s.vm.findClass y.cls = some m.cls → T.heap = h → Fr n0 locs →
      ∃ (T' : State) (h' : Heap) (locs' : List Loc), Stand p l e R s m args below meth c T' locs' k' n' ∧ T'.heap = h' ∧ P h' ∧ Fr n0 locs' ∧ Steps p.tables e below (T.setTop (mkF m pc Ls st)) (T'.setTop (mkF m pc' Ls' (st' h')))) : ∃ h', P h' ∧ Rch l Z n0 R y bytes mx rt D h' k' n' pc' Ls' (st' h') := by
  obtain ⟨p, e, s, m, args, below, meth, c, s₁, g0⟩ := D
  obtain ⟨hB, T, locs, X, eT, N, hs⟩ := r
  obtain ⟨T', h', locs', X', eT', hP, N', hs'⟩ := f X hB.1 hB.2.1 hB.2.2.1 hB.2.2.2.2.2.2.2 hB.2.2.2.2.1 hB.2.2.2.1 eT N
  exact ⟨h', hP, hB, T', locs', X', eT', N', hs.trans hs'⟩
theorem Rch.more (r : Rch l Z n0 R y bytes mx rt D h k n pc Ls st) {k' n' : Nat} (hk : k ≤ k') (hn : n ≤ n') : Rch l Z n0 R y bytes mx rt D h k' n' pc Ls st := by
  obtain ⟨p, e, s, m, args, below, meth, c, s₁, g0⟩ := D
  obtain ⟨hB, T, locs, X, eT, N, hs⟩ := r
  exact ⟨hB, T, locs, X.more hk hn, eT, N, hs⟩
theorem aload {i : Nat} {v : Value} (r : Rch l Z n0 R y bytes mx rt D h k n pc Ls st) (hd : decode bytes pc = .ok (.aload i, 2)) (hl : Ls[i]? = some (.val v)) (hv : v.isRef = true) : Rch l Z n0 R y bytes mx rt D h k n (pc + 2) Ls (v :: st) := r.go fun X hx b _ _ _ t q => XS.aload X.here hx rfl (hb b hd) hl hv q
theorem aloadN {i : Fin 4} {v : Value} (r : Rch l Z n0 R y bytes mx rt D h k n pc Ls st) (hd : decode bytes pc = .ok (.aload_n i, 1)) (hl : Ls[i.val]? = some (.val v)) (hv : v.isRef = true) : Rch l Z n0 R y bytes mx rt D h k n (pc + 1) Ls (v :: st) := r.go fun X hx b _ _ _ t q => XS.aloadN X.here hx rfl (hb b hd) hl hv q
theorem iload {i : Nat} {v : Int32} (r : Rch l Z n0 R y bytes mx rt D h k n pc Ls st) (hd : decode bytes pc = .ok (.iload i, 2)) (hl : Ls[i]? = some (.val (.int v))) : Rch l Z n0 R y bytes mx rt D h k n (pc + 2) Ls (.int v :: st) := r.go fun X hx b _ _ _ t q => XS.iload X.here hx rfl (hb b hd) hl q
theorem iloadN {i : Fin 4} {v : Int32} (r : Rch l Z n0 R y bytes mx rt D h k n pc Ls st) (hd : decode bytes pc = .ok (.iload_n i, 1)) (hl : Ls[i.val]? = some (.val (.int v))) : Rch l Z n0 R y bytes mx rt D h k n (pc + 1) Ls (.int v :: st) := r.go fun X hx b _ _ _ t q => XS.iloadN X.here hx rfl (hb b hd) hl q
theorem lload {i : Nat} {v : Int64} (r : Rch l Z n0 R y bytes mx rt D h k n pc Ls st) (hd : decode bytes pc = .ok (.lload i, 2)) (hl : Ls[i]? = some (.val (.long v))) : Rch l Z n0 R y bytes mx rt D h k n (pc + 2) Ls (.long v :: st) := r.go fun X hx b _ _ _ t q => XS.lload X.here hx rfl (hb b hd) hl q
theorem lloadN {i : Fin 4} {v : Int64} (r : Rch l Z n0 R y bytes mx rt D h k n pc Ls st) (hd : decode bytes pc = .ok (.lload_n i, 1)) (hl : Ls[i.val]? = some (.val (.long v))) : Rch l Z n0 R y bytes mx rt D h k n (pc + 1) Ls (.long v :: st) := r.go fun X hx b _ _ _ t q => XS.lloadN X.here hx rfl (hb b hd) hl q
theorem istore {x : Int32} {i : Nat} {L' : Array Slot} (r : Rch l Z n0 R y bytes mx rt D h k n pc Ls (.int x :: st)) (hd : decode bytes pc = .ok (.istore i, 2)) (hl : storeLocals Ls i (.int x) = some L') : Rch l Z n0 R y bytes mx rt D h k n (pc + 2) L' st := r.go fun X hx b _ _ _ t q => XS.istore X.here hx rfl (hb b hd) rfl hl q
theorem istoreN {x : Int32} {i : Fin 4} {L' : Array Slot} (r : Rch l Z n0 R y bytes mx rt D h k n pc Ls (.int x :: st)) (hd : decode bytes pc = .ok (.istore_n i, 1)) (hl : storeLocals Ls i.val (.int x) = some L') : Rch l Z n0 R y bytes mx rt D h k n (pc + 1) L' st := r.go fun X hx b _ _ _ t q => XS.istoreN X.here hx rfl (hb b hd) rfl hl q
theorem lstore {x : Int64} {i : Nat} {L' : Array Slot} (r : Rch l Z n0 R y bytes mx rt D h k n pc Ls (.long x :: st)) (hd : decode bytes pc = .ok (.lstore i, 2)) (hl : storeLocals Ls i (.long x) = some L') : Rch l Z n0 R y bytes mx rt D h k n (pc + 2) L' st := r.go fun X hx b _ _ _ t q => XS.lstore X.here hx rfl (hb b hd) rfl hl q
theorem lstoreN {x : Int64} {i : Fin 4} {L' : Array Slot} (r : Rch l Z n0 R y bytes mx rt D h k n pc Ls (.long x :: st)) (hd : decode bytes pc = .ok (.lstore_n i, 1)) (hl : storeLocals Ls i.val (.long x) = some L') : Rch l Z n0 R y bytes mx rt D h k n (pc + 1) L' st := r.go fun X hx b _ _ _ t q => XS.lstoreN X.here hx rfl (hb b hd) rfl hl q
theorem astore {x : Value} {i : Nat} {L' : Array Slot} (r : Rch l Z n0 R y bytes mx rt D h k n pc Ls (x :: st)) (hd : decode bytes pc = .ok (.astore i, 2)) (hv : x.isRef = true) (hl : storeLocals Ls i x = some L') : Rch l Z n0 R y bytes mx rt D h k n (pc + 2) L' st := r.go fun X hx b _ _ _ t q => XS.astore X.here hx rfl (hb b hd) rfl hv hl q
theorem astoreN {x : Value} {i : Fin 4} {L' : Array Slot} (r : Rch l Z n0 R y bytes mx rt D h k n pc Ls (x :: st)) (hd : decode bytes pc = .ok (.astore_n i, 1)) (hv : x.isRef = true) (hl : storeLocals Ls i.val x = some L') : Rch l Z n0 R y bytes mx rt D h k n (pc + 1) L' st := r.go fun X hx b _ _ _ t q => XS.astoreN X.here hx rfl (hb b hd) rfl hv hl q
theorem iconst {i : Int} {v : Int32} (r : Rch l Z n0 R y bytes mx rt D h k n pc Ls st) (hd : decode bytes pc = .ok (.iconst i, 1)) (hv : Int32.ofInt i = v) : Rch l Z n0 R y bytes mx rt D h k n (pc + 1) Ls (.int v :: st) := by subst hv; exact r.go fun X hx b _ _ _ t q => XS.iconst X.here hx rfl (hb b hd) q
theorem bipush {i : Int} {v : Int32} (r : Rch l Z n0 R y bytes mx rt D h k n pc Ls st) (hd : decode bytes pc = .ok (.bipush i, 2)) (hv : (Int8.ofInt i).toInt32 = v) : Rch l Z n0 R y bytes mx rt D h k n (pc + 2) Ls (.int v :: st) := by subst hv; exact r.go fun X hx b _ _ _ t q => XS.bipush X.here hx rfl (hb b hd) q
theorem sipush {i : Int} {v : Int32} (r : Rch l Z n0 R y bytes mx rt D h k n pc Ls st) (hd : decode bytes pc = .ok (.sipush i, 3)) (hv : (Int16.ofInt i).toInt32 = v) : Rch l Z n0 R y bytes mx rt D h k n (pc + 3) Ls (.int v :: st) := by subst hv; exact r.go fun X hx b _ _ _ t q => XS.sipush X.here hx rfl (hb b hd) q
theorem lconst {i : Fin 2} {v : Int64} (r : Rch l Z n0 R y bytes mx rt D h k n pc Ls st) (hd : decode bytes pc = .ok (.lconst i, 1)) (hv : Int64.ofNat i = v) : Rch l Z n0 R y bytes mx rt D h k n (pc + 1) Ls (.long v :: st) := by subst hv; exact r.go fun X hx b _ _ _ t q => XT.lconst X.here hx rfl (hb b hd) q
theorem aconstNull (r : Rch l Z n0 R y bytes mx rt D h k n pc Ls st) (hd : decode bytes pc = .ok (.aconst_null, 1)) : Rch l Z n0 R y bytes mx rt D h k n (pc + 1) Ls (.null :: st) := r.go fun X hx b _ _ _ t q => XS.aconstNull X.here hx rfl (hb b hd) q
theorem dup {x : Value} (r : Rch l Z n0 R y bytes mx rt D h k n pc Ls (x :: st)) (hd : decode bytes pc = .ok (.dup, 1)) (hc : x.category = 1) : Rch l Z n0 R y bytes mx rt D h k n (pc + 1) Ls (x :: x :: st) := r.go fun X hx b _ _ _ t q => XS.dup X.here hx rfl (hb b hd) rfl hc q
theorem pop {x : Value} (r : Rch l Z n0 R y bytes mx rt D h k n pc Ls (x :: st)) (hd : decode bytes pc = .ok (.pop, 1)) (hc : x.category = 1) : Rch l Z n0 R y bytes mx rt D h k n (pc + 1) Ls st := r.go fun X hx b _ _ _ t q => XS.pop X.here hx rfl (hb b hd) rfl hc q
theorem dupX1 {x z : Value} (r : Rch l Z n0 R y bytes mx rt D h k n pc Ls (x :: z :: st)) (hd : decode bytes pc = .ok (.dup_x1, 1)) (hc : x.category = 1) (hc2 : z.category = 1) : Rch l Z n0 R y bytes mx rt D h k n (pc + 1) Ls (x :: z :: x :: st) := r.go fun X hx b _ _ _ t q => XS.dupX1 X.here hx rfl (hb b hd) rfl hc hc2 q
theorem dup2 {x z : Value} (r : Rch l Z n0 R y bytes mx rt D h k n pc Ls (x :: z :: st)) (hd : decode bytes pc = .ok (.dup2, 1)) (hc : x.category = 1) (hc2 : z.category = 1) : Rch l Z n0 R y bytes mx rt D h k n (pc + 1) Ls (x :: z :: x :: z :: st) := r.go fun X hx b _ _ _ t q => XT.dup2 X.here hx rfl (hb b hd) rfl hc hc2 q
theorem dup2L {x : Int64} (r : Rch l Z n0 R y bytes mx rt D h k n pc Ls (.long x :: st)) (hd : decode bytes pc = .ok (.dup2, 1)) : Rch l Z n0 R y bytes mx rt D h k n (pc + 1) Ls (.long x :: .long x :: st) := r.go fun X hx b _ _ _ t q => XT.dup2L X.here hx rfl (hb b hd) rfl q
theorem iadd {x z : Int32} (r : Rch l Z n0 R y bytes mx rt D h k n pc Ls (.int z :: .int x :: st)) (hd : decode bytes pc = .ok (.iadd, 1)) : Rch l Z n0 R y bytes mx rt D h k n (pc + 1) Ls (.int (x + z) :: st) := r.go fun X hx b _ _ _ t q => XS.iadd X.here hx rfl (hb b hd) rfl q
theorem isub {x z : Int32} (r : Rch l Z n0 R y bytes mx rt D h k n pc Ls (.int z :: .int x :: st)) (hd : decode bytes pc = .ok (.isub, 1)) : Rch l Z n0 R y bytes mx rt D h k n (pc + 1) Ls (.int (x - z) :: st) := r.go fun X hx b _ _ _ t q => XS.isub X.here hx rfl (hb b hd) rfl q
theorem imul {x z : Int32} (r : Rch l Z n0 R y bytes mx rt D h k n pc Ls (.int z :: .int x :: st)) (hd : decode bytes pc = .ok (.imul, 1)) : Rch l Z n0 R y bytes mx rt D h k n (pc + 1) Ls (.int (x * z) :: st) := r.go fun X hx b _ _ _ t q => XS.imul X.here hx rfl (hb b hd) rfl q
theorem iand {x z : Int32} (r : Rch l Z n0 R y bytes mx rt D h k n pc Ls (.int z :: .int x :: st)) (hd : decode bytes pc = .ok (.iand, 1)) : Rch l Z n0 R y bytes mx rt D h k n (pc + 1) Ls (.int (x &&& z) :: st) := r.go fun X hx b _ _ _ t q => XS.iand X.here hx rfl (hb b hd) rfl q
theorem ior {x z : Int32} (r : Rch l Z n0 R y bytes mx rt D h k n pc Ls (.int z :: .int x :: st)) (hd : decode bytes pc = .ok (.ior, 1)) : Rch l Z n0 R y bytes mx rt D h k n (pc + 1) Ls (.int (x ||| z) :: st) := r.go fun X hx b _ _ _ t q => XS.ior X.here hx rfl (hb b hd) rfl q
theorem ixor {x z : Int32} (r : Rch l Z n0 R y bytes mx rt D h k n pc Ls (.int z :: .int x :: st)) (hd : decode bytes pc = .ok (.ixor, 1)) : Rch l Z n0 R y bytes mx rt D h k n (pc + 1) Ls (.int (x ^^^ z) :: st) := r.go fun X hx b _ _ _ t q => XS.ixor X.here hx rfl (hb b hd) rfl q
theorem ishl {x z : Int32} (r : Rch l Z n0 R y bytes mx rt D h k n pc Ls (.int z :: .int x :: st)) (hd : decode bytes pc = .ok (.ishl, 1)) : Rch l Z n0 R y bytes mx rt D h k n (pc + 1) Ls (.int (ishlW x z) :: st) := r.go fun X hx b _ _ _ t q => XS.ishl X.here hx rfl (hb b hd) rfl q
theorem ishr {x z : Int32} (r : Rch l Z n0 R y bytes mx rt D h k n pc Ls (.int z :: .int x :: st)) (hd : decode bytes pc = .ok (.ishr, 1)) : Rch l Z n0 R y bytes mx rt D h k n (pc + 1) Ls (.int (ishrW x z) :: st) := r.go fun X hx b _ _ _ t q => XS.ishr X.here hx rfl (hb b hd) rfl q
theorem iushr {x z : Int32} (r : Rch l Z n0 R y bytes mx rt D h k n pc Ls (.int z :: .int x :: st)) (hd : decode bytes pc = .ok (.iushr, 1)) : Rch l Z n0 R y bytes mx rt D h k n (pc + 1) Ls (.int (iushrW x z) :: st) := r.go fun X hx b _ _ _ t q => XS.iushr X.here hx rfl (hb b hd) rfl q
theorem idiv {x z : Int32} (r : Rch l Z n0 R y bytes mx rt D h k n pc Ls (.int z :: .int x :: st)) (hd : decode bytes pc = .ok (.idiv, 1)) (hz : z ≠ 0) : Rch l Z n0 R y bytes mx rt D h k n (pc + 1) Ls (.int (x / z) :: st) := r.go fun X hx b _ _ _ t q => XS.idiv X.here hx rfl (hb b hd) rfl hz q
theorem irem {x z : Int32} (r : Rch l Z n0 R y bytes mx rt D h k n pc Ls (.int z :: .int x :: st)) (hd : decode bytes pc = .ok (.irem, 1)) (hz : z ≠ 0) : Rch l Z n0 R y bytes mx rt D h k n (pc + 1) Ls (.int (x % z) :: st) := r.go fun X hx b _ _ _ t q => iremM X hx rfl (hb b hd) rfl hz q
theorem ineg {x : Int32} (r : Rch l Z n0 R y bytes mx rt D h k n pc Ls (.int x :: st)) (hd : decode bytes pc = .ok (.ineg, 1)) : Rch l Z n0 R y bytes mx rt D h k n (pc + 1) Ls (.int (-x) :: st) := r.go fun X hx b _ _ _ t q => XS.ineg X.here hx rfl (hb b hd) rfl q
theorem ladd {x z : Int64} (r : Rch l Z n0 R y bytes mx rt D h k n pc Ls (.long z :: .long x :: st)) (hd : decode bytes pc = .ok (.ladd, 1)) : Rch l Z n0 R y bytes mx rt D h k n (pc + 1) Ls (.long (x + z) :: st) := r.go fun X hx b _ _ _ t q => XS.ladd X.here hx rfl (hb b hd) rfl q
theorem lsub {x z : Int64} (r : Rch l Z n0 R y bytes mx rt D h k n pc Ls (.long z :: .long x :: st)) (hd : decode bytes pc = .ok (.lsub, 1)) : Rch l Z n0 R y bytes mx rt D h k n (pc + 1) Ls (.long (x - z) :: st) := r.go fun X hx b _ _ _ t q => XS.lsub X.here hx rfl (hb b hd) rfl q
theorem lmul {x z : Int64} (r : Rch l Z n0 R y bytes mx rt D h k n pc Ls (.long z :: .long x :: st)) (hd : decode bytes pc = .ok (.lmul, 1)) : Rch l Z n0 R y bytes mx rt D h k n (pc + 1) Ls (.long (x * z) :: st) := r.go fun X hx b _ _ _ t q => XS.lmul X.here hx rfl (hb b hd) rfl q
theorem land {x z : Int64} (r : Rch l Z n0 R y bytes mx rt D h k n pc Ls (.long z :: .long x :: st)) (hd : decode bytes pc = .ok (.land, 1)) : Rch l Z n0 R y bytes mx rt D h k n (pc + 1) Ls (.long (x &&& z) :: st) := r.go fun X hx b _ _ _ t q => XS.land X.here hx rfl (hb b hd) rfl q
theorem lor {x z : Int64} (r : Rch l Z n0 R y bytes mx rt D h k n pc Ls (.long z :: .long x :: st)) (hd : decode bytes pc = .ok (.lor, 1)) : Rch l Z n0 R y bytes mx rt D h k n (pc + 1) Ls (.long (x ||| z) :: st) := r.go fun X hx b _ _ _ t q => XS.lor X.here hx rfl (hb b hd) rfl q
theorem lxor {x z : Int64} (r : Rch l Z n0 R y bytes mx rt D h k n pc Ls (.long z :: .long x :: st)) (hd : decode bytes pc = .ok (.lxor, 1)) : Rch l Z n0 R y bytes mx rt D h k n (pc + 1) Ls (.long (x ^^^ z) :: st) := r.go fun X hx b _ _ _ t q => XS.lxor X.here hx rfl (hb b hd) rfl q
theorem ldiv {x z : Int64} (r : Rch l Z n0 R y bytes mx rt D h k n pc Ls (.long z :: .long x :: st)) (hd : decode bytes pc = .ok (.ldiv, 1)) (hz : z ≠ 0) : Rch l Z n0 R y bytes mx rt D h k n (pc + 1) Ls (.long (x / z) :: st) := r.go fun X hx b _ _ _ t q => XS.ldiv X.here hx rfl (hb b hd) rfl hz q
theorem lrem {x z : Int64} (r : Rch l Z n0 R y bytes mx rt D h k n pc Ls (.long z :: .long x :: st)) (hd : decode bytes pc = .ok (.lrem, 1)) (hz : z ≠ 0) : Rch l Z n0 R y bytes mx rt D h k n (pc + 1) Ls (.long (lremW x z) :: st) := r.go fun X hx b _ _ _ t q => XS.lrem X.here hx rfl (hb b hd) rfl hz q
theorem lcmp {x z : Int64} (r : Rch l Z n0 R y bytes mx rt D h k n pc Ls (.long z :: .long x :: st)) (hd : decode bytes pc = .ok (.lcmp, 1)) : Rch l Z n0 R y bytes mx rt D h k n (pc + 1) Ls (.int (XT.cmpL x z) :: st) := r.go fun X hx b _ _ _ t q => XT.lcmp X.here hx rfl (hb b hd) rfl q
theorem lneg {x : Int64} (r : Rch l Z n0 R y bytes mx rt D h k n pc Ls (.long x :: st)) (hd : decode bytes pc = .ok (.lneg, 1)) : Rch l Z n0 R y bytes mx rt D h k n (pc + 1) Ls (.long (-x) :: st) := r.go fun X hx b _ _ _ t q => XS.lneg X.here hx rfl (hb b hd) rfl q
theorem lshl {x : Int64} {z : Int32} (r : Rch l Z n0 R y bytes mx rt D h k n pc Ls (.int z :: .long x :: st)) (hd : decode bytes pc = .ok (.lshl, 1)) : Rch l Z n0 R y bytes mx rt D h k n (pc + 1) Ls (.long (lshlW x z) :: st) := r.go fun X hx b _ _ _ t q => XS.lshl X.here hx rfl (hb b hd) rfl q
theorem lshr {x : Int64} {z : Int32} (r : Rch l Z n0 R y bytes mx rt D h k n pc Ls (.int z :: .long x :: st)) (hd : decode bytes pc = .ok (.lshr, 1)) : Rch l Z n0 R y bytes mx rt D h k n (pc + 1) Ls (.long (lshrW x z) :: st) := r.go fun X hx b _ _ _ t q => XS.lshr X.here hx rfl (hb b hd) rfl q
theorem lushr {x : Int64} {z : Int32} (r : Rch l Z n0 R y bytes mx rt D h k n pc Ls (.int z :: .long x :: st)) (hd : decode bytes pc = .ok (.lushr, 1)) : Rch l Z n0 R y bytes mx rt D h k n (pc + 1) Ls (.long (lushrW x z) :: st) := r.go fun X hx b _ _ _ t q => XS.lushr X.here hx rfl (hb b hd) rfl q
theorem i2l {x : Int32} (r : Rch l Z n0 R y bytes mx rt D h k n pc Ls (.int x :: st)) (hd : decode bytes pc = .ok (.i2l, 1)) : Rch l Z n0 R y bytes mx rt D h k n (pc + 1) Ls (.long x.toInt64 :: st) := r.go fun X hx b _ _ _ t q => XS.i2l X.here hx rfl (hb b hd) rfl q
theorem l2i {x : Int64} (r : Rch l Z n0 R y bytes mx rt D h k n pc Ls (.long x :: st)) (hd : decode bytes pc = .ok (.l2i, 1)) : Rch l Z n0 R y bytes mx rt D h k n (pc + 1) Ls (.int x.toInt32 :: st) := r.go fun X hx b _ _ _ t q => XS.l2i X.here hx rfl (hb b hd) rfl q
theorem i2b {x : Int32} (r : Rch l Z n0 R y bytes mx rt D h k n pc Ls (.int x :: st)) (hd : decode bytes pc = .ok (.i2b, 1)) : Rch l Z n0 R y bytes mx rt D h k n (pc + 1) Ls (.int (i2bW x) :: st) := r.go fun X hx b _ _ _ t q => XS.i2b X.here hx rfl (hb b hd) rfl q
theorem i2c {x : Int32} (r : Rch l Z n0 R y bytes mx rt D h k n pc Ls (.int x :: st)) (hd : decode bytes pc = .ok (.i2c, 1)) : Rch l Z n0 R y bytes mx rt D h k n (pc + 1) Ls (.int (i2cW x) :: st) := r.go fun X hx b _ _ _ t q => XS.i2c X.here hx rfl (hb b hd) rfl q
theorem i2s {x : Int32} (r : Rch l Z n0 R y bytes mx rt D h k n pc Ls (.int x :: st)) (hd : decode bytes pc = .ok (.i2s, 1)) : Rch l Z n0 R y bytes mx rt D h k n (pc + 1) Ls (.int (i2sW x) :: st) := r.go fun X hx b _ _ _ t q => XS.i2s X.here hx rfl (hb b hd) rfl q
theorem iinc {i : Nat} {cst : Int} {x v : Int32} {L' : Array Slot} (r : Rch l Z n0 R y bytes mx rt D h k n pc Ls st) (hd : decode bytes pc = .ok (.iinc i cst, 3)) (hl : Ls[i]? = some (.val (.int x))) (hv : Int32.ofInt cst = v) (hl' : storeLocals Ls i (.int (x + v)) = some L') : Rch l Z n0 R y bytes mx rt D h k n (pc + 3) L' st := by subst hv; exact r.go fun X hx b _ _ _ t q => XS.iinc X.here hx rfl (hb b hd) hl hl' q
/-! branches -/
theorem goto {o : Int} {pc' : Nat} (r : Rch l Z n0 R y bytes mx rt D h k n pc Ls st) (hd : decode bytes pc = .ok (.goto o, 3)) (ho : 0 ≤ (pc : Int) + o) (hp : ((pc : Int) + o).toNat = pc') : Rch l Z n0 R y bytes mx rt D h k n pc' Ls st := r.go fun X hx b _ _ _ t q => XS.goto X.here hx rfl (pc0 := pc) rfl (hb b hd) ho hp q
theorem ifYes {cd : ClassFile.Cond} {x : Int32} {o : Int} {pc' : Nat} (r : Rch l Z n0 R y bytes mx rt D h k n pc Ls (.int x :: st)) (hd : decode bytes pc = .ok (.ifCond cd o, 3)) (hc : ifCond.holds cd x = true) (ho : 0 ≤ (pc : Int) + o) (hp : ((pc : Int) + o).toNat = pc') : Rch l Z n0 R y bytes mx rt D h k n pc' Ls st := r.go fun X hx b _ _ _ t q => XS.ifYes X.here hx rfl (pc0 := pc) rfl (hb b hd) rfl hc ho hp q
theorem ifNo {cd : ClassFile.Cond} {x : Int32} {o : Int} (r : Rch l Z n0 R y bytes mx rt D h k n pc Ls (.int x :: st)) (hd : decode bytes pc = .ok (.ifCond cd o, 3)) (hc : ifCond.holds cd x = false) : Rch l Z n0 R y bytes mx rt D h k n (pc + 3) Ls st := r.go fun X hx b _ _ _ t q => XS.ifNo X.here hx rfl (hb b hd) rfl hc q
theorem icmpYes {cd : ClassFile.Cond} {x z : Int32} {o : Int} {pc' : Nat} (r : Rch l Z n0 R y bytes mx rt D h k n pc Ls (.int z :: .int x :: st)) (hd : decode bytes pc = .ok (.if_icmp cd o, 3)) (hc : if_icmp.holds cd x z = true) (ho : 0 ≤ (pc : Int) + o) (hp : ((pc : Int) + o).toNat = pc') : Rch l Z n0 R y bytes mx rt D h k n pc' Ls st := r.go fun X hx b _ _ _ t q => XS.icmpYes X.here hx rfl (pc0 := pc) rfl (hb b hd) rfl hc ho hp q
theorem icmpNo {cd : ClassFile.Cond} {x z : Int32} {o : Int} (r : Rch l Z n0 R y bytes mx rt D h k n pc Ls (.int z :: .int x :: st)) (hd : decode bytes pc = .ok (.if_icmp cd o, 3)) (hc : if_icmp.holds cd x z = false) : Rch l Z n0 R y bytes mx rt D h k n (pc + 3) Ls st := r.go fun X hx b _ _ _ t q => XS.icmpNo X.here hx rfl (hb b hd) rfl hc q
theorem ifnullYes {o : Int} {pc' : Nat} (r : Rch l Z n0 R y bytes mx rt D h k n pc Ls (.null :: st)) (hd : decode bytes pc = .ok (.ifnull o, 3)) (ho : 0 ≤ (pc : Int) + o) (hp : ((pc : Int) + o).toNat = pc') : Rch l Z n0 R y bytes mx rt D h k n pc' Ls st := r.go fun X hx b _ _ _ t q => XS.ifnullYes X.here hx rfl (pc0 := pc) rfl (hb b hd) rfl ho hp q
theorem ifnullNo {o : Int} {a : Addr} (r : Rch l Z n0 R y bytes mx rt D h k n pc Ls (.ref a :: st)) (hd : decode bytes pc = .ok (.ifnull o, 3)) : Rch l Z n0 R y bytes mx rt D h k n (pc + 3) Ls st := r.go fun X hx b _ _ _ t q => XS.ifnullNo X.here hx rfl (hb b hd) rfl q
theorem ifnonnullYes {o : Int} {a : Addr} {pc' : Nat} (r : Rch l Z n0 R y bytes mx rt D h k n pc Ls (.ref a :: st)) (hd : decode bytes pc = .ok (.ifnonnull o, 3)) (ho : 0 ≤ (pc : Int) + o) (hp : ((pc : Int) + o).toNat = pc') : Rch l Z n0 R y bytes mx rt D h k n pc' Ls st := r.go fun X hx b _ _ _ t q => XS.ifnonnullYes X.here hx rfl (pc0 := pc) rfl (hb b hd) rfl ho hp q
theorem ifnonnullNo {o : Int} (r : Rch l Z n0 R y bytes mx rt D h k n pc Ls (.null :: st)) (hd : decode bytes pc = .ok (.ifnonnull o, 3)) : Rch l Z n0 R y bytes mx rt D h k n (pc + 3) Ls st := r.go fun X hx b _ _ _ t q => XS.ifnonnullNo X.here hx rfl (hb b hd) rfl q
theorem acmp {cd : ClassFile.ACond} {x z : Value} {o : Int} {pc' : Nat} {same : Bool} (r : Rch l Z n0 R y bytes mx rt D h k n pc Ls (z :: x :: st)) (hd : decode bytes pc = .ok (.if_acmp cd o, 3)) (h1 : x.isRef = true) (h2 : z.isRef = true) (hq : decide (x = z) = same) (ho : 0 ≤ (pc : Int) + o) (hp : pc' = if acV cd same = true then ((pc : Int) + o).toNat else pc + 3) : Rch l Z n0 R y bytes mx rt D h k n pc' Ls st := r.go fun X hx b _ _ _ t q => Jvm.RoadKit.acmp X hx rfl h1 h2 (pc0 := pc) rfl (hb b hd) rfl hq ho hp q
/-! constants, fields, new cells -/
theorem ldcI {index : Nat} {v : Int32} (r : Rch l Z n0 R y bytes mx rt D h k n pc Ls st) (hd : decode bytes pc = .ok (.ldc index, 2)) (w : (Jvm.Cond.constant y.cls index v).before a0 Z = true) : Rch l Z n0 R y bytes mx rt D h k n (pc + 2) Ls (.int v :: st) := r.go fun X hx b hZ ho _ t q => X.ldcInt hx ho (mvT hZ w) (g := mkF _ pc Ls st) rfl (hb b hd) t q
theorem ldcJ {index : Nat} {v : Int64} (r : Rch l Z n0 R y bytes mx rt D h k n pc Ls st) (hd : decode bytes pc = .ok (.ldc2_w index, 3)) (w : (Jvm.Cond.constantLong y.cls index v).before a0 Z = true) : Rch l Z n0 R y bytes mx rt D h k n (pc + 3) Ls (.long v :: st) := r.go fun X hx b hZ ho _ t q => X.ldc2Long hx ho (mvT hZ w) (g := mkF _ pc Ls st) rfl (hb b hd) t q
theorem getfield {R0 O nm d host : String} {index : Nat} {a : Addr} {v : Value} (r : Rch l Z n0 R y bytes mx rt D h k n pc Ls (.ref a :: st)) (hd : decode bytes pc = .ok (.getfield index, 3)) (w : (Jvm.Cond.fieldLink y.cls index R0 nm d).before a0 Z = true ∨ (Jvm.Cond.fieldLinkNest y.cls index R0 nm d host).before a0 Z = true) (via : Via Z R0 O nm d) (F : Fld Z h a O nm d v) : Rch l Z n0 R y bytes mx rt D h k n (pc + 3) Ls (v :: st) := by
  obtain ⟨h', rfl, r'⟩ := r.mv (P := fun h' => h = h') (st' := fun _ => v :: st) (k' := k) (n' := n) (pc' := pc + 3) (Ls' := Ls) fun X hx b _ _ hZ ho eT N => by
    obtain ⟨T', X', e', s'⟩ := getF X hx hZ ho w via eT F (g := mkF _ pc Ls (.ref a :: st)) rfl rfl (hb b hd)
    exact ⟨T', h, _, X', e', rfl, N, s' _ (Steps.refl _)⟩
  exact r'
theorem getstatic {R0 O nm d : String} {index : Nat} {v : Value} (r : Rch l Z n0 R y bytes mx rt D h k n pc Ls st) (hd : decode bytes pc = .ok (.getstatic index, 3)) (w : (Jvm.Cond.fieldLink y.cls index R0 nm d).before a0 Z = true) (via : Via Z R0 O nm d) (F : Sta Z h O nm d v) : Rch l Z n0 R y bytes mx rt D h k n (pc + 3) Ls (v :: st) := by
  obtain ⟨h', rfl, r'⟩ := r.mv (P := fun h' => h = h') (st' := fun _ => v :: st) (k' := k) (n' := n) (pc' := pc + 3) (Ls' := Ls) fun X hx b _ _ hZ ho eT N => by
    obtain ⟨T', X', e', s'⟩ := getS X hx hZ (host := "") ho w via eT F (g := mkF _ pc Ls st) rfl (hb b hd)
    exact ⟨T', h, _, X', e', rfl, N, s' _ (Steps.refl _)⟩
  exact r'
theorem putfield {R0 O nm d host C : String} {index kk : Nat} {ty : FieldType} {a : Addr} {v old : Value} (r : Rch l Z n0 R y bytes mx rt D h k n pc Ls (v :: .ref a :: st)) (hd : decode bytes pc = .ok (.putfield index, 3)) (w : (Jvm.Cond.fieldLink y.cls index R0 nm d).before a0 Z = true ∨ (Jvm.Cond.fieldLinkNest y.cls index R0 nm d host).before a0 Z = true) (via : Via Z R0 O nm d) (F : Fld Z h a O nm d old) (E : Exa Z h a C)
    (L : (Jvm.Cond.lays C O nm d).before a0 Z = true ∨ ((Jvm.Cond.laysFinal C O nm d).before a0 Z = true ∧ y.cls = O ∧ y.name = "<init>")) (wi : (Jvm.Cond.instantiable C kk).before a0 Z = true) (hty : parseFieldDescriptor d = some ty) (hn : narrow ty v = v) (hf : fits ty v = true) (hg : n0 ≤ a) :
    ∃ h', Wr h h' a (Jvm.RoadKit.slotOf Z O nm d) v ∧ Rch l Z n0 R y bytes mx rt D h' k n (pc + 3) Ls st :=
  r.mv (P := fun h' => Wr h h' a (Jvm.RoadKit.slotOf Z O nm d) v) (st' := fun _ => st) fun X hx b _ hnm hZ ho eT N => by
    obtain ⟨T', h', X', e', W, s'⟩ := putF X hx hZ ho w via eT F E (L.imp id fun q => ⟨q.1, q.2.1, hnm.trans q.2.2⟩) wi hty hn hf (g := mkF _ pc Ls (v :: .ref a :: st)) rfl rfl (hb b hd)
    exact ⟨T', h', _, X', e', W, Fr.snoc X' N hg, s' _ (Steps.refl _)⟩
theorem newObj {C : String} {index nn : Nat} (r : Rch l Z n0 R y bytes mx rt D h k n pc Ls st) (hd : decode bytes pc = .ok (.new index, 3)) (w : (Jvm.Cond.classLink y.cls index C).before a0 Z = true) (wi : (Jvm.Cond.instantiable C nn).before a0 Z = true) (wz : (Jvm.Cond.initialized C).before a0 Z = true) (hc : k + 1 ≤ R.cells) (hl : n + nn ≤ R.slots) :
    ∃ h', (Ext h h' ∧ Exa Z h' h.size C ∧ ∀ {O nm d : String} {ty : FieldType}, Laid Z a0 C O nm d → parseFieldDescriptor d = some ty → Fld Z h' h.size O nm d (defaultValue ty)) ∧ Rch l Z n0 R y bytes mx rt D h' (k + 1) (n + nn) (pc + 3) Ls (.ref h.size :: st) :=
  r.mv (P := fun h' => Ext h h' ∧ Exa Z h' h.size C ∧ ∀ {O nm d : String} {ty : FieldType}, Laid Z a0 C O nm d → parseFieldDescriptor d = some ty → Fld Z h' h.size O nm d (defaultValue ty)) (st' := fun _ => .ref h.size :: st) fun X hx b _ _ hZ ho eT N => by
    obtain ⟨T', h', X', e', E', A', D', -, s'⟩ := newO X hx hZ ho w wi wz eT (g := mkF _ pc Ls st) rfl (hb b hd) hc hl
    exact ⟨T', h', _, X', e', ⟨E', A', D'⟩, N, s' _ (Steps.refl _)⟩
theorem initObj {index : Nat} {a : Addr} {W : Nat} (r : Rch l Z n0 R y bytes mx rt D h k n pc Ls (.ref a :: st)) (hd : decode bytes pc = .ok (.invokespecial index, 3)) (w1 : (Jvm.Cond.methodLink y.cls index Lib.objectInit).before a0 Z = true) (w2 : (Jvm.Cond.instanceMethod Lib.objectInit).before a0 Z = true) (w3 : (Jvm.Cond.code Lib.objectInit ⟨#[0xb1]⟩ 1 none).before a0 Z = true) (hsz : Ls.size = mx) (hf : 1 ≤ R.frames) (hW : (st.map fun v => v.category).sum ≤ W) (hl : W + 12 ≤ R.locals) : Rch l Z n0 R y bytes mx rt D h k n (pc + 3) Ls st := by
  obtain ⟨h', rfl, r'⟩ := r.mv (P := fun h' => h = h') (st' := fun _ => st) (k' := k) (n' := n) (pc' := pc + 3) (Ls' := Ls) fun X hx b hml _ hZ ho eT N => by
    obtain ⟨T', X', e', s'⟩ := initO X hx hZ ho w1 w2 w3 eT (g := mkF _ pc Ls (.ref a :: st)) rfl (hsz.trans hml.symm) rfl (hb b hd) hf (W := W) (by show 2 * 0 + _ ≤ _; omega) hl
    exact ⟨T', h, _, X', e', rfl, N, s' _ (Steps.refl _)⟩
  exact r'
/-! arrays: their elements as a list -/
def VA (Z : State) (h : Heap) (a : Addr) (ty : FieldType) (vs : List Value) : Prop := ∃ c : Cell, Arr Z h a c ty ∧ c.slots = vs.toArray ∧ vs.length < 2 ^ 31
section Facts
variable {a b : Addr} {ty : FieldType} {vs : List Value} {sl : Nat} {v : Value} {ws : List Addr}
theorem VA.lt (A : VA Z h a ty vs) : a < h.size := by obtain ⟨c, A, -⟩ := A; exact A.lt
theorem VA.len (A : VA Z h a ty vs) : vs.length < 2 ^ 31 := by obtain ⟨c, -, -, q⟩ := A; exact q
theorem VA.ext (A : VA Z h a ty vs) (E : Ext h h') : VA Z h' a ty vs := by obtain ⟨c, A, r⟩ := A; exact ⟨c, A.ext E, r⟩
theorem VA.other (A : VA Z h b ty vs) (W : Wr h h' a sl v) (q : b ≠ a) : VA Z h' b ty vs := by obtain ⟨c, A, r⟩ := A; exact ⟨c, A.other W q, r⟩
theorem VA.keep (A : VA Z h a ty vs) (K : Keep h h' ws) (q : a ∉ ws) : VA Z h' a ty vs := by obtain ⟨c, A, r⟩ := A; exact ⟨c, ⟨K.2.1 a c A.1 q, A.2⟩, r⟩
theorem VA.set (A : VA Z h a ty vs) (W : Wr h h' a sl v) : VA Z h' a ty (vs.set sl v) := by
  obtain ⟨c, A, e, q⟩ := A
  refine ⟨c.setSlot sl v, A.same W, ?_, by simpa using q⟩
  show c.slots.setIfInBounds sl v = _
  rw [e]; simp
theorem VA.new {cA : ClassId} {z : Int32} (A : Arr Z h a (newA cA ty z) ty) (q : ¬ z < 0) : VA Z h a ty (List.replicate z.toNatClampNeg (defaultValue ty)) := by
  refine ⟨_, A, ?_, ?_⟩
  · simp [newA]
  · rw [List.length_replicate]; exact (back32 q).2
theorem VA.inb (A : VA Z h a ty vs) {j : Int32} (hj : ¬ j < 0) (hlt : j.toNatClampNeg < vs.length) : ∃ c, Arr Z h a c ty ∧ c.slots = vs.toArray ∧ ¬ (j < 0 ∨ c.slots.size ≤ j.toNatClampNeg) := by
  obtain ⟨c, A, e, -⟩ := A
  exact ⟨c, A, e, fun q => q.elim hj fun q => by rw [e] at q; simp at q; omega⟩
theorem ne_lt {x z : Addr} {H : Heap} (p : x < H.size) (q : z = H.size) : x ≠ z := fun e => by rw [e, q] at p; exact Nat.lt_irrefl _ p
end Facts
theorem newArr {aty : ArrayType} {z : Int32} {cap : Nat} (r : Rch l Z n0 R y bytes mx rt D h k n pc Ls (.int z :: st)) (hd : decode bytes pc = .ok (.newarray aty, 2)) (w : (Jvm.Cond.arrayClass (newarray.typeOf aty)).before a0 Z = true) (hz : ¬ z < 0) (hcap : z.toNatClampNeg ≤ cap) (h8 : cap * 8 ≤ 536870912) (hc : k + 1 ≤ R.cells) (hl : n + cap ≤ R.slots) :
    ∃ h', (Ext h h' ∧ VA Z h' h.size (newarray.typeOf aty) (List.replicate z.toNatClampNeg (defaultValue (newarray.typeOf aty)))) ∧ Rch l Z n0 R y bytes mx rt D h' (k + 1) (n + cap) (pc + 2) Ls (.ref h.size :: st) :=
  r.mv (P := fun h' => Ext h h' ∧ VA Z h' h.size (newarray.typeOf aty) (List.replicate z.toNatClampNeg (defaultValue (newarray.typeOf aty)))) (st' := fun _ => .ref h.size :: st) fun X hx b _ _ hZ ho eT N => by
    obtain ⟨T', h', cA, X', e', E', A', s'⟩ := newP X hx hZ w eT (g := mkF _ pc Ls (.int z :: st)) rfl (hb b hd) rfl hz hcap h8 hc hl
    exact ⟨T', h', _, X', e', ⟨E', VA.new A' hz⟩, N, s' _ (Steps.refl _)⟩
theorem arrlen {a : Addr} {ty : FieldType} {vs : List Value} {z : Int32} (r : Rch l Z n0 R y bytes mx rt D h k n pc Ls (.ref a :: st)) (hd : decode bytes pc = .ok (.arraylength, 1)) (A : VA Z h a ty vs) (hz : vs.length.toInt32 = z) : Rch l Z n0 R y bytes mx rt D h k n (pc + 1) Ls (.int z :: st) := by
  subst hz
  obtain ⟨c, A, e, -⟩ := A
  have q : vs.length = c.slots.size := by rw [e]; simp
  rw [q]
  exact r.go fun X hx b hZ _ eT t q => X.arraylength hx (by rw [eT]; exact A.1) (State.isArrayOf_alike hZ.alike A.2.1) (g := mkF _ pc Ls (.ref a :: st)) rfl rfl (hb b hd) t q
theorem iaload {a : Addr} {vs : List Value} {j : Int32} {v : Value} (r : Rch l Z n0 R y bytes mx rt D h k n pc Ls (.int j :: .ref a :: st)) (hd : decode bytes pc = .ok (.iaload, 1)) (A : VA Z h a .int vs) (hj : ¬ j < 0) (hv : vs[j.toNatClampNeg]? = some v) : Rch l Z n0 R y bytes mx rt D h k n (pc + 1) Ls (v :: st) := by
  obtain ⟨c, A, e, hi⟩ := A.inb hj (List.getElem?_eq_some_iff.mp hv).1
  exact r.go fun X hx b hZ _ eT t q => X.iaload hx (j := j) (v := v) (by rw [eT]; exact A.1) (State.isArrayOf_alike hZ.alike A.2.1) A.2.2 hi (by rw [e]; simpa using hv) (g := mkF _ pc Ls (.int j :: .ref a :: st)) rfl rfl (hb b hd) t q
theorem laload {a : Addr} {vs : List Value} {j : Int32} {v : Value} (r : Rch l Z n0 R y bytes mx rt D h k n pc Ls (.int j :: .ref a :: st)) (hd : decode bytes pc = .ok (.laload, 1)) (A : VA Z h a .long vs) (hj : ¬ j < 0) (hv : vs[j.toNatClampNeg]? = some v) : Rch l Z n0 R y bytes mx rt D h k n (pc + 1) Ls (v :: st) := by
  obtain ⟨c, A, e, hi⟩ := A.inb hj (List.getElem?_eq_some_iff.mp hv).1
  exact r.go fun X hx b hZ _ eT t q => X.laload hx (j := j) (v := v) (by rw [eT]; exact A.1) (State.isArrayOf_alike hZ.alike A.2.1) A.2.2 hi (by rw [e]; simpa using hv) (g := mkF _ pc Ls (.int j :: .ref a :: st)) rfl rfl (hb b hd) t q
theorem caload {a : Addr} {vs : List Value} {j : Int32} {v : Value} (r : Rch l Z n0 R y bytes mx rt D h k n pc Ls (.int j :: .ref a :: st)) (hd : decode bytes pc = .ok (.caload, 1)) (A : VA Z h a .char vs) (hj : ¬ j < 0) (hv : vs[j.toNatClampNeg]? = some v) : Rch l Z n0 R y bytes mx rt D h k n (pc + 1) Ls (v :: st) := by
  obtain ⟨c, A, e, hi⟩ := A.inb hj (List.getElem?_eq_some_iff.mp hv).1
  exact r.go fun X hx b hZ _ eT t q => X.caload hx (j := j) (v := v) (by rw [eT]; exact A.1) (State.isArrayOf_alike hZ.alike A.2.1) A.2.2 hi (by rw [e]; simpa using hv) (g := mkF _ pc Ls (.int j :: .ref a :: st)) rfl rfl (hb b hd) t q
theorem baload {a : Addr} {vs : List Value} {j : Int32} {v : Value} (r : Rch l Z n0 R y bytes mx rt D h k n pc Ls (.int j :: .ref a :: st)) (hd : decode bytes pc = .ok (.baload, 1)) (A : VA Z h a .byte vs) (hj : ¬ j < 0) (hv : vs[j.toNatClampNeg]? = some v) : Rch l Z n0 R y bytes mx rt D h k n (pc + 1) Ls (v :: st) := by
  obtain ⟨c, A, e, hi⟩ := A.inb hj (List.getElem?_eq_some_iff.mp hv).1
  exact r.go fun X hx b hZ _ eT t q => X.baloadBytes hx (j := j) (v := v) (by rw [eT]; exact A.1) (State.isArrayOf_alike hZ.alike A.2.1) A.2.2 hi (by rw [e]; simpa using hv) (g := mkF _ pc Ls (.int j :: .ref a :: st)) rfl rfl (hb b hd) t q
theorem zaload {a : Addr} {vs : List Value} {j : Int32} {v : Value} (r : Rch l Z n0 R y bytes mx rt D h k n pc Ls (.int j :: .ref a :: st)) (hd : decode bytes pc = .ok (.baload, 1)) (A : VA Z h a .boolean vs) (hj : ¬ j < 0) (hv : vs[j.toNatClampNeg]? = some v) : Rch l Z n0 R y bytes mx rt D h k n (pc + 1) Ls (v :: st) := by
  obtain ⟨c, A, e, hi⟩ := A.inb hj (List.getElem?_eq_some_iff.mp hv).1
  exact r.go fun X hx b hZ _ eT t q => X.baloadBooleans hx (j := j) (v := v) (by rw [eT]; exact A.1) (State.isArrayOf_alike hZ.alike A.2.1) A.2.2 hi (by rw [e]; simpa using hv) (g := mkF _ pc Ls (.int j :: .ref a :: st)) rfl rfl (hb b hd) t q
theorem iastore {a : Addr} {vs : List Value} {j : Int32} {x : Int32} (r : Rch l Z n0 R y bytes mx rt D h k n pc Ls (.int x :: .int j :: .ref a :: st)) (hd : decode bytes pc = .ok (.iastore, 1)) (A : VA Z h a .int vs) (hj : ¬ j < 0) (hlt : j.toNatClampNeg < vs.length) (hg : n0 ≤ a) :
    ∃ h', (Wr h h' a j.toNatClampNeg (.int x) ∧ VA Z h' a .int (vs.set j.toNatClampNeg (.int x))) ∧ Rch l Z n0 R y bytes mx rt D h' k n (pc + 1) Ls st :=
  r.mv (P := fun h' => Wr h h' a j.toNatClampNeg (.int x) ∧ VA Z h' a .int (vs.set j.toNatClampNeg (.int x))) (st' := fun _ => st) fun X hx b _ _ hZ ho eT N => by
    obtain ⟨c, A', e, hi⟩ := A.inb hj hlt
    obtain ⟨T', h', X', e', W, s'⟩ := stI X hx hZ eT A' (j := j) hi (g := mkF _ pc Ls (.int x :: .int j :: .ref a :: st)) rfl rfl (hb b hd)
    exact ⟨T', h', _, X', e', ⟨W, A.set W⟩, Fr.snoc X' N hg, s' _ (Steps.refl _)⟩
theorem lastore {a : Addr} {vs : List Value} {j : Int32} {x : Int64} (r : Rch l Z n0 R y bytes mx rt D h k n pc Ls (.long x :: .int j :: .ref a :: st)) (hd : decode bytes pc = .ok (.lastore, 1)) (A : VA Z h a .long vs) (hj : ¬ j < 0) (hlt : j.toNatClampNeg < vs.length) (hg : n0 ≤ a) :
    ∃ h', (Wr h h' a j.toNatClampNeg (.long x) ∧ VA Z h' a .long (vs.set j.toNatClampNeg (.long x))) ∧ Rch l Z n0 R y bytes mx rt D h' k n (pc + 1) Ls st :=
  r.mv (P := fun h' => Wr h h' a j.toNatClampNeg (.long x) ∧ VA Z h' a .long (vs.set j.toNatClampNeg (.long x))) (st' := fun _ => st) fun X hx b _ _ hZ ho eT N => by
    obtain ⟨c, A', e, hi⟩ := A.inb hj hlt
    obtain ⟨T', h', X', e', W, s'⟩ := stJ X hx hZ eT A' (j := j) hi (g := mkF _ pc Ls (.long x :: .int j :: .ref a :: st)) rfl rfl (hb b hd)
    exact ⟨T', h', _, X', e', ⟨W, A.set W⟩, Fr.snoc X' N hg, s' _ (Steps.refl _)⟩
theorem castore {a : Addr} {vs : List Value} {j : Int32} {x : Int32} (r : Rch l Z n0 R y bytes mx rt D h k n pc Ls (.int x :: .int j :: .ref a :: st)) (hd : decode bytes pc = .ok (.castore, 1)) (A : VA Z h a .char vs) (hj : ¬ j < 0) (hlt : j.toNatClampNeg < vs.length) (hg : n0 ≤ a) :
    ∃ h', (Wr h h' a j.toNatClampNeg (.int (nar .char x)) ∧ VA Z h' a .char (vs.set j.toNatClampNeg (.int (nar .char x)))) ∧ Rch l Z n0 R y bytes mx rt D h' k n (pc + 1) Ls st :=
  r.mv (P := fun h' => Wr h h' a j.toNatClampNeg (.int (nar .char x)) ∧ VA Z h' a .char (vs.set j.toNatClampNeg (.int (nar .char x)))) (st' := fun _ => st) fun X hx b _ _ hZ ho eT N => by
    obtain ⟨c, A', e, hi⟩ := A.inb hj hlt
    obtain ⟨T', h', X', e', W, s'⟩ := stC X hx hZ eT A' (j := j) hi (g := mkF _ pc Ls (.int x :: .int j :: .ref a :: st)) rfl rfl (hb b hd)
    exact ⟨T', h', _, X', e', ⟨W, A.set W⟩, Fr.snoc X' N hg, s' _ (Steps.refl _)⟩
theorem bastore {a : Addr} {vs : List Value} {j : Int32} {x : Int32} (r : Rch l Z n0 R y bytes mx rt D h k n pc Ls (.int x :: .int j :: .ref a :: st)) (hd : decode bytes pc = .ok (.bastore, 1)) (A : VA Z h a .byte vs) (hj : ¬ j < 0) (hlt : j.toNatClampNeg < vs.length) (hg : n0 ≤ a) :
    ∃ h', (Wr h h' a j.toNatClampNeg (.int (nar .byte x)) ∧ VA Z h' a .byte (vs.set j.toNatClampNeg (.int (nar .byte x)))) ∧ Rch l Z n0 R y bytes mx rt D h' k n (pc + 1) Ls st :=
  r.mv (P := fun h' => Wr h h' a j.toNatClampNeg (.int (nar .byte x)) ∧ VA Z h' a .byte (vs.set j.toNatClampNeg (.int (nar .byte x)))) (st' := fun _ => st) fun X hx b _ _ hZ ho eT N => by
    obtain ⟨c, A', e, hi⟩ := A.inb hj hlt
    obtain ⟨T', h', X', e', W, s'⟩ := stB X hx hZ eT A' (j := j) hi (g := mkF _ pc Ls (.int x :: .int j :: .ref a :: st)) rfl rfl (hb b hd)
    exact ⟨T', h', _, X', e', ⟨W, A.set W⟩, Fr.snoc X' N hg, s' _ (Steps.refl _)⟩
theorem zastore {a : Addr} {vs : List Value} {j : Int32} {x : Int32} (r : Rch l Z n0 R y bytes mx rt D h k n pc Ls (.int x :: .int j :: .ref a :: st)) (hd : decode bytes pc = .ok (.bastore, 1)) (A : VA Z h a .boolean vs) (hj : ¬ j < 0) (hlt : j.toNatClampNeg < vs.length) (hg : n0 ≤ a) :
    ∃ h', (Wr h h' a j.toNatClampNeg (.int (nar .boolean x)) ∧ VA Z h' a .boolean (vs.set j.toNatClampNeg (.int (nar .boolean x)))) ∧ Rch l Z n0 R y bytes mx rt D h' k n (pc + 1) Ls st :=
  r.mv (P := fun h' => Wr h h' a j.toNatClampNeg (.int (nar .boolean x)) ∧ VA Z h' a .boolean (vs.set j.toNatClampNeg (.int (nar .boolean x)))) (st' := fun _ => st) fun X hx b _ _ hZ ho eT N => by
    obtain ⟨c, A', e, hi⟩ := A.inb hj hlt
    obtain ⟨T', h', X', e', W, s'⟩ := stZ X hx hZ eT A' (j := j) hi (g := mkF _ pc Ls (.int x :: .int j :: .ref a :: st)) rfl rfl (hb b hd)
    exact ⟨T', h', _, X', e', ⟨W, A.set W⟩, Fr.snoc X' N hg, s' _ (Steps.refl _)⟩
/-! the end -/
theorem Rch.ret0 (r : Rch l Z n0 R y bytes mx none D h k n pc Ls []) (hd : decode bytes pc = .ok (.return_, 1)) : Don l Z n0 R D h k n none := by
  obtain ⟨p, e, s, m, args, below, meth, c, s₁, g0⟩ := D
  obtain ⟨⟨hx, hbb, hml, ho, hZ, hr, hlk, hnm⟩, T, locs, X, eT, N, hs⟩ := r
  obtain ⟨fs, hl, hrun, hended, hW, hsame⟩ := X.leave (v := none) (fun _ => rfl) hlk
  exact ⟨T, locs, fs, X, eT, N, hs.trans (X.returnOut hx hr (hb hbb hd) hl), eT, hrun, hended, hW, hsame⟩
theorem Rch.retV {i : Instr} {t : FieldType} {w : Value} (r : Rch l Z n0 R y bytes mx (some t) D h k n pc Ls (w :: st)) (hd : decode bytes pc = .ok (i, 1)) (hn : narrow t w = w)
    (hi : (i = .ireturn ∧ (t = .int ∨ t = .boolean ∨ t = .byte ∨ t = .char ∨ t = .short) ∧ ∃ z, w = .int z) ∨ (i = .lreturn ∧ t = .long ∧ ∃ z, w = .long z) ∨ (i = .dreturn ∧ t = .double ∧ ∃ z, w = .double z) ∨ (i = .freturn ∧ t = .float ∧ ∃ z, w = .float z) ∨ (i = .areturn ∧ t.isReference = true ∧ w.isRef = true)) : Don l Z n0 R D h k n (some w) := by
  obtain ⟨p, e, s, m, args, below, meth, c, s₁, g0⟩ := D
  obtain ⟨⟨hx, hbb, hml, ho, hZ, hr, hlk, hnm⟩, T, locs, X, eT, N, hs⟩ := r
  obtain ⟨fs, hl, hrun, hended, hW, hsame⟩ := X.leave (v := some w) (fun q => by rw [hr] at q; cases q) hlk
  exact ⟨T, locs, fs, X, eT, N, hs.trans (retOut X hx hr hn hi (hb hbb hd) hl), eT, hrun, hended, hW, hsame⟩
theorem Rch.retI {z : Int32} (r : Rch l Z n0 R y bytes mx (some .int) D h k n pc Ls (.int z :: st)) (hd : decode bytes pc = .ok (.ireturn, 1)) : Don l Z n0 R D h k n (some (.int z)) := r.retV hd rfl (Or.inl ⟨rfl, Or.inl rfl, z, rfl⟩)
theorem Rch.retJ {z : Int64} (r : Rch l Z n0 R y bytes mx (some .long) D h k n pc Ls (.long z :: st)) (hd : decode bytes pc = .ok (.lreturn, 1)) : Don l Z n0 R D h k n (some (.long z)) := r.retV hd rfl (Or.inr (Or.inl ⟨rfl, rfl, z, rfl⟩))
theorem Rch.retZ {z : Int32} (r : Rch l Z n0 R y bytes mx (some .boolean) D h k n pc Ls (.int z :: st)) (hd : decode bytes pc = .ok (.ireturn, 1)) (hz : z &&& 1 = z) : Don l Z n0 R D h k n (some (.int z)) := r.retV hd (congrArg Value.int hz) (Or.inl ⟨rfl, Or.inr (Or.inl rfl), z, rfl⟩)
theorem Rch.retB {z : Int32} (r : Rch l Z n0 R y bytes mx (some .byte) D h k n pc Ls (.int z :: st)) (hd : decode bytes pc = .ok (.ireturn, 1)) (hz : z.toInt8.toInt32 = z) : Don l Z n0 R D h k n (some (.int z)) := r.retV hd (congrArg Value.int hz) (Or.inl ⟨rfl, Or.inr (Or.inr (Or.inl rfl)), z, rfl⟩)
theorem Rch.retA {t : FieldType} {w : Value} (r : Rch l Z n0 R y bytes mx (some t) D h k n pc Ls (w :: st)) (hd : decode bytes pc = .ok (.areturn, 1)) (ht : t.isReference = true) (hw : w.isRef = true) : Don l Z n0 R D h k n (some w) := r.retV hd (by rcases ref_cases hw with rfl | ⟨q, rfl⟩ <;> cases t <;> first | rfl | cases ht) (Or.inr (Or.inr (Or.inr (Or.inr ⟨rfl, ht, hw⟩))))
theorem Don.more {v : Option Value} (r : Don l Z n0 R D h k n v) {k' n' : Nat} (hk : k ≤ k') (hn : n ≤ n') : Don l Z n0 R D h k' n' v := by
  obtain ⟨p, e, s, m, args, below, meth, c, s₁, g0⟩ := D
  obtain ⟨T, locs, fs, X, eT, N, hs, hh, hrun, hend, hW, hsame⟩ := r
  exact ⟨T, locs, fs, X.more hk hn, eT, N, hs, hh, hrun, hend, hW, hsame.mono hk hn⟩
/-! calls -/
section Calls
variable {index : Nat} {y' : MethodName} {bytes' : ByteArray} {mx' : Nat} {rt' : Option FieldType} {rm : Room} {as' : Array Value} {Q : Option Value → Heap → Prop} {W : Nat} {rest : List Value}
theorem callS (argsL : List Value) (r : Rch l Z n0 R y bytes mx rt D h k n pc Ls st) (hd : decode bytes pc = .ok (.invokestatic index, 3)) (K : Con l Z n0 y' bytes' mx' rt' rm as' h Q) (w1 : (Jvm.Cond.methodLink y.cls index y').before a0 Z = true) (w2 : (Jvm.Cond.static y').before a0 Z = true) (w3 : (Jvm.Cond.initialized y'.cls).before a0 Z = true) (w4 : (Jvm.Cond.code y' bytes' mx' rt').before a0 Z = true)
    (hlen : ∀ sig, parseMethodDescriptor y'.desc = some sig → argsL.length = sig.parameters.length) (has : argsL.toArray = as') (hst : st = argsL.reverse ++ rest) (hW : (rest.map fun v => v.category).sum ≤ W) (hsz : Ls.size = mx) (hy : y'.cls ≠ "java/lang/invoke/MethodHandle" ∧ y'.cls ≠ "java/lang/invoke/VarHandle") (hf : rm.frames + 1 ≤ R.frames) (hlo : W + (mx' + 11) + rm.locals ≤ R.locals) (hc : k + rm.cells ≤ R.cells) (hs : n + rm.slots ≤ R.slots) :
    ∃ v h', Q v h' ∧ Rch l Z n0 R y bytes mx rt D h' (k + rm.cells) (n + rm.slots) (pc + 3) Ls (v.toList ++ rest) := by
  obtain ⟨p, e, s, m, args, below, meth, c, s₁, g0⟩ := D
  obtain ⟨hB, T, locs, X, eT, N, hs0⟩ := r
  obtain ⟨hx, hbb, hml, ho, hZ, hr, hlk, hnm⟩ := id hB
  subst hst
  obtain ⟨v, vm₁, ⟨T', L', k', n'⟩, -, X', ⟨Lc, ⟨N', hQ⟩, l1, y1, z1⟩, s'⟩ := Jvm.LawKit.callS X hx (y := y') ho (mvT hZ w1) (mvT hZ w2) (mvT hZ w3) (mvT hZ w4) hy (backOf (W := W) (Q := fun v h L => Fr n0 L ∧ Q v h) (K []) hZ w4 w3 hf hlo) (g := mkF m pc Ls (argsL.reverse ++ rest)) rfl (hsz.trans hml.symm) (argsL := argsL) (rest := rest) hlen rfl (by show 2 * 0 + _ ≤ _; omega) (hb hbb hd) (fun _ _ => ⟨has, eT, hc, hs⟩)
  dsimp only [Pt.U, Pt.locs, Pt.cells, Pt.slots] at X' l1 y1 z1 s' hQ
  subst l1 y1 z1
  exact ⟨v, T'.heap, hQ, hB, T', _, X', rfl, Fr.app N N', hs0.trans (s' _ (Steps.refl _))⟩
theorem callI {a : Addr} (argsL : List Value) (r : Rch l Z n0 R y bytes mx rt D h k n pc Ls st) (hd : decode bytes pc = .ok (.invokespecial index, 3)) (K : Con l Z n0 y' bytes' mx' none rm as' h Q) (w1 : (Jvm.Cond.methodLink y.cls index y').before a0 Z = true) (w2 : (Jvm.Cond.instanceMethod y').before a0 Z = true) (w3 : (Jvm.Cond.initialized y'.cls).before a0 Z = true) (w4 : (Jvm.Cond.code y' bytes' mx' none).before a0 Z = true) (hin : y'.name = "<init>")
    (hlen : ∀ sig, parseMethodDescriptor y'.desc = some sig → argsL.length = sig.parameters.length) (has : (.ref a :: argsL).toArray = as') (hst : st = argsL.reverse ++ .ref a :: rest) (hW : (rest.map fun v => v.category).sum ≤ W) (hsz : Ls.size = mx) (hy : y'.cls ≠ "java/lang/invoke/MethodHandle" ∧ y'.cls ≠ "java/lang/invoke/VarHandle") (hf : rm.frames + 1 ≤ R.frames) (hlo : W + (mx' + 11) + rm.locals ≤ R.locals) (hc : k + rm.cells ≤ R.cells) (hs : n + rm.slots ≤ R.slots) :
    ∃ v h', Q v h' ∧ Rch l Z n0 R y bytes mx rt D h' (k + rm.cells) (n + rm.slots) (pc + 3) Ls (v.toList ++ rest) := by
  obtain ⟨p, e, s, m, args, below, meth, c, s₁, g0⟩ := D
  obtain ⟨hB, T, locs, X, eT, N, hs0⟩ := r
  obtain ⟨hx, hbb, hml, ho, hZ, hr, hlk, hnm⟩ := id hB
  subst hst
  obtain ⟨v, vm₁, ⟨T', L', k', n'⟩, -, X', ⟨Lc, ⟨N', hQ⟩, l1, y1, z1⟩, s'⟩ := X.specialBack hx (y := y') hin ho (mvT hZ w1) (mvT hZ w2) (mvT hZ w4) hy (backOf (W := W) (Q := fun v h L => Fr n0 L ∧ Q v h) (K []) hZ w4 w3 hf hlo) (g := mkF m pc Ls (argsL.reverse ++ .ref a :: rest)) rfl (hsz.trans hml.symm) (Steps.refl _) (a := a) (argsL := argsL) (rest := rest) hlen rfl (by show 2 * 0 + _ ≤ _; omega) (hb hbb hd) (fun _ _ => ⟨has, eT, hc, hs⟩)
  dsimp only [Pt.U, Pt.locs, Pt.cells, Pt.slots] at X' l1 y1 z1 s' hQ
  subst l1 y1 z1
  exact ⟨v, T'.heap, hQ, hB, T', _, X', rfl, Fr.app N N', hs0.trans s'⟩
theorem callV {a : Addr} {yr : MethodName} {C : String} (argsL : List Value) (r : Rch l Z n0 R y bytes mx rt D h k n pc Ls st) (hd : decode bytes pc = .ok (.invokevirtual index, 3)) (K : Con l Z n0 y' bytes' mx' rt' rm as' h Q) (E : Exa Z h a C) (w1 : (Jvm.Cond.methodLink y.cls index yr).before a0 Z = true) (w2 : (Jvm.Cond.declares yr).before a0 Z = true) (nf : ∀ s : State, Z.Warmed39 s.vm → NotFace s yr) (w5 : (Jvm.Cond.selects C yr y').before a0 Z = true) (w6 : (Jvm.Cond.instanceMethod y').before a0 Z = true) (w3 : (Jvm.Cond.initialized y'.cls).before a0 Z = true) (w4 : (Jvm.Cond.code y' bytes' mx' rt').before a0 Z = true)
    (hlen : ∀ sig, parseMethodDescriptor yr.desc = some sig → argsL.length = sig.parameters.length) (has : (.ref a :: argsL).toArray = as') (hst : st = argsL.reverse ++ .ref a :: rest) (hW : (rest.map fun v => v.category).sum ≤ W) (hsz : Ls.size = mx) (hy : yr.cls ≠ "java/lang/invoke/MethodHandle" ∧ yr.cls ≠ "java/lang/invoke/VarHandle") (hf : rm.frames + 1 ≤ R.frames) (hlo : W + (mx' + 11) + rm.locals ≤ R.locals) (hc : k + rm.cells ≤ R.cells) (hs : n + rm.slots ≤ R.slots) :
    ∃ v h', Q v h' ∧ Rch l Z n0 R y bytes mx rt D h' (k + rm.cells) (n + rm.slots) (pc + 3) Ls (v.toList ++ rest) := by
  obtain ⟨p, e, s, m, args, below, meth, c, s₁, g0⟩ := D
  obtain ⟨hB, T, locs, X, eT, N, hs0⟩ := r
  obtain ⟨hx, hbb, hml, ho, hZ, hr, hlk, hnm⟩ := id hB
  subst hst
  obtain ⟨cq, kq, qa, qb, qc⟩ := isOf hZ eT E
  obtain ⟨v, vm₁, ⟨T', L', k', n'⟩, -, X', ⟨Lc, ⟨N', hQ⟩, l1, y1, z1⟩, s'⟩ := X.virtualBack hx (y := yr) (z := y') ho (mvT hZ w1) (mvT hZ w2) (nf s hZ) (mvT hZ w5) (mvT hZ w6) hy (backOf (W := W) (Q := fun v h L => Fr n0 L ∧ Q v h) (K []) hZ w4 w3 hf hlo) qa qc (g := mkF m pc Ls (argsL.reverse ++ .ref a :: rest)) rfl (hsz.trans hml.symm) (Steps.refl _) (argsL := argsL) (rest := rest) hlen rfl (by show 2 * 0 + _ ≤ _; omega) (hb hbb hd) (fun _ _ => ⟨has, eT, hc, hs⟩)
  dsimp only [Pt.U, Pt.locs, Pt.cells, Pt.slots] at X' l1 y1 z1 s' hQ
  subst l1 y1 z1
  exact ⟨v, T'.heap, hQ, hB, T', _, X', rfl, Fr.app N N', hs0.trans s'⟩
theorem nfS {yr : MethodName} {C : String} (w : (Jvm.Cond.selects C yr yr).before a0 Z = true) : ∀ s : State, Z.Warmed39 s.vm → NotFace s yr := fun s hZ => notFace_of_selects (args := #[]) (mvT hZ w)
theorem callP {a : Addr} {C : String} (argsL : List Value) (r : Rch l Z n0 R y bytes mx rt D h k n pc Ls st) (hd : decode bytes pc = .ok (.invokevirtual index, 3)) (K : Con l Z n0 y' bytes' mx' rt' rm as' h Q) (E : Exa Z h a C) (w1 : (Jvm.Cond.methodLink y.cls index y').before a0 Z = true) (w6 : (Jvm.Cond.instanceMethod y').before a0 Z = true) (w5 : (Jvm.Cond.selects y'.cls y' y').before a0 Z = true) (w7 : (Jvm.Cond.privateMethod y').before a0 Z = true) (w3 : (Jvm.Cond.initialized y'.cls).before a0 Z = true) (w4 : (Jvm.Cond.code y' bytes' mx' rt').before a0 Z = true)
    (hlen : ∀ sig, parseMethodDescriptor y'.desc = some sig → argsL.length = sig.parameters.length) (has : (.ref a :: argsL).toArray = as') (hst : st = argsL.reverse ++ .ref a :: rest) (hW : (rest.map fun v => v.category).sum ≤ W) (hsz : Ls.size = mx) (hy : y'.cls ≠ "java/lang/invoke/MethodHandle" ∧ y'.cls ≠ "java/lang/invoke/VarHandle") (hf : rm.frames + 1 ≤ R.frames) (hlo : W + (mx' + 11) + rm.locals ≤ R.locals) (hc : k + rm.cells ≤ R.cells) (hs : n + rm.slots ≤ R.slots) :
    ∃ v h', Q v h' ∧ Rch l Z n0 R y bytes mx rt D h' (k + rm.cells) (n + rm.slots) (pc + 3) Ls (v.toList ++ rest) := by
  obtain ⟨p, e, s, m, args, below, meth, c, s₁, g0⟩ := D
  obtain ⟨hB, T, locs, X, eT, N, hs0⟩ := r
  obtain ⟨hx, hbb, hml, ho, hZ, hr, hlk, hnm⟩ := id hB
  subst hst
  obtain ⟨cq, q1, q2⟩ := E.cell
  obtain ⟨v, vm₁, ⟨T', L', k', n'⟩, -, X', ⟨Lc, ⟨N', hQ⟩, l1, y1, z1⟩, s'⟩ := X.privateBack hx (y := y') ho (mvT hZ w1) (mvT hZ w6) (mvT hZ w5) (Cond.privateMethod_at (mvP hZ w7 (args := #[]))) (mvT hZ w4) hy (backOf (W := W) (Q := fun v h L => Fr n0 L ∧ Q v h) (K []) hZ w4 w3 hf hlo) (g := mkF m pc Ls (argsL.reverse ++ .ref a :: rest)) rfl (hsz.trans hml.symm) (Steps.refl _) (a := a) (by rw [eT]; exact q1) q2 (argsL := argsL) (rest := rest) hlen rfl (by show 2 * 0 + _ ≤ _; omega) (hb hbb hd) (fun _ _ => ⟨has, eT, hc, hs⟩)
  dsimp only [Pt.U, Pt.locs, Pt.cells, Pt.slots] at X' l1 y1 z1 s' hQ
  subst l1 y1 z1
  exact ⟨v, T'.heap, hQ, hB, T', _, X', rfl, Fr.app N N', hs0.trans s'⟩
end Calls
end Kit
end Jvm.Own

namespace Jvm.Pilot.@@N@@
open Jvm Jvm.ClassFile Sem Op Lib Jvm.Free Jvm.Stand Jvm.LawKit Jvm.RoadKit Bundle Jvm.Pilot.@@N@@.Jvm.D


theorem own_at {v sh : Int32} (e : v = (sh &&& (7 : Int32))) : 0 ≤ v.toInt ∧ v.toInt ≤ 7 := by
  have := c_and sh 7 (by decide)
  rw [e]; exact this
theorem own_get {L : List Int32} {j : Int32} (h1 : 0 ≤ j.toInt) (h2 : j.toInt < L.length) : ¬ j < 0 ∧ (L.map Value.int)[j.toNatClampNeg]? = some (.int (Own.ga L j)) := by
  refine ⟨by rw [Int32.lt_iff_toInt_lt]; have : (0 : Int32).toInt = 0 := rfl; omega, ?_⟩
  have q : j.toNatClampNeg < L.length := by unfold Int32.toNatClampNeg; omega
  rw [List.getElem?_map, List.getElem?_eq_getElem q]
  simp [Own.ga, q]
section
variable {L : List Int32} {p1 x3 : Int32} (hlen : L.length = 8) (h0 : 0 ≤ p1.toInt) (h7 : p1.toInt ≤ 7)
theorem own_x3 {x3 : Int32} (hx3 : x3 = (2 : Int32) ∨ x3 = (3 : Int32) ∨ x3 = (4 : Int32)) : x3.toInt = 2 ∨ x3.toInt = 3 ∨ x3.toInt = 4 := by rcases hx3 with rfl | rfl | rfl <;> decide
theorem own_ge (h0 : 0 ≤ p1.toInt) (h7 : p1.toInt ≤ 7) (hx3 : x3 = (2 : Int32) ∨ x3 = (3 : Int32) ∨ x3 = (4 : Int32)) (c : ¬ ((8 : Int32) - p1) < x3) : p1.toInt + x3.toInt ≤ 8 := by
  rw [Int32.lt_iff_toInt_lt] at c
  have := c_isub 8 p1; have : (8 : Int32).toInt = 8 := rfl
  have := ((8 : Int32) - p1).toInt_lt; have := ((8 : Int32) - p1).le_toInt
  omega
theorem own_ld0 (hlen : L.length = 8) (h0 : 0 ≤ p1.toInt) (h7 : p1.toInt ≤ 7) : ¬ p1 < 0 ∧ (L.map Value.int)[p1.toNatClampNeg]? = some (.int (Own.ga L p1)) := own_get h0 (by omega)
theorem own_ldk (hlen : L.length = 8) (h0 : 0 ≤ p1.toInt) (h7 : p1.toInt ≤ 7) (hx3 : x3 = (2 : Int32) ∨ x3 = (3 : Int32) ∨ x3 = (4 : Int32)) (c : ¬ ((8 : Int32) - p1) < x3) (k : Int32) (hk : 0 ≤ k.toInt ∧ k.toInt < x3.toInt) : ¬ (p1 + k) < 0 ∧ (L.map Value.int)[(p1 + k).toNatClampNeg]? = some (.int (Own.ga L (p1 + k))) := by
  have g := own_ge h0 h7 hx3 c
  have := own_x3 hx3
  have := c_iadd p1 k
  have := (p1 + k).toInt_lt; have := (p1 + k).le_toInt
  exact own_get (by omega) (by omega)
theorem own_ld1 (hlen : L.length = 8) (h0 : 0 ≤ p1.toInt) (h7 : p1.toInt ≤ 7) (hx3 : x3 = (2 : Int32) ∨ x3 = (3 : Int32) ∨ x3 = (4 : Int32)) (c : ¬ ((8 : Int32) - p1) < x3) : ¬ (p1 + (1 : Int32)) < 0 ∧ (L.map Value.int)[(p1 + (1 : Int32)).toNatClampNeg]? = some (.int (Own.ga L (p1 + (1 : Int32)))) :=
  own_ldk hlen h0 h7 hx3 c 1 ⟨by decide, by have := own_x3 hx3; have : (1 : Int32).toInt = 1 := rfl; omega⟩
theorem own_ld2 (hlen : L.length = 8) (h0 : 0 ≤ p1.toInt) (h7 : p1.toInt ≤ 7) (hx3 : x3 = (2 : Int32) ∨ x3 = (3 : Int32) ∨ x3 = (4 : Int32)) (c : ¬ ((8 : Int32) - p1) < x3) (c3 : ¬ x3 < (3 : Int32)) : ¬ (p1 + (2 : Int32)) < 0 ∧ (L.map Value.int)[(p1 + (2 : Int32)).toNatClampNeg]? = some (.int (Own.ga L (p1 + (2 : Int32)))) :=
  own_ldk hlen h0 h7 hx3 c 2 ⟨by decide, by rw [Int32.lt_iff_toInt_lt] at c3; have := own_x3 hx3; have : (2 : Int32).toInt = 2 := rfl; have : (3 : Int32).toInt = 3 := rfl; omega⟩
theorem own_ld3 (hlen : L.length = 8) (h0 : 0 ≤ p1.toInt) (h7 : p1.toInt ≤ 7) (hx3 : x3 = (2 : Int32) ∨ x3 = (3 : Int32) ∨ x3 = (4 : Int32)) (c : ¬ ((8 : Int32) - p1) < x3) (c4 : x3 = (4 : Int32)) : ¬ (p1 + (3 : Int32)) < 0 ∧ (L.map Value.int)[(p1 + (3 : Int32)).toNatClampNeg]? = some (.int (Own.ga L (p1 + (3 : Int32)))) :=
  own_ldk hlen h0 h7 hx3 c 3 ⟨by decide, by subst c4; decide⟩
theorem own_i23 (p : Int32) : p + (2 : Int32) + (1 : Int32) = p + (3 : Int32) := by rw [Int32.add_assoc]; rfl
theorem own_ldn (hlen : L.length = 8) (h0 : 0 ≤ p1.toInt) (h7 : p1.toInt ≤ 7) (hx3 : x3 = (2 : Int32) ∨ x3 = (3 : Int32) ∨ x3 = (4 : Int32)) (c : ¬ ((8 : Int32) - p1) < x3) {j : Int32} (hj : j < (p1 + x3)) (e : j = (p1 + (2 : Int32)) ∨ j = (p1 + (3 : Int32))) : ¬ j < 0 ∧ (L.map Value.int)[j.toNatClampNeg]? = some (.int (Own.ga L j)) := by
  have g := own_ge h0 h7 hx3 c
  have := own_x3 hx3
  have := c_iadd p1 x3; have := c_iadd p1 2; have := c_iadd p1 3; have : (2 : Int32).toInt = 2 := rfl; have : (3 : Int32).toInt = 3 := rfl
  have := (p1 + x3).toInt_lt; have := (p1 + x3).le_toInt; have := (p1 + 2).toInt_lt; have := (p1 + 2).le_toInt; have := (p1 + 3).toInt_lt; have := (p1 + 3).le_toInt
  rw [Int32.lt_iff_toInt_lt] at hj
  rcases e with rfl | rfl
  · exact own_get (by omega) (by omega)
  · exact own_get (by omega) (by omega)
theorem own_out (h0 : 0 ≤ p1.toInt) (h7 : p1.toInt ≤ 7) (hx3 : x3 = (2 : Int32) ∨ x3 = (3 : Int32) ∨ x3 = (4 : Int32)) (c : ¬ ((8 : Int32) - p1) < x3) {v : Int32} (e : v = (p1 + (2 : Int32))) : ¬ ((v + (1 : Int32)) + (1 : Int32)) < (p1 + x3) := by
  have g := own_ge h0 h7 hx3 c
  have := own_x3 hx3
  subst e
  have := c_iadd p1 x3; have := c_iadd p1 2; have := c_iadd (p1 + 2) 1; have := c_iadd (p1 + 2 + 1) 1; have : (2 : Int32).toInt = 2 := rfl; have : (1 : Int32).toInt = 1 := rfl
  have := (p1 + x3).toInt_lt; have := (p1 + x3).le_toInt; have := (p1 + 2).toInt_lt; have := (p1 + 2).le_toInt; have := (p1 + 2 + 1).toInt_lt; have := (p1 + 2 + 1).le_toInt; have := (p1 + 2 + 1 + 1).toInt_lt; have := (p1 + 2 + 1 + 1).le_toInt
  rw [Int32.lt_iff_toInt_lt]
  omega
end

theorem d1_0 : decode method_3_code 0 = .ok (.aload_n 0, 1) := by decide +kernel
theorem d1_1 : decode method_3_code 1 = .ok (.iload_n 1, 1) := by decide +kernel
theorem d1_2 : decode method_3_code 2 = .ok (.baload, 1) := by decide +kernel
theorem d1_3 : decode method_3_code 3 = .ok (.sipush 255, 3) := by decide +kernel
theorem d1_6 : decode method_3_code 6 = .ok (.iand, 1) := by decide +kernel
theorem d1_7 : decode method_3_code 7 = .ok (.istore_n 2, 1) := by decide +kernel
theorem d1_8 : decode method_3_code 8 = .ok (.iload_n 2, 1) := by decide +kernel
theorem d1_9 : decode method_3_code 9 = .ok (.sipush 224, 3) := by decide +kernel
theorem d1_12 : decode method_3_code 12 = .ok (.iand, 1) := by decide +kernel
theorem d1_13 : decode method_3_code 13 = .ok (.sipush 192, 3) := by decide +kernel
theorem d1_16 : decode method_3_code 16 = .ok (.if_icmp .ne 19, 3) := by decide +kernel
theorem d1_19 : decode method_3_code 19 = .ok (.iconst 2, 1) := by decide +kernel
theorem d1_20 : decode method_3_code 20 = .ok (.istore_n 3, 1) := by decide +kernel
theorem d1_21 : decode method_3_code 21 = .ok (.iload_n 2, 1) := by decide +kernel
theorem d1_22 : decode method_3_code 22 = .ok (.bipush 31, 2) := by decide +kernel
theorem d1_24 : decode method_3_code 24 = .ok (.iand, 1) := by decide +kernel
theorem d1_25 : decode method_3_code 25 = .ok (.istore 4, 2) := by decide +kernel
theorem d1_27 : decode method_3_code 27 = .ok (.sipush 128, 3) := by decide +kernel
theorem d1_30 : decode method_3_code 30 = .ok (.istore 5, 2) := by decide +kernel
theorem d1_32 : decode method_3_code 32 = .ok (.goto 58, 3) := by decide +kernel
theorem d1_35 : decode method_3_code 35 = .ok (.iload_n 2, 1) := by decide +kernel
theorem d1_36 : decode method_3_code 36 = .ok (.sipush 240, 3) := by decide +kernel
theorem d1_39 : decode method_3_code 39 = .ok (.iand, 1) := by decide +kernel
theorem d1_40 : decode method_3_code 40 = .ok (.sipush 224, 3) := by decide +kernel
theorem d1_43 : decode method_3_code 43 = .ok (.if_icmp .ne 19, 3) := by decide +kernel
theorem d1_46 : decode method_3_code 46 = .ok (.iconst 3, 1) := by decide +kernel
theorem d1_47 : decode method_3_code 47 = .ok (.istore_n 3, 1) := by decide +kernel
theorem d1_48 : decode method_3_code 48 = .ok (.iload_n 2, 1) := by decide +kernel
theorem d1_49 : decode method_3_code 49 = .ok (.bipush 15, 2) := by decide +kernel
theorem d1_51 : decode method_3_code 51 = .ok (.iand, 1) := by decide +kernel
theorem d1_52 : decode method_3_code 52 = .ok (.istore 4, 2) := by decide +kernel
theorem d1_54 : decode method_3_code 54 = .ok (.sipush 2048, 3) := by decide +kernel
theorem d1_57 : decode method_3_code 57 = .ok (.istore 5, 2) := by decide +kernel
theorem d1_59 : decode method_3_code 59 = .ok (.goto 31, 3) := by decide +kernel
theorem d1_62 : decode method_3_code 62 = .ok (.iload_n 2, 1) := by decide +kernel
theorem d1_63 : decode method_3_code 63 = .ok (.sipush 248, 3) := by decide +kernel
theorem d1_66 : decode method_3_code 66 = .ok (.iand, 1) := by decide +kernel
theorem d1_67 : decode method_3_code 67 = .ok (.sipush 240, 3) := by decide +kernel
theorem d1_70 : decode method_3_code 70 = .ok (.if_icmp .ne 18, 3) := by decide +kernel
theorem d1_73 : decode method_3_code 73 = .ok (.iconst 4, 1) := by decide +kernel
theorem d1_74 : decode method_3_code 74 = .ok (.istore_n 3, 1) := by decide +kernel
theorem d1_75 : decode method_3_code 75 = .ok (.iload_n 2, 1) := by decide +kernel
theorem d1_76 : decode method_3_code 76 = .ok (.bipush 7, 2) := by decide +kernel
theorem d1_78 : decode method_3_code 78 = .ok (.iand, 1) := by decide +kernel
theorem d1_79 : decode method_3_code 79 = .ok (.istore 4, 2) := by decide +kernel
theorem d1_81 : decode method_3_code 81 = .ok (.ldc 18, 2) := by decide +kernel
theorem d1_83 : decode method_3_code 83 = .ok (.istore 5, 2) := by decide +kernel
theorem d1_85 : decode method_3_code 85 = .ok (.goto 5, 3) := by decide +kernel
theorem d1_88 : decode method_3_code 88 = .ok (.iconst 0, 1) := by decide +kernel
theorem d1_89 : decode method_3_code 89 = .ok (.ireturn, 1) := by decide +kernel
theorem d1_90 : decode method_3_code 90 = .ok (.aload_n 0, 1) := by decide +kernel
theorem d1_91 : decode method_3_code 91 = .ok (.arraylength, 1) := by decide +kernel
theorem d1_92 : decode method_3_code 92 = .ok (.iload_n 1, 1) := by decide +kernel
theorem d1_93 : decode method_3_code 93 = .ok (.isub, 1) := by decide +kernel
theorem d1_94 : decode method_3_code 94 = .ok (.iload_n 3, 1) := by decide +kernel
theorem d1_95 : decode method_3_code 95 = .ok (.if_icmp .ge 5, 3) := by decide +kernel
theorem d1_98 : decode method_3_code 98 = .ok (.iconst 0, 1) := by decide +kernel
theorem d1_99 : decode method_3_code 99 = .ok (.ireturn, 1) := by decide +kernel
theorem d1_100 : decode method_3_code 100 = .ok (.aload_n 0, 1) := by decide +kernel
theorem d1_101 : decode method_3_code 101 = .ok (.iload_n 1, 1) := by decide +kernel
theorem d1_102 : decode method_3_code 102 = .ok (.iconst 1, 1) := by decide +kernel
theorem d1_103 : decode method_3_code 103 = .ok (.iadd, 1) := by decide +kernel
theorem d1_104 : decode method_3_code 104 = .ok (.baload, 1) := by decide +kernel
theorem d1_105 : decode method_3_code 105 = .ok (.sipush 255, 3) := by decide +kernel
theorem d1_108 : decode method_3_code 108 = .ok (.iand, 1) := by decide +kernel
theorem d1_109 : decode method_3_code 109 = .ok (.istore 6, 2) := by decide +kernel
theorem d1_111 : decode method_3_code 111 = .ok (.iload 6, 2) := by decide +kernel
theorem d1_113 : decode method_3_code 113 = .ok (.sipush 192, 3) := by decide +kernel
theorem d1_116 : decode method_3_code 116 = .ok (.iand, 1) := by decide +kernel
theorem d1_117 : decode method_3_code 117 = .ok (.sipush 128, 3) := by decide +kernel
theorem d1_120 : decode method_3_code 120 = .ok (.if_icmp .eq 5, 3) := by decide +kernel
theorem d1_123 : decode method_3_code 123 = .ok (.iconst 0, 1) := by decide +kernel
theorem d1_124 : decode method_3_code 124 = .ok (.ireturn, 1) := by decide +kernel
theorem d1_125 : decode method_3_code 125 = .ok (.iload 4, 2) := by decide +kernel
theorem d1_127 : decode method_3_code 127 = .ok (.bipush 6, 2) := by decide +kernel
theorem d1_129 : decode method_3_code 129 = .ok (.ishl, 1) := by decide +kernel
theorem d1_130 : decode method_3_code 130 = .ok (.iload 6, 2) := by decide +kernel
theorem d1_132 : decode method_3_code 132 = .ok (.bipush 63, 2) := by decide +kernel
theorem d1_134 : decode method_3_code 134 = .ok (.iand, 1) := by decide +kernel
theorem d1_135 : decode method_3_code 135 = .ok (.ior, 1) := by decide +kernel
theorem d1_136 : decode method_3_code 136 = .ok (.istore 4, 2) := by decide +kernel
theorem d1_138 : decode method_3_code 138 = .ok (.iload_n 3, 1) := by decide +kernel
theorem d1_139 : decode method_3_code 139 = .ok (.iconst 3, 1) := by decide +kernel
theorem d1_140 : decode method_3_code 140 = .ok (.if_icmp .lt 41, 3) := by decide +kernel
theorem d1_143 : decode method_3_code 143 = .ok (.aload_n 0, 1) := by decide +kernel
theorem d1_144 : decode method_3_code 144 = .ok (.iload_n 1, 1) := by decide +kernel
theorem d1_145 : decode method_3_code 145 = .ok (.iconst 2, 1) := by decide +kernel
theorem d1_146 : decode method_3_code 146 = .ok (.iadd, 1) := by decide +kernel
theorem d1_147 : decode method_3_code 147 = .ok (.baload, 1) := by decide +kernel
theorem d1_148 : decode method_3_code 148 = .ok (.sipush 255, 3) := by decide +kernel
theorem d1_151 : decode method_3_code 151 = .ok (.iand, 1) := by decide +kernel
theorem d1_152 : decode method_3_code 152 = .ok (.istore 7, 2) := by decide +kernel
theorem d1_154 : decode method_3_code 154 = .ok (.iload 7, 2) := by decide +kernel
theorem d1_156 : decode method_3_code 156 = .ok (.sipush 192, 3) := by decide +kernel
theorem d1_159 : decode method_3_code 159 = .ok (.iand, 1) := by decide +kernel
theorem d1_160 : decode method_3_code 160 = .ok (.sipush 128, 3) := by decide +kernel
theorem d1_163 : decode method_3_code 163 = .ok (.if_icmp .eq 5, 3) := by decide +kernel
theorem d1_166 : decode method_3_code 166 = .ok (.iconst 0, 1) := by decide +kernel
theorem d1_167 : decode method_3_code 167 = .ok (.ireturn, 1) := by decide +kernel
theorem d1_168 : decode method_3_code 168 = .ok (.iload 4, 2) := by decide +kernel
theorem d1_170 : decode method_3_code 170 = .ok (.bipush 6, 2) := by decide +kernel
theorem d1_172 : decode method_3_code 172 = .ok (.ishl, 1) := by decide +kernel
theorem d1_173 : decode method_3_code 173 = .ok (.iload 7, 2) := by decide +kernel
theorem d1_175 : decode method_3_code 175 = .ok (.bipush 63, 2) := by decide +kernel
theorem d1_177 : decode method_3_code 177 = .ok (.iand, 1) := by decide +kernel
theorem d1_178 : decode method_3_code 178 = .ok (.ior, 1) := by decide +kernel
theorem d1_179 : decode method_3_code 179 = .ok (.istore 4, 2) := by decide +kernel
theorem d1_181 : decode method_3_code 181 = .ok (.iload_n 3, 1) := by decide +kernel
theorem d1_182 : decode method_3_code 182 = .ok (.iconst 4, 1) := by decide +kernel
theorem d1_183 : decode method_3_code 183 = .ok (.if_icmp .ne 41, 3) := by decide +kernel
theorem d1_186 : decode method_3_code 186 = .ok (.aload_n 0, 1) := by decide +kernel
theorem d1_187 : decode method_3_code 187 = .ok (.iload_n 1, 1) := by decide +kernel
theorem d1_188 : decode method_3_code 188 = .ok (.iconst 3, 1) := by decide +kernel
theorem d1_189 : decode method_3_code 189 = .ok (.iadd, 1) := by decide +kernel
theorem d1_190 : decode method_3_code 190 = .ok (.baload, 1) := by decide +kernel
theorem d1_191 : decode method_3_code 191 = .ok (.sipush 255, 3) := by decide +kernel
theorem d1_194 : decode method_3_code 194 = .ok (.iand, 1) := by decide +kernel
theorem d1_195 : decode method_3_code 195 = .ok (.istore 7, 2) := by decide +kernel
theorem d1_197 : decode method_3_code 197 = .ok (.iload 7, 2) := by decide +kernel
theorem d1_199 : decode method_3_code 199 = .ok (.sipush 192, 3) := by decide +kernel
theorem d1_202 : decode method_3_code 202 = .ok (.iand, 1) := by decide +kernel
theorem d1_203 : decode method_3_code 203 = .ok (.sipush 128, 3) := by decide +kernel
theorem d1_206 : decode method_3_code 206 = .ok (.if_icmp .eq 5, 3) := by decide +kernel
theorem d1_209 : decode method_3_code 209 = .ok (.iconst 0, 1) := by decide +kernel
theorem d1_210 : decode method_3_code 210 = .ok (.ireturn, 1) := by decide +kernel
theorem d1_211 : decode method_3_code 211 = .ok (.iload 4, 2) := by decide +kernel
theorem d1_213 : decode method_3_code 213 = .ok (.bipush 6, 2) := by decide +kernel
theorem d1_215 : decode method_3_code 215 = .ok (.ishl, 1) := by decide +kernel
theorem d1_216 : decode method_3_code 216 = .ok (.iload 7, 2) := by decide +kernel
theorem d1_218 : decode method_3_code 218 = .ok (.bipush 63, 2) := by decide +kernel
theorem d1_220 : decode method_3_code 220 = .ok (.iand, 1) := by decide +kernel
theorem d1_221 : decode method_3_code 221 = .ok (.ior, 1) := by decide +kernel
theorem d1_222 : decode method_3_code 222 = .ok (.istore 4, 2) := by decide +kernel
theorem d1_224 : decode method_3_code 224 = .ok (.iload 4, 2) := by decide +kernel
theorem d1_226 : decode method_3_code 226 = .ok (.iload 5, 2) := by decide +kernel
theorem d1_228 : decode method_3_code 228 = .ok (.if_icmp .ge 5, 3) := by decide +kernel
theorem d1_231 : decode method_3_code 231 = .ok (.iconst 0, 1) := by decide +kernel
theorem d1_232 : decode method_3_code 232 = .ok (.ireturn, 1) := by decide +kernel
theorem d1_233 : decode method_3_code 233 = .ok (.iload 4, 2) := by decide +kernel
theorem d1_235 : decode method_3_code 235 = .ok (.ldc 19, 2) := by decide +kernel
theorem d1_237 : decode method_3_code 237 = .ok (.if_icmp .lt 12, 3) := by decide +kernel
theorem d1_240 : decode method_3_code 240 = .ok (.iload 4, 2) := by decide +kernel
theorem d1_242 : decode method_3_code 242 = .ok (.ldc 20, 2) := by decide +kernel
theorem d1_244 : decode method_3_code 244 = .ok (.if_icmp .gt 5, 3) := by decide +kernel
theorem d1_247 : decode method_3_code 247 = .ok (.iconst 0, 1) := by decide +kernel
theorem d1_248 : decode method_3_code 248 = .ok (.ireturn, 1) := by decide +kernel
theorem d1_249 : decode method_3_code 249 = .ok (.iload 4, 2) := by decide +kernel
theorem d1_251 : decode method_3_code 251 = .ok (.ldc 21, 2) := by decide +kernel
theorem d1_253 : decode method_3_code 253 = .ok (.if_icmp .le 5, 3) := by decide +kernel
theorem d1_256 : decode method_3_code 256 = .ok (.iconst 0, 1) := by decide +kernel
theorem d1_257 : decode method_3_code 257 = .ok (.ireturn, 1) := by decide +kernel
theorem d1_258 : decode method_3_code 258 = .ok (.iload_n 3, 1) := by decide +kernel
theorem d1_259 : decode method_3_code 259 = .ok (.ireturn, 1) := by decide +kernel
theorem pn_1 : plainFor (⟨"needlework/cli/ScanSequenceLengthPinLaw", "expected", "([BI)I"⟩ : MethodName) = true := plainFor_of_name (by first | (simp [plainName, overriddenIn, x]; done) | decide +kernel)
theorem ef_1 (a0_ : Addr) (p1 : Int32) (m : MethodId) : entryFrame m #[(.ref a0_), (.int p1)] 8 = mkF m 0 #[.val (.ref a0_), .val (.int p1), .unset, .unset, .unset, .unset, .unset, .unset] [] := by first | (simp [entryFrame, mkF, argsToLocals, Value.category, maxLocals]; done) | rfl
abbrev R1 : Room := ({ frames := 0, cells := 0, slots := 0, locals := 0 } : Room)
abbrev A1 (l : Launch) (Z : State) (n0 : Nat) (D : Own.Dyn) := Own.Rch l Z n0 R1 (⟨"needlework/cli/ScanSequenceLengthPinLaw", "expected", "([BI)I"⟩ : MethodName) method_3_code 8 (some .int) D
def S1_224 (p1 : Int32) (L : List Int32) (x2 : Int32) (x3 : Int32) (x4 : Int32) (x5 : Int32) (x6 : Int32) (w : Int32) : Prop := ((x4 < x5 → w = (0 : Int32)) ∧ (¬ (x4 < x5) → ((x4 < (55296 : Int32) → (((1114111 : Int32) < x4 → w = (0 : Int32)) ∧ (¬ ((1114111 : Int32) < x4) → w = x3))) ∧ (¬ (x4 < (55296 : Int32)) → (((57343 : Int32) < x4 → (((1114111 : Int32) < x4 → w = (0 : Int32)) ∧ (¬ ((1114111 : Int32) < x4) → w = x3))) ∧ (¬ ((57343 : Int32) < x4) → w = (0 : Int32)))))))
set_option maxRecDepth 65536 in
set_option maxHeartbeats 40000000 in
theorem t1_224 (l : Launch) (Z : State) (a0 : Array Value) (hw : ∀ d ∈ tables_1, d.before a0 Z = true) (n0 : Nat) (h : Heap) (Zs : n0 ≤ h.size) (D : Own.Dyn) (a0_ : Addr) (p1 : Int32) (L : List Int32) (V_a0_ : Own.VA Z h a0_ .byte (L.map Value.int)) (hlen : L.length = 8) (h0 : 0 ≤ p1.toInt) (h7 : p1.toInt ≤ 7) (x2 : Int32) (x3 : Int32) (x4 : Int32) (x5 : Int32) (x6 : Int32) (sl7 : Slot)  (r : A1 l Z n0 D h 0 0 224 #[.val (.ref a0_), .val (.int p1), .val (.int x2), .val (.int x3), .val (.int x4), .val (.int x5), .val (.int x6), sl7] []) :
    ∃ v h', Own.Don l Z n0 R1 D h' R1.cells R1.slots v ∧ h = h' ∧ ∃ w : Int32, v = some (.int w) ∧ S1_224 p1 L x2 x3 x4 x5 x6 w := by
  replace r : A1 l Z n0 D h 0 0 226 #[.val (.ref a0_), .val (.int p1), .val (.int x2), .val (.int x3), .val (.int x4), .val (.int x5), .val (.int x6), sl7] [(.int x4)] := Own.iload r d1_224 rfl
  replace r : A1 l Z n0 D h 0 0 228 #[.val (.ref a0_), .val (.int p1), .val (.int x2), .val (.int x3), .val (.int x4), .val (.int x5), .val (.int x6), sl7] [(.int x5), (.int x4)] := Own.iload r d1_226 rfl
  by_cases c1 : x4 < x5
  · skip
    replace r : A1 l Z n0 D h 0 0 231 #[.val (.ref a0_), .val (.int p1), .val (.int x2), .val (.int x3), .val (.int x4), .val (.int x5), .val (.int x6), sl7] [] := Own.icmpNo r d1_228 (tlt c1).2.1
    replace r : A1 l Z n0 D h 0 0 232 #[.val (.ref a0_), .val (.int p1), .val (.int x2), .val (.int x3), .val (.int x4), .val (.int x5), .val (.int x6), sl7] [(.int (0 : Int32))] := Own.iconst r d1_231 rfl
    exact ⟨_, _, (Own.Rch.retI r d1_232).more (by decide) (by decide), rfl, _, rfl, ⟨fun _ => rfl, fun q => absurd c1 q⟩⟩
  · skip
    replace r : A1 l Z n0 D h 0 0 233 #[.val (.ref a0_), .val (.int p1), .val (.int x2), .val (.int x3), .val (.int x4), .val (.int x5), .val (.int x6), sl7] [] := Own.icmpYes r d1_228 (flt c1).2.1 (by decide) (by decide)
    replace r : A1 l Z n0 D h 0 0 235 #[.val (.ref a0_), .val (.int p1), .val (.int x2), .val (.int x3), .val (.int x4), .val (.int x5), .val (.int x6), sl7] [(.int x4)] := Own.iload r d1_233 rfl
    replace r : A1 l Z n0 D h 0 0 237 #[.val (.ref a0_), .val (.int p1), .val (.int x2), .val (.int x3), .val (.int x4), .val (.int x5), .val (.int x6), sl7] [(.int (55296 : Int32)), (.int x4)] := Own.ldcI r d1_235 (hw _ (List.mem_of_getElem? (i := 10) rfl))
    by_cases c2 : x4 < (55296 : Int32)
    · skip
      replace r : A1 l Z n0 D h 0 0 249 #[.val (.ref a0_), .val (.int p1), .val (.int x2), .val (.int x3), .val (.int x4), .val (.int x5), .val (.int x6), sl7] [] := Own.icmpYes r d1_237 (tlt c2).1 (by decide) (by decide)
      replace r : A1 l Z n0 D h 0 0 251 #[.val (.ref a0_), .val (.int p1), .val (.int x2), .val (.int x3), .val (.int x4), .val (.int x5), .val (.int x6), sl7] [(.int x4)] := Own.iload r d1_249 rfl
      replace r : A1 l Z n0 D h 0 0 253 #[.val (.ref a0_), .val (.int p1), .val (.int x2), .val (.int x3), .val (.int x4), .val (.int x5), .val (.int x6), sl7] [(.int (1114111 : Int32)), (.int x4)] := Own.ldcI r d1_251 (hw _ (List.mem_of_getElem? (i := 11) rfl))
      by_cases c3 : (1114111 : Int32) < x4
      · skip
        replace r : A1 l Z n0 D h 0 0 256 #[.val (.ref a0_), .val (.int p1), .val (.int x2), .val (.int x3), .val (.int x4), .val (.int x5), .val (.int x6), sl7] [] := Own.icmpNo r d1_253 (tlt c3).2.2.2
        replace r : A1 l Z n0 D h 0 0 257 #[.val (.ref a0_), .val (.int p1), .val (.int x2), .val (.int x3), .val (.int x4), .val (.int x5), .val (.int x6), sl7] [(.int (0 : Int32))] := Own.iconst r d1_256 rfl
        exact ⟨_, _, (Own.Rch.retI r d1_257).more (by decide) (by decide), rfl, _, rfl, ⟨fun q => absurd q c1, fun _ => ⟨fun _ => ⟨fun _ => rfl, fun q => absurd c3 q⟩, fun q => absurd c2 q⟩⟩⟩
      · skip
        replace r : A1 l Z n0 D h 0 0 258 #[.val (.ref a0_), .val (.int p1), .val (.int x2), .val (.int x3), .val (.int x4), .val (.int x5), .val (.int x6), sl7] [] := Own.icmpYes r d1_253 (flt c3).2.2.2 (by decide) (by decide)
        replace r : A1 l Z n0 D h 0 0 259 #[.val (.ref a0_), .val (.int p1), .val (.int x2), .val (.int x3), .val (.int x4), .val (.int x5), .val (.int x6), sl7] [(.int x3)] := Own.iloadN r d1_258 rfl
        exact ⟨_, _, (Own.Rch.retI r d1_259).more (by decide) (by decide), rfl, _, rfl, ⟨fun q => absurd q c1, fun _ => ⟨fun _ => ⟨fun q => absurd q c3, fun _ => rfl⟩, fun q => absurd c2 q⟩⟩⟩
    · skip
      replace r : A1 l Z n0 D h 0 0 240 #[.val (.ref a0_), .val (.int p1), .val (.int x2), .val (.int x3), .val (.int x4), .val (.int x5), .val (.int x6), sl7] [] := Own.icmpNo r d1_237 (flt c2).1
      replace r : A1 l Z n0 D h 0 0 242 #[.val (.ref a0_), .val (.int p1), .val (.int x2), .val (.int x3), .val (.int x4), .val (.int x5), .val (.int x6), sl7] [(.int x4)] := Own.iload r d1_240 rfl
      replace r : A1 l Z n0 D h 0 0 244 #[.val (.ref a0_), .val (.int p1), .val (.int x2), .val (.int x3), .val (.int x4), .val (.int x5), .val (.int x6), sl7] [(.int (57343 : Int32)), (.int x4)] := Own.ldcI r d1_242 (hw _ (List.mem_of_getElem? (i := 12) rfl))
      by_cases c4 : (57343 : Int32) < x4
      · skip
        replace r : A1 l Z n0 D h 0 0 249 #[.val (.ref a0_), .val (.int p1), .val (.int x2), .val (.int x3), .val (.int x4), .val (.int x5), .val (.int x6), sl7] [] := Own.icmpYes r d1_244 (tlt c4).2.2.1 (by decide) (by decide)
        replace r : A1 l Z n0 D h 0 0 251 #[.val (.ref a0_), .val (.int p1), .val (.int x2), .val (.int x3), .val (.int x4), .val (.int x5), .val (.int x6), sl7] [(.int x4)] := Own.iload r d1_249 rfl
        replace r : A1 l Z n0 D h 0 0 253 #[.val (.ref a0_), .val (.int p1), .val (.int x2), .val (.int x3), .val (.int x4), .val (.int x5), .val (.int x6), sl7] [(.int (1114111 : Int32)), (.int x4)] := Own.ldcI r d1_251 (hw _ (List.mem_of_getElem? (i := 11) rfl))
        by_cases c5 : (1114111 : Int32) < x4
        · skip
          replace r : A1 l Z n0 D h 0 0 256 #[.val (.ref a0_), .val (.int p1), .val (.int x2), .val (.int x3), .val (.int x4), .val (.int x5), .val (.int x6), sl7] [] := Own.icmpNo r d1_253 (tlt c5).2.2.2
          replace r : A1 l Z n0 D h 0 0 257 #[.val (.ref a0_), .val (.int p1), .val (.int x2), .val (.int x3), .val (.int x4), .val (.int x5), .val (.int x6), sl7] [(.int (0 : Int32))] := Own.iconst r d1_256 rfl
          exact ⟨_, _, (Own.Rch.retI r d1_257).more (by decide) (by decide), rfl, _, rfl, ⟨fun q => absurd q c1, fun _ => ⟨fun q => absurd q c2, fun _ => ⟨fun _ => ⟨fun _ => rfl, fun q => absurd c5 q⟩, fun q => absurd c4 q⟩⟩⟩⟩
        · skip
          replace r : A1 l Z n0 D h 0 0 258 #[.val (.ref a0_), .val (.int p1), .val (.int x2), .val (.int x3), .val (.int x4), .val (.int x5), .val (.int x6), sl7] [] := Own.icmpYes r d1_253 (flt c5).2.2.2 (by decide) (by decide)
          replace r : A1 l Z n0 D h 0 0 259 #[.val (.ref a0_), .val (.int p1), .val (.int x2), .val (.int x3), .val (.int x4), .val (.int x5), .val (.int x6), sl7] [(.int x3)] := Own.iloadN r d1_258 rfl
          exact ⟨_, _, (Own.Rch.retI r d1_259).more (by decide) (by decide), rfl, _, rfl, ⟨fun q => absurd q c1, fun _ => ⟨fun q => absurd q c2, fun _ => ⟨fun _ => ⟨fun q => absurd q c5, fun _ => rfl⟩, fun q => absurd c4 q⟩⟩⟩⟩
      · skip
        replace r : A1 l Z n0 D h 0 0 247 #[.val (.ref a0_), .val (.int p1), .val (.int x2), .val (.int x3), .val (.int x4), .val (.int x5), .val (.int x6), sl7] [] := Own.icmpNo r d1_244 (flt c4).2.2.1
        replace r : A1 l Z n0 D h 0 0 248 #[.val (.ref a0_), .val (.int p1), .val (.int x2), .val (.int x3), .val (.int x4), .val (.int x5), .val (.int x6), sl7] [(.int (0 : Int32))] := Own.iconst r d1_247 rfl
        exact ⟨_, _, (Own.Rch.retI r d1_248).more (by decide) (by decide), rfl, _, rfl, ⟨fun q => absurd q c1, fun _ => ⟨fun q => absurd q c2, fun _ => ⟨fun q => absurd q c4, fun _ => rfl⟩⟩⟩⟩
def S1_90 (p1 : Int32) (L : List Int32) (x2 : Int32) (x3 : Int32) (x4 : Int32) (x5 : Int32) (w : Int32) : Prop := ((((8 : Int32) - p1) < x3 → w = (0 : Int32)) ∧ (¬ (((8 : Int32) - p1) < x3) → ∃ v6_2 : Int32, v6_2 = ((Own.ga L (p1 + (1 : Int32))) &&& (255 : Int32)) ∧ (((v6_2 &&& (192 : Int32)) = (128 : Int32) → ∃ v4_4 : Int32, v4_4 = ((Own.ishlW x4 (6 : Int32)) ||| (v6_2 &&& (63 : Int32))) ∧ ((x3 < (3 : Int32) → ((x3 = (4 : Int32) → ∃ v7_7 : Int32, v7_7 = ((Own.ga L (p1 + (3 : Int32))) &&& (255 : Int32)) ∧ (((v7_7 &&& (192 : Int32)) = (128 : Int32) → ∃ v4_9 : Int32, v4_9 = ((Own.ishlW v4_4 (6 : Int32)) ||| (v7_7 &&& (63 : Int32))) ∧ S1_224 p1 L x2 x3 v4_9 x5 v6_2 w) ∧ (¬ ((v7_7 &&& (192 : Int32)) = (128 : Int32)) → w = (0 : Int32)))) ∧ (¬ (x3 = (4 : Int32)) → S1_224 p1 L x2 x3 v4_4 x5 v6_2 w))) ∧ (¬ (x3 < (3 : Int32)) → ∃ v7_10 : Int32, v7_10 = ((Own.ga L (p1 + (2 : Int32))) &&& (255 : Int32)) ∧ (((v7_10 &&& (192 : Int32)) = (128 : Int32) → ∃ v4_12 : Int32, v4_12 = ((Own.ishlW v4_4 (6 : Int32)) ||| (v7_10 &&& (63 : Int32))) ∧ ((x3 = (4 : Int32) → ∃ v7_14 : Int32, v7_14 = ((Own.ga L (p1 + (3 : Int32))) &&& (255 : Int32)) ∧ (((v7_14 &&& (192 : Int32)) = (128 : Int32) → ∃ v4_16 : Int32, v4_16 = ((Own.ishlW v4_12 (6 : Int32)) ||| (v7_14 &&& (63 : Int32))) ∧ S1_224 p1 L x2 x3 v4_16 x5 v6_2 w) ∧ (¬ ((v7_14 &&& (192 : Int32)) = (128 : Int32)) → w = (0 : Int32)))) ∧ (¬ (x3 = (4 : Int32)) → S1_224 p1 L x2 x3 v4_12 x5 v6_2 w))) ∧ (¬ ((v7_10 &&& (192 : Int32)) = (128 : Int32)) → w = (0 : Int32)))))) ∧ (¬ ((v6_2 &&& (192 : Int32)) = (128 : Int32)) → w = (0 : Int32)))))
set_option maxRecDepth 65536 in
set_option maxHeartbeats 40000000 in
theorem t1_90 (l : Launch) (Z : State) (a0 : Array Value) (hw : ∀ d ∈ tables_1, d.before a0 Z = true) (n0 : Nat) (h : Heap) (Zs : n0 ≤ h.size) (D : Own.Dyn) (a0_ : Addr) (p1 : Int32) (L : List Int32) (V_a0_ : Own.VA Z h a0_ .byte (L.map Value.int)) (hlen : L.length = 8) (h0 : 0 ≤ p1.toInt) (h7 : p1.toInt ≤ 7) (x2 : Int32) (x3 : Int32) (x4 : Int32) (x5 : Int32) (hx3 : x3 = (2 : Int32) ∨ x3 = (3 : Int32) ∨ x3 = (4 : Int32)) (r : A1 l Z n0 D h 0 0 90 #[.val (.ref a0_), .val (.int p1), .val (.int x2), .val (.int x3), .val (.int x4), .val (.int x5), .unset, .unset] []) :
    ∃ v h', Own.Don l Z n0 R1 D h' R1.cells R1.slots v ∧ h = h' ∧ ∃ w : Int32, v = some (.int w) ∧ S1_90 p1 L x2 x3 x4 x5 w := by
  replace r : A1 l Z n0 D h 0 0 91 #[.val (.ref a0_), .val (.int p1), .val (.int x2), .val (.int x3), .val (.int x4), .val (.int x5), .unset, .unset] [(.ref a0_)] := Own.aloadN r d1_90 rfl rfl
  replace r : A1 l Z n0 D h 0 0 92 #[.val (.ref a0_), .val (.int p1), .val (.int x2), .val (.int x3), .val (.int x4), .val (.int x5), .unset, .unset] [(.int (8 : Int32))] := Own.arrlen r d1_91 V_a0_ (by rw [List.length_map, hlen]; rfl)
  replace r : A1 l Z n0 D h 0 0 93 #[.val (.ref a0_), .val (.int p1), .val (.int x2), .val (.int x3), .val (.int x4), .val (.int x5), .unset, .unset] [(.int p1), (.int (8 : Int32))] := Own.iloadN r d1_92 rfl
  replace r : A1 l Z n0 D h 0 0 94 #[.val (.ref a0_), .val (.int p1), .val (.int x2), .val (.int x3), .val (.int x4), .val (.int x5), .unset, .unset] [(.int ((8 : Int32) - p1))] := Own.isub r d1_93
  replace r : A1 l Z n0 D h 0 0 95 #[.val (.ref a0_), .val (.int p1), .val (.int x2), .val (.int x3), .val (.int x4), .val (.int x5), .unset, .unset] [(.int x3), (.int ((8 : Int32) - p1))] := Own.iloadN r d1_94 rfl
  by_cases c1 : ((8 : Int32) - p1) < x3
  · skip
    replace r : A1 l Z n0 D h 0 0 98 #[.val (.ref a0_), .val (.int p1), .val (.int x2), .val (.int x3), .val (.int x4), .val (.int x5), .unset, .unset] [] := Own.icmpNo r d1_95 (tlt c1).2.1
    replace r : A1 l Z n0 D h 0 0 99 #[.val (.ref a0_), .val (.int p1), .val (.int x2), .val (.int x3), .val (.int x4), .val (.int x5), .unset, .unset] [(.int (0 : Int32))] := Own.iconst r d1_98 rfl
    exact ⟨_, _, (Own.Rch.retI r d1_99).more (by decide) (by decide), rfl, _, rfl, ⟨fun _ => rfl, fun q => absurd c1 q⟩⟩
  · skip
    replace r : A1 l Z n0 D h 0 0 100 #[.val (.ref a0_), .val (.int p1), .val (.int x2), .val (.int x3), .val (.int x4), .val (.int x5), .unset, .unset] [] := Own.icmpYes r d1_95 (flt c1).2.1 (by decide) (by decide)
    replace r : A1 l Z n0 D h 0 0 101 #[.val (.ref a0_), .val (.int p1), .val (.int x2), .val (.int x3), .val (.int x4), .val (.int x5), .unset, .unset] [(.ref a0_)] := Own.aloadN r d1_100 rfl rfl
    replace r : A1 l Z n0 D h 0 0 102 #[.val (.ref a0_), .val (.int p1), .val (.int x2), .val (.int x3), .val (.int x4), .val (.int x5), .unset, .unset] [(.int p1), (.ref a0_)] := Own.iloadN r d1_101 rfl
    replace r : A1 l Z n0 D h 0 0 103 #[.val (.ref a0_), .val (.int p1), .val (.int x2), .val (.int x3), .val (.int x4), .val (.int x5), .unset, .unset] [(.int (1 : Int32)), (.int p1), (.ref a0_)] := Own.iconst r d1_102 rfl
    replace r : A1 l Z n0 D h 0 0 104 #[.val (.ref a0_), .val (.int p1), .val (.int x2), .val (.int x3), .val (.int x4), .val (.int x5), .unset, .unset] [(.int (p1 + (1 : Int32))), (.ref a0_)] := Own.iadd r d1_103
    replace r : A1 l Z n0 D h 0 0 105 #[.val (.ref a0_), .val (.int p1), .val (.int x2), .val (.int x3), .val (.int x4), .val (.int x5), .unset, .unset] [(.int (Own.ga L (p1 + (1 : Int32))))] := Own.baload r d1_104 V_a0_ (own_ld1 hlen h0 h7 hx3 (by assumption)).1 (own_ld1 hlen h0 h7 hx3 (by assumption)).2
    replace r : A1 l Z n0 D h 0 0 108 #[.val (.ref a0_), .val (.int p1), .val (.int x2), .val (.int x3), .val (.int x4), .val (.int x5), .unset, .unset] [(.int (255 : Int32)), (.int (Own.ga L (p1 + (1 : Int32))))] := Own.sipush r d1_105 rfl
    replace r : A1 l Z n0 D h 0 0 109 #[.val (.ref a0_), .val (.int p1), .val (.int x2), .val (.int x3), .val (.int x4), .val (.int x5), .unset, .unset] [(.int ((Own.ga L (p1 + (1 : Int32))) &&& (255 : Int32)))] := Own.iand r d1_108
    obtain ⟨v6_2, e_v6_2⟩ : ∃ z : Int32, z = ((Own.ga L (p1 + (1 : Int32))) &&& (255 : Int32)) := ⟨_, rfl⟩
    replace r : A1 l Z n0 D h 0 0 109 #[.val (.ref a0_), .val (.int p1), .val (.int x2), .val (.int x3), .val (.int x4), .val (.int x5), .unset, .unset] [(.int v6_2)] := by rw [e_v6_2]; exact r
    replace r : A1 l Z n0 D h 0 0 111 #[.val (.ref a0_), .val (.int p1), .val (.int x2), .val (.int x3), .val (.int x4), .val (.int x5), .val (.int v6_2), .unset] [] := Own.istore r d1_109 rfl
    replace r : A1 l Z n0 D h 0 0 113 #[.val (.ref a0_), .val (.int p1), .val (.int x2), .val (.int x3), .val (.int x4), .val (.int x5), .val (.int v6_2), .unset] [(.int v6_2)] := Own.iload r d1_111 rfl
    replace r : A1 l Z n0 D h 0 0 116 #[.val (.ref a0_), .val (.int p1), .val (.int x2), .val (.int x3), .val (.int x4), .val (.int x5), .val (.int v6_2), .unset] [(.int (192 : Int32)), (.int v6_2)] := Own.sipush r d1_113 rfl
    replace r : A1 l Z n0 D h 0 0 117 #[.val (.ref a0_), .val (.int p1), .val (.int x2), .val (.int x3), .val (.int x4), .val (.int x5), .val (.int v6_2), .unset] [(.int (v6_2 &&& (192 : Int32)))] := Own.iand r d1_116
    replace r : A1 l Z n0 D h 0 0 120 #[.val (.ref a0_), .val (.int p1), .val (.int x2), .val (.int x3), .val (.int x4), .val (.int x5), .val (.int v6_2), .unset] [(.int (128 : Int32)), (.int (v6_2 &&& (192 : Int32)))] := Own.sipush r d1_117 rfl
    by_cases c3 : (v6_2 &&& (192 : Int32)) = (128 : Int32)
    · skip
      replace r : A1 l Z n0 D h 0 0 125 #[.val (.ref a0_), .val (.int p1), .val (.int x2), .val (.int x3), .val (.int x4), .val (.int x5), .val (.int v6_2), .unset] [] := Own.icmpYes r d1_120 (teq c3).1 (by decide) (by decide)
      replace r : A1 l Z n0 D h 0 0 127 #[.val (.ref a0_), .val (.int p1), .val (.int x2), .val (.int x3), .val (.int x4), .val (.int x5), .val (.int v6_2), .unset] [(.int x4)] := Own.iload r d1_125 rfl
      replace r : A1 l Z n0 D h 0 0 129 #[.val (.ref a0_), .val (.int p1), .val (.int x2), .val (.int x3), .val (.int x4), .val (.int x5), .val (.int v6_2), .unset] [(.int (6 : Int32)), (.int x4)] := Own.bipush r d1_127 rfl
      replace r : A1 l Z n0 D h 0 0 130 #[.val (.ref a0_), .val (.int p1), .val (.int x2), .val (.int x3), .val (.int x4), .val (.int x5), .val (.int v6_2), .unset] [(.int (Own.ishlW x4 (6 : Int32)))] := Own.ishl r d1_129
      replace r : A1 l Z n0 D h 0 0 132 #[.val (.ref a0_), .val (.int p1), .val (.int x2), .val (.int x3), .val (.int x4), .val (.int x5), .val (.int v6_2), .unset] [(.int v6_2), (.int (Own.ishlW x4 (6 : Int32)))] := Own.iload r d1_130 rfl
      replace r : A1 l Z n0 D h 0 0 134 #[.val (.ref a0_), .val (.int p1), .val (.int x2), .val (.int x3), .val (.int x4), .val (.int x5), .val (.int v6_2), .unset] [(.int (63 : Int32)), (.int v6_2), (.int (Own.ishlW x4 (6 : Int32)))] := Own.bipush r d1_132 rfl
      replace r : A1 l Z n0 D h 0 0 135 #[.val (.ref a0_), .val (.int p1), .val (.int x2), .val (.int x3), .val (.int x4), .val (.int x5), .val (.int v6_2), .unset] [(.int (v6_2 &&& (63 : Int32))), (.int (Own.ishlW x4 (6 : Int32)))] := Own.iand r d1_134
      replace r : A1 l Z n0 D h 0 0 136 #[.val (.ref a0_), .val (.int p1), .val (.int x2), .val (.int x3), .val (.int x4), .val (.int x5), .val (.int v6_2), .unset] [(.int ((Own.ishlW x4 (6 : Int32)) ||| (v6_2 &&& (63 : Int32))))] := Own.ior r d1_135
      obtain ⟨v4_4, e_v4_4⟩ : ∃ z : Int32, z = ((Own.ishlW x4 (6 : Int32)) ||| (v6_2 &&& (63 : Int32))) := ⟨_, rfl⟩
      replace r : A1 l Z n0 D h 0 0 136 #[.val (.ref a0_), .val (.int p1), .val (.int x2), .val (.int x3), .val (.int x4), .val (.int x5), .val (.int v6_2), .unset] [(.int v4_4)] := by rw [e_v4_4]; exact r
      replace r : A1 l Z n0 D h 0 0 138 #[.val (.ref a0_), .val (.int p1), .val (.int x2), .val (.int x3), .val (.int v4_4), .val (.int x5), .val (.int v6_2), .unset] [] := Own.istore r d1_136 rfl
      replace r : A1 l Z n0 D h 0 0 139 #[.val (.ref a0_), .val (.int p1), .val (.int x2), .val (.int x3), .val (.int v4_4), .val (.int x5), .val (.int v6_2), .unset] [(.int x3)] := Own.iloadN r d1_138 rfl
      replace r : A1 l Z n0 D h 0 0 140 #[.val (.ref a0_), .val (.int p1), .val (.int x2), .val (.int x3), .val (.int v4_4), .val (.int x5), .val (.int v6_2), .unset] [(.int (3 : Int32)), (.int x3)] := Own.iconst r d1_139 rfl
      by_cases c5 : x3 < (3 : Int32)
      · skip
        replace r : A1 l Z n0 D h 0 0 181 #[.val (.ref a0_), .val (.int p1), .val (.int x2), .val (.int x3), .val (.int v4_4), .val (.int x5), .val (.int v6_2), .unset] [] := Own.icmpYes r d1_140 (tlt c5).1 (by decide) (by decide)
        replace r : A1 l Z n0 D h 0 0 182 #[.val (.ref a0_), .val (.int p1), .val (.int x2), .val (.int x3), .val (.int v4_4), .val (.int x5), .val (.int v6_2), .unset] [(.int x3)] := Own.iloadN r d1_181 rfl
        replace r : A1 l Z n0 D h 0 0 183 #[.val (.ref a0_), .val (.int p1), .val (.int x2), .val (.int x3), .val (.int v4_4), .val (.int x5), .val (.int v6_2), .unset] [(.int (4 : Int32)), (.int x3)] := Own.iconst r d1_182 rfl
        by_cases c6 : x3 = (4 : Int32)
        · skip
          replace r : A1 l Z n0 D h 0 0 186 #[.val (.ref a0_), .val (.int p1), .val (.int x2), .val (.int x3), .val (.int v4_4), .val (.int x5), .val (.int v6_2), .unset] [] := Own.icmpNo r d1_183 (teq c6).2
          replace r : A1 l Z n0 D h 0 0 187 #[.val (.ref a0_), .val (.int p1), .val (.int x2), .val (.int x3), .val (.int v4_4), .val (.int x5), .val (.int v6_2), .unset] [(.ref a0_)] := Own.aloadN r d1_186 rfl rfl
          replace r : A1 l Z n0 D h 0 0 188 #[.val (.ref a0_), .val (.int p1), .val (.int x2), .val (.int x3), .val (.int v4_4), .val (.int x5), .val (.int v6_2), .unset] [(.int p1), (.ref a0_)] := Own.iloadN r d1_187 rfl
          replace r : A1 l Z n0 D h 0 0 189 #[.val (.ref a0_), .val (.int p1), .val (.int x2), .val (.int x3), .val (.int v4_4), .val (.int x5), .val (.int v6_2), .unset] [(.int (3 : Int32)), (.int p1), (.ref a0_)] := Own.iconst r d1_188 rfl
          replace r : A1 l Z n0 D h 0 0 190 #[.val (.ref a0_), .val (.int p1), .val (.int x2), .val (.int x3), .val (.int v4_4), .val (.int x5), .val (.int v6_2), .unset] [(.int (p1 + (3 : Int32))), (.ref a0_)] := Own.iadd r d1_189
          replace r : A1 l Z n0 D h 0 0 191 #[.val (.ref a0_), .val (.int p1), .val (.int x2), .val (.int x3), .val (.int v4_4), .val (.int x5), .val (.int v6_2), .unset] [(.int (Own.ga L (p1 + (3 : Int32))))] := Own.baload r d1_190 V_a0_ (own_ld3 hlen h0 h7 hx3 (by assumption) (by assumption)).1 (own_ld3 hlen h0 h7 hx3 (by assumption) (by assumption)).2
          replace r : A1 l Z n0 D h 0 0 194 #[.val (.ref a0_), .val (.int p1), .val (.int x2), .val (.int x3), .val (.int v4_4), .val (.int x5), .val (.int v6_2), .unset] [(.int (255 : Int32)), (.int (Own.ga L (p1 + (3 : Int32))))] := Own.sipush r d1_191 rfl
          replace r : A1 l Z n0 D h 0 0 195 #[.val (.ref a0_), .val (.int p1), .val (.int x2), .val (.int x3), .val (.int v4_4), .val (.int x5), .val (.int v6_2), .unset] [(.int ((Own.ga L (p1 + (3 : Int32))) &&& (255 : Int32)))] := Own.iand r d1_194
          obtain ⟨v7_7, e_v7_7⟩ : ∃ z : Int32, z = ((Own.ga L (p1 + (3 : Int32))) &&& (255 : Int32)) := ⟨_, rfl⟩
          replace r : A1 l Z n0 D h 0 0 195 #[.val (.ref a0_), .val (.int p1), .val (.int x2), .val (.int x3), .val (.int v4_4), .val (.int x5), .val (.int v6_2), .unset] [(.int v7_7)] := by rw [e_v7_7]; exact r
          replace r : A1 l Z n0 D h 0 0 197 #[.val (.ref a0_), .val (.int p1), .val (.int x2), .val (.int x3), .val (.int v4_4), .val (.int x5), .val (.int v6_2), .val (.int v7_7)] [] := Own.istore r d1_195 rfl
          replace r : A1 l Z n0 D h 0 0 199 #[.val (.ref a0_), .val (.int p1), .val (.int x2), .val (.int x3), .val (.int v4_4), .val (.int x5), .val (.int v6_2), .val (.int v7_7)] [(.int v7_7)] := Own.iload r d1_197 rfl
          replace r : A1 l Z n0 D h 0 0 202 #[.val (.ref a0_), .val (.int p1), .val (.int x2), .val (.int x3), .val (.int v4_4), .val (.int x5), .val (.int v6_2), .val (.int v7_7)] [(.int (192 : Int32)), (.int v7_7)] := Own.sipush r d1_199 rfl
          replace r : A1 l Z n0 D h 0 0 203 #[.val (.ref a0_), .val (.int p1), .val (.int x2), .val (.int x3), .val (.int v4_4), .val (.int x5), .val (.int v6_2), .val (.int v7_7)] [(.int (v7_7 &&& (192 : Int32)))] := Own.iand r d1_202
          replace r : A1 l Z n0 D h 0 0 206 #[.val (.ref a0_), .val (.int p1), .val (.int x2), .val (.int x3), .val (.int v4_4), .val (.int x5), .val (.int v6_2), .val (.int v7_7)] [(.int (128 : Int32)), (.int (v7_7 &&& (192 : Int32)))] := Own.sipush r d1_203 rfl
          by_cases c8 : (v7_7 &&& (192 : Int32)) = (128 : Int32)
          · skip
            replace r : A1 l Z n0 D h 0 0 211 #[.val (.ref a0_), .val (.int p1), .val (.int x2), .val (.int x3), .val (.int v4_4), .val (.int x5), .val (.int v6_2), .val (.int v7_7)] [] := Own.icmpYes r d1_206 (teq c8).1 (by decide) (by decide)
            replace r : A1 l Z n0 D h 0 0 213 #[.val (.ref a0_), .val (.int p1), .val (.int x2), .val (.int x3), .val (.int v4_4), .val (.int x5), .val (.int v6_2), .val (.int v7_7)] [(.int v4_4)] := Own.iload r d1_211 rfl
            replace r : A1 l Z n0 D h 0 0 215 #[.val (.ref a0_), .val (.int p1), .val (.int x2), .val (.int x3), .val (.int v4_4), .val (.int x5), .val (.int v6_2), .val (.int v7_7)] [(.int (6 : Int32)), (.int v4_4)] := Own.bipush r d1_213 rfl
            replace r : A1 l Z n0 D h 0 0 216 #[.val (.ref a0_), .val (.int p1), .val (.int x2), .val (.int x3), .val (.int v4_4), .val (.int x5), .val (.int v6_2), .val (.int v7_7)] [(.int (Own.ishlW v4_4 (6 : Int32)))] := Own.ishl r d1_215
            replace r : A1 l Z n0 D h 0 0 218 #[.val (.ref a0_), .val (.int p1), .val (.int x2), .val (.int x3), .val (.int v4_4), .val (.int x5), .val (.int v6_2), .val (.int v7_7)] [(.int v7_7), (.int (Own.ishlW v4_4 (6 : Int32)))] := Own.iload r d1_216 rfl
            replace r : A1 l Z n0 D h 0 0 220 #[.val (.ref a0_), .val (.int p1), .val (.int x2), .val (.int x3), .val (.int v4_4), .val (.int x5), .val (.int v6_2), .val (.int v7_7)] [(.int (63 : Int32)), (.int v7_7), (.int (Own.ishlW v4_4 (6 : Int32)))] := Own.bipush r d1_218 rfl
            replace r : A1 l Z n0 D h 0 0 221 #[.val (.ref a0_), .val (.int p1), .val (.int x2), .val (.int x3), .val (.int v4_4), .val (.int x5), .val (.int v6_2), .val (.int v7_7)] [(.int (v7_7 &&& (63 : Int32))), (.int (Own.ishlW v4_4 (6 : Int32)))] := Own.iand r d1_220
            replace r : A1 l Z n0 D h 0 0 222 #[.val (.ref a0_), .val (.int p1), .val (.int x2), .val (.int x3), .val (.int v4_4), .val (.int x5), .val (.int v6_2), .val (.int v7_7)] [(.int ((Own.ishlW v4_4 (6 : Int32)) ||| (v7_7 &&& (63 : Int32))))] := Own.ior r d1_221
            obtain ⟨v4_9, e_v4_9⟩ : ∃ z : Int32, z = ((Own.ishlW v4_4 (6 : Int32)) ||| (v7_7 &&& (63 : Int32))) := ⟨_, rfl⟩
            replace r : A1 l Z n0 D h 0 0 222 #[.val (.ref a0_), .val (.int p1), .val (.int x2), .val (.int x3), .val (.int v4_4), .val (.int x5), .val (.int v6_2), .val (.int v7_7)] [(.int v4_9)] := by rw [e_v4_9]; exact r
            replace r : A1 l Z n0 D h 0 0 224 #[.val (.ref a0_), .val (.int p1), .val (.int x2), .val (.int x3), .val (.int v4_9), .val (.int x5), .val (.int v6_2), .val (.int v7_7)] [] := Own.istore r d1_222 rfl
            obtain ⟨_, _, hd, e1, w, e2, hS⟩ := t1_224 l Z a0 hw n0 h Zs D a0_ p1 L V_a0_ hlen h0 h7 x2 x3 v4_9 x5 v6_2 (.val (.int v7_7))  r
            exact ⟨_, _, hd, e1, w, e2, ⟨fun q => absurd q c1, fun _ => ⟨v6_2, e_v6_2, ⟨fun _ => ⟨v4_4, e_v4_4, ⟨fun _ => ⟨fun _ => ⟨v7_7, e_v7_7, ⟨fun _ => ⟨v4_9, e_v4_9, hS⟩, fun q => absurd c8 q⟩⟩, fun q => absurd c6 q⟩, fun q => absurd c5 q⟩⟩, fun q => absurd c3 q⟩⟩⟩⟩
          · skip
            replace r : A1 l Z n0 D h 0 0 209 #[.val (.ref a0_), .val (.int p1), .val (.int x2), .val (.int x3), .val (.int v4_4), .val (.int x5), .val (.int v6_2), .val (.int v7_7)] [] := Own.icmpNo r d1_206 (feq c8).1
            replace r : A1 l Z n0 D h 0 0 210 #[.val (.ref a0_), .val (.int p1), .val (.int x2), .val (.int x3), .val (.int v4_4), .val (.int x5), .val (.int v6_2), .val (.int v7_7)] [(.int (0 : Int32))] := Own.iconst r d1_209 rfl
            exact ⟨_, _, (Own.Rch.retI r d1_210).more (by decide) (by decide), rfl, _, rfl, ⟨fun q => absurd q c1, fun _ => ⟨v6_2, e_v6_2, ⟨fun _ => ⟨v4_4, e_v4_4, ⟨fun _ => ⟨fun _ => ⟨v7_7, e_v7_7, ⟨fun q => absurd q c8, fun _ => rfl⟩⟩, fun q => absurd c6 q⟩, fun q => absurd c5 q⟩⟩, fun q => absurd c3 q⟩⟩⟩⟩
        · skip
          replace r : A1 l Z n0 D h 0 0 224 #[.val (.ref a0_), .val (.int p1), .val (.int x2), .val (.int x3), .val (.int v4_4), .val (.int x5), .val (.int v6_2), .unset] [] := Own.icmpYes r d1_183 (feq c6).2 (by decide) (by decide)
          obtain ⟨_, _, hd, e1, w, e2, hS⟩ := t1_224 l Z a0 hw n0 h Zs D a0_ p1 L V_a0_ hlen h0 h7 x2 x3 v4_4 x5 v6_2 (.unset)  r
          exact ⟨_, _, hd, e1, w, e2, ⟨fun q => absurd q c1, fun _ => ⟨v6_2, e_v6_2, ⟨fun _ => ⟨v4_4, e_v4_4, ⟨fun _ => ⟨fun q => absurd q c6, fun _ => hS⟩, fun q => absurd c5 q⟩⟩, fun q => absurd c3 q⟩⟩⟩⟩
      · skip
        replace r : A1 l Z n0 D h 0 0 143 #[.val (.ref a0_), .val (.int p1), .val (.int x2), .val (.int x3), .val (.int v4_4), .val (.int x5), .val (.int v6_2), .unset] [] := Own.icmpNo r d1_140 (flt c5).1
        replace r : A1 l Z n0 D h 0 0 144 #[.val (.ref a0_), .val (.int p1), .val (.int x2), .val (.int x3), .val (.int v4_4), .val (.int x5), .val (.int v6_2), .unset] [(.ref a0_)] := Own.aloadN r d1_143 rfl rfl
        replace r : A1 l Z n0 D h 0 0 145 #[.val (.ref a0_), .val (.int p1), .val (.int x2), .val (.int x3), .val (.int v4_4), .val (.int x5), .val (.int v6_2), .unset] [(.int p1), (.ref a0_)] := Own.iloadN r d1_144 rfl
        replace r : A1 l Z n0 D h 0 0 146 #[.val (.ref a0_), .val (.int p1), .val (.int x2), .val (.int x3), .val (.int v4_4), .val (.int x5), .val (.int v6_2), .unset] [(.int (2 : Int32)), (.int p1), (.ref a0_)] := Own.iconst r d1_145 rfl
        replace r : A1 l Z n0 D h 0 0 147 #[.val (.ref a0_), .val (.int p1), .val (.int x2), .val (.int x3), .val (.int v4_4), .val (.int x5), .val (.int v6_2), .unset] [(.int (p1 + (2 : Int32))), (.ref a0_)] := Own.iadd r d1_146
        replace r : A1 l Z n0 D h 0 0 148 #[.val (.ref a0_), .val (.int p1), .val (.int x2), .val (.int x3), .val (.int v4_4), .val (.int x5), .val (.int v6_2), .unset] [(.int (Own.ga L (p1 + (2 : Int32))))] := Own.baload r d1_147 V_a0_ (own_ld2 hlen h0 h7 hx3 (by assumption) (by assumption)).1 (own_ld2 hlen h0 h7 hx3 (by assumption) (by assumption)).2
        replace r : A1 l Z n0 D h 0 0 151 #[.val (.ref a0_), .val (.int p1), .val (.int x2), .val (.int x3), .val (.int v4_4), .val (.int x5), .val (.int v6_2), .unset] [(.int (255 : Int32)), (.int (Own.ga L (p1 + (2 : Int32))))] := Own.sipush r d1_148 rfl
        replace r : A1 l Z n0 D h 0 0 152 #[.val (.ref a0_), .val (.int p1), .val (.int x2), .val (.int x3), .val (.int v4_4), .val (.int x5), .val (.int v6_2), .unset] [(.int ((Own.ga L (p1 + (2 : Int32))) &&& (255 : Int32)))] := Own.iand r d1_151
        obtain ⟨v7_10, e_v7_10⟩ : ∃ z : Int32, z = ((Own.ga L (p1 + (2 : Int32))) &&& (255 : Int32)) := ⟨_, rfl⟩
        replace r : A1 l Z n0 D h 0 0 152 #[.val (.ref a0_), .val (.int p1), .val (.int x2), .val (.int x3), .val (.int v4_4), .val (.int x5), .val (.int v6_2), .unset] [(.int v7_10)] := by rw [e_v7_10]; exact r
        replace r : A1 l Z n0 D h 0 0 154 #[.val (.ref a0_), .val (.int p1), .val (.int x2), .val (.int x3), .val (.int v4_4), .val (.int x5), .val (.int v6_2), .val (.int v7_10)] [] := Own.istore r d1_152 rfl
        replace r : A1 l Z n0 D h 0 0 156 #[.val (.ref a0_), .val (.int p1), .val (.int x2), .val (.int x3), .val (.int v4_4), .val (.int x5), .val (.int v6_2), .val (.int v7_10)] [(.int v7_10)] := Own.iload r d1_154 rfl
        replace r : A1 l Z n0 D h 0 0 159 #[.val (.ref a0_), .val (.int p1), .val (.int x2), .val (.int x3), .val (.int v4_4), .val (.int x5), .val (.int v6_2), .val (.int v7_10)] [(.int (192 : Int32)), (.int v7_10)] := Own.sipush r d1_156 rfl
        replace r : A1 l Z n0 D h 0 0 160 #[.val (.ref a0_), .val (.int p1), .val (.int x2), .val (.int x3), .val (.int v4_4), .val (.int x5), .val (.int v6_2), .val (.int v7_10)] [(.int (v7_10 &&& (192 : Int32)))] := Own.iand r d1_159
        replace r : A1 l Z n0 D h 0 0 163 #[.val (.ref a0_), .val (.int p1), .val (.int x2), .val (.int x3), .val (.int v4_4), .val (.int x5), .val (.int v6_2), .val (.int v7_10)] [(.int (128 : Int32)), (.int (v7_10 &&& (192 : Int32)))] := Own.sipush r d1_160 rfl
        by_cases c11 : (v7_10 &&& (192 : Int32)) = (128 : Int32)
        · skip
          replace r : A1 l Z n0 D h 0 0 168 #[.val (.ref a0_), .val (.int p1), .val (.int x2), .val (.int x3), .val (.int v4_4), .val (.int x5), .val (.int v6_2), .val (.int v7_10)] [] := Own.icmpYes r d1_163 (teq c11).1 (by decide) (by decide)
          replace r : A1 l Z n0 D h 0 0 170 #[.val (.ref a0_), .val (.int p1), .val (.int x2), .val (.int x3), .val (.int v4_4), .val (.int x5), .val (.int v6_2), .val (.int v7_10)] [(.int v4_4)] := Own.iload r d1_168 rfl
          replace r : A1 l Z n0 D h 0 0 172 #[.val (.ref a0_), .val (.int p1), .val (.int x2), .val (.int x3), .val (.int v4_4), .val (.int x5), .val (.int v6_2), .val (.int v7_10)] [(.int (6 : Int32)), (.int v4_4)] := Own.bipush r d1_170 rfl
          replace r : A1 l Z n0 D h 0 0 173 #[.val (.ref a0_), .val (.int p1), .val (.int x2), .val (.int x3), .val (.int v4_4), .val (.int x5), .val (.int v6_2), .val (.int v7_10)] [(.int (Own.ishlW v4_4 (6 : Int32)))] := Own.ishl r d1_172
          replace r : A1 l Z n0 D h 0 0 175 #[.val (.ref a0_), .val (.int p1), .val (.int x2), .val (.int x3), .val (.int v4_4), .val (.int x5), .val (.int v6_2), .val (.int v7_10)] [(.int v7_10), (.int (Own.ishlW v4_4 (6 : Int32)))] := Own.iload r d1_173 rfl
          replace r : A1 l Z n0 D h 0 0 177 #[.val (.ref a0_), .val (.int p1), .val (.int x2), .val (.int x3), .val (.int v4_4), .val (.int x5), .val (.int v6_2), .val (.int v7_10)] [(.int (63 : Int32)), (.int v7_10), (.int (Own.ishlW v4_4 (6 : Int32)))] := Own.bipush r d1_175 rfl
          replace r : A1 l Z n0 D h 0 0 178 #[.val (.ref a0_), .val (.int p1), .val (.int x2), .val (.int x3), .val (.int v4_4), .val (.int x5), .val (.int v6_2), .val (.int v7_10)] [(.int (v7_10 &&& (63 : Int32))), (.int (Own.ishlW v4_4 (6 : Int32)))] := Own.iand r d1_177
          replace r : A1 l Z n0 D h 0 0 179 #[.val (.ref a0_), .val (.int p1), .val (.int x2), .val (.int x3), .val (.int v4_4), .val (.int x5), .val (.int v6_2), .val (.int v7_10)] [(.int ((Own.ishlW v4_4 (6 : Int32)) ||| (v7_10 &&& (63 : Int32))))] := Own.ior r d1_178
          obtain ⟨v4_12, e_v4_12⟩ : ∃ z : Int32, z = ((Own.ishlW v4_4 (6 : Int32)) ||| (v7_10 &&& (63 : Int32))) := ⟨_, rfl⟩
          replace r : A1 l Z n0 D h 0 0 179 #[.val (.ref a0_), .val (.int p1), .val (.int x2), .val (.int x3), .val (.int v4_4), .val (.int x5), .val (.int v6_2), .val (.int v7_10)] [(.int v4_12)] := by rw [e_v4_12]; exact r
          replace r : A1 l Z n0 D h 0 0 181 #[.val (.ref a0_), .val (.int p1), .val (.int x2), .val (.int x3), .val (.int v4_12), .val (.int x5), .val (.int v6_2), .val (.int v7_10)] [] := Own.istore r d1_179 rfl
          replace r : A1 l Z n0 D h 0 0 182 #[.val (.ref a0_), .val (.int p1), .val (.int x2), .val (.int x3), .val (.int v4_12), .val (.int x5), .val (.int v6_2), .val (.int v7_10)] [(.int x3)] := Own.iloadN r d1_181 rfl
          replace r : A1 l Z n0 D h 0 0 183 #[.val (.ref a0_), .val (.int p1), .val (.int x2), .val (.int x3), .val (.int v4_12), .val (.int x5), .val (.int v6_2), .val (.int v7_10)] [(.int (4 : Int32)), (.int x3)] := Own.iconst r d1_182 rfl
          by_cases c13 : x3 = (4 : Int32)
          · skip
            replace r : A1 l Z n0 D h 0 0 186 #[.val (.ref a0_), .val (.int p1), .val (.int x2), .val (.int x3), .val (.int v4_12), .val (.int x5), .val (.int v6_2), .val (.int v7_10)] [] := Own.icmpNo r d1_183 (teq c13).2
            replace r : A1 l Z n0 D h 0 0 187 #[.val (.ref a0_), .val (.int p1), .val (.int x2), .val (.int x3), .val (.int v4_12), .val (.int x5), .val (.int v6_2), .val (.int v7_10)] [(.ref a0_)] := Own.aloadN r d1_186 rfl rfl
            replace r : A1 l Z n0 D h 0 0 188 #[.val (.ref a0_), .val (.int p1), .val (.int x2), .val (.int x3), .val (.int v4_12), .val (.int x5), .val (.int v6_2), .val (.int v7_10)] [(.int p1), (.ref a0_)] := Own.iloadN r d1_187 rfl
            replace r : A1 l Z n0 D h 0 0 189 #[.val (.ref a0_), .val (.int p1), .val (.int x2), .val (.int x3), .val (.int v4_12), .val (.int x5), .val (.int v6_2), .val (.int v7_10)] [(.int (3 : Int32)), (.int p1), (.ref a0_)] := Own.iconst r d1_188 rfl
            replace r : A1 l Z n0 D h 0 0 190 #[.val (.ref a0_), .val (.int p1), .val (.int x2), .val (.int x3), .val (.int v4_12), .val (.int x5), .val (.int v6_2), .val (.int v7_10)] [(.int (p1 + (3 : Int32))), (.ref a0_)] := Own.iadd r d1_189
            replace r : A1 l Z n0 D h 0 0 191 #[.val (.ref a0_), .val (.int p1), .val (.int x2), .val (.int x3), .val (.int v4_12), .val (.int x5), .val (.int v6_2), .val (.int v7_10)] [(.int (Own.ga L (p1 + (3 : Int32))))] := Own.baload r d1_190 V_a0_ (own_ld3 hlen h0 h7 hx3 (by assumption) (by assumption)).1 (own_ld3 hlen h0 h7 hx3 (by assumption) (by assumption)).2
            replace r : A1 l Z n0 D h 0 0 194 #[.val (.ref a0_), .val (.int p1), .val (.int x2), .val (.int x3), .val (.int v4_12), .val (.int x5), .val (.int v6_2), .val (.int v7_10)] [(.int (255 : Int32)), (.int (Own.ga L (p1 + (3 : Int32))))] := Own.sipush r d1_191 rfl
            replace r : A1 l Z n0 D h 0 0 195 #[.val (.ref a0_), .val (.int p1), .val (.int x2), .val (.int x3), .val (.int v4_12), .val (.int x5), .val (.int v6_2), .val (.int v7_10)] [(.int ((Own.ga L (p1 + (3 : Int32))) &&& (255 : Int32)))] := Own.iand r d1_194
            obtain ⟨v7_14, e_v7_14⟩ : ∃ z : Int32, z = ((Own.ga L (p1 + (3 : Int32))) &&& (255 : Int32)) := ⟨_, rfl⟩
            replace r : A1 l Z n0 D h 0 0 195 #[.val (.ref a0_), .val (.int p1), .val (.int x2), .val (.int x3), .val (.int v4_12), .val (.int x5), .val (.int v6_2), .val (.int v7_10)] [(.int v7_14)] := by rw [e_v7_14]; exact r
            replace r : A1 l Z n0 D h 0 0 197 #[.val (.ref a0_), .val (.int p1), .val (.int x2), .val (.int x3), .val (.int v4_12), .val (.int x5), .val (.int v6_2), .val (.int v7_14)] [] := Own.istore r d1_195 rfl
            replace r : A1 l Z n0 D h 0 0 199 #[.val (.ref a0_), .val (.int p1), .val (.int x2), .val (.int x3), .val (.int v4_12), .val (.int x5), .val (.int v6_2), .val (.int v7_14)] [(.int v7_14)] := Own.iload r d1_197 rfl
            replace r : A1 l Z n0 D h 0 0 202 #[.val (.ref a0_), .val (.int p1), .val (.int x2), .val (.int x3), .val (.int v4_12), .val (.int x5), .val (.int v6_2), .val (.int v7_14)] [(.int (192 : Int32)), (.int v7_14)] := Own.sipush r d1_199 rfl
            replace r : A1 l Z n0 D h 0 0 203 #[.val (.ref a0_), .val (.int p1), .val (.int x2), .val (.int x3), .val (.int v4_12), .val (.int x5), .val (.int v6_2), .val (.int v7_14)] [(.int (v7_14 &&& (192 : Int32)))] := Own.iand r d1_202
            replace r : A1 l Z n0 D h 0 0 206 #[.val (.ref a0_), .val (.int p1), .val (.int x2), .val (.int x3), .val (.int v4_12), .val (.int x5), .val (.int v6_2), .val (.int v7_14)] [(.int (128 : Int32)), (.int (v7_14 &&& (192 : Int32)))] := Own.sipush r d1_203 rfl
            by_cases c15 : (v7_14 &&& (192 : Int32)) = (128 : Int32)
            · skip
              replace r : A1 l Z n0 D h 0 0 211 #[.val (.ref a0_), .val (.int p1), .val (.int x2), .val (.int x3), .val (.int v4_12), .val (.int x5), .val (.int v6_2), .val (.int v7_14)] [] := Own.icmpYes r d1_206 (teq c15).1 (by decide) (by decide)
              replace r : A1 l Z n0 D h 0 0 213 #[.val (.ref a0_), .val (.int p1), .val (.int x2), .val (.int x3), .val (.int v4_12), .val (.int x5), .val (.int v6_2), .val (.int v7_14)] [(.int v4_12)] := Own.iload r d1_211 rfl
              replace r : A1 l Z n0 D h 0 0 215 #[.val (.ref a0_), .val (.int p1), .val (.int x2), .val (.int x3), .val (.int v4_12), .val (.int x5), .val (.int v6_2), .val (.int v7_14)] [(.int (6 : Int32)), (.int v4_12)] := Own.bipush r d1_213 rfl
              replace r : A1 l Z n0 D h 0 0 216 #[.val (.ref a0_), .val (.int p1), .val (.int x2), .val (.int x3), .val (.int v4_12), .val (.int x5), .val (.int v6_2), .val (.int v7_14)] [(.int (Own.ishlW v4_12 (6 : Int32)))] := Own.ishl r d1_215
              replace r : A1 l Z n0 D h 0 0 218 #[.val (.ref a0_), .val (.int p1), .val (.int x2), .val (.int x3), .val (.int v4_12), .val (.int x5), .val (.int v6_2), .val (.int v7_14)] [(.int v7_14), (.int (Own.ishlW v4_12 (6 : Int32)))] := Own.iload r d1_216 rfl
              replace r : A1 l Z n0 D h 0 0 220 #[.val (.ref a0_), .val (.int p1), .val (.int x2), .val (.int x3), .val (.int v4_12), .val (.int x5), .val (.int v6_2), .val (.int v7_14)] [(.int (63 : Int32)), (.int v7_14), (.int (Own.ishlW v4_12 (6 : Int32)))] := Own.bipush r d1_218 rfl
              replace r : A1 l Z n0 D h 0 0 221 #[.val (.ref a0_), .val (.int p1), .val (.int x2), .val (.int x3), .val (.int v4_12), .val (.int x5), .val (.int v6_2), .val (.int v7_14)] [(.int (v7_14 &&& (63 : Int32))), (.int (Own.ishlW v4_12 (6 : Int32)))] := Own.iand r d1_220
              replace r : A1 l Z n0 D h 0 0 222 #[.val (.ref a0_), .val (.int p1), .val (.int x2), .val (.int x3), .val (.int v4_12), .val (.int x5), .val (.int v6_2), .val (.int v7_14)] [(.int ((Own.ishlW v4_12 (6 : Int32)) ||| (v7_14 &&& (63 : Int32))))] := Own.ior r d1_221
              obtain ⟨v4_16, e_v4_16⟩ : ∃ z : Int32, z = ((Own.ishlW v4_12 (6 : Int32)) ||| (v7_14 &&& (63 : Int32))) := ⟨_, rfl⟩
              replace r : A1 l Z n0 D h 0 0 222 #[.val (.ref a0_), .val (.int p1), .val (.int x2), .val (.int x3), .val (.int v4_12), .val (.int x5), .val (.int v6_2), .val (.int v7_14)] [(.int v4_16)] := by rw [e_v4_16]; exact r
              replace r : A1 l Z n0 D h 0 0 224 #[.val (.ref a0_), .val (.int p1), .val (.int x2), .val (.int x3), .val (.int v4_16), .val (.int x5), .val (.int v6_2), .val (.int v7_14)] [] := Own.istore r d1_222 rfl
              obtain ⟨_, _, hd, e1, w, e2, hS⟩ := t1_224 l Z a0 hw n0 h Zs D a0_ p1 L V_a0_ hlen h0 h7 x2 x3 v4_16 x5 v6_2 (.val (.int v7_14))  r
              exact ⟨_, _, hd, e1, w, e2, ⟨fun q => absurd q c1, fun _ => ⟨v6_2, e_v6_2, ⟨fun _ => ⟨v4_4, e_v4_4, ⟨fun q => absurd q c5, fun _ => ⟨v7_10, e_v7_10, ⟨fun _ => ⟨v4_12, e_v4_12, ⟨fun _ => ⟨v7_14, e_v7_14, ⟨fun _ => ⟨v4_16, e_v4_16, hS⟩, fun q => absurd c15 q⟩⟩, fun q => absurd c13 q⟩⟩, fun q => absurd c11 q⟩⟩⟩⟩, fun q => absurd c3 q⟩⟩⟩⟩
            · skip
              replace r : A1 l Z n0 D h 0 0 209 #[.val (.ref a0_), .val (.int p1), .val (.int x2), .val (.int x3), .val (.int v4_12), .val (.int x5), .val (.int v6_2), .val (.int v7_14)] [] := Own.icmpNo r d1_206 (feq c15).1
              replace r : A1 l Z n0 D h 0 0 210 #[.val (.ref a0_), .val (.int p1), .val (.int x2), .val (.int x3), .val (.int v4_12), .val (.int x5), .val (.int v6_2), .val (.int v7_14)] [(.int (0 : Int32))] := Own.iconst r d1_209 rfl
              exact ⟨_, _, (Own.Rch.retI r d1_210).more (by decide) (by decide), rfl, _, rfl, ⟨fun q => absurd q c1, fun _ => ⟨v6_2, e_v6_2, ⟨fun _ => ⟨v4_4, e_v4_4, ⟨fun q => absurd q c5, fun _ => ⟨v7_10, e_v7_10, ⟨fun _ => ⟨v4_12, e_v4_12, ⟨fun _ => ⟨v7_14, e_v7_14, ⟨fun q => absurd q c15, fun _ => rfl⟩⟩, fun q => absurd c13 q⟩⟩, fun q => absurd c11 q⟩⟩⟩⟩, fun q => absurd c3 q⟩⟩⟩⟩
          · skip
            replace r : A1 l Z n0 D h 0 0 224 #[.val (.ref a0_), .val (.int p1), .val (.int x2), .val (.int x3), .val (.int v4_12), .val (.int x5), .val (.int v6_2), .val (.int v7_10)] [] := Own.icmpYes r d1_183 (feq c13).2 (by decide) (by decide)
            obtain ⟨_, _, hd, e1, w, e2, hS⟩ := t1_224 l Z a0 hw n0 h Zs D a0_ p1 L V_a0_ hlen h0 h7 x2 x3 v4_12 x5 v6_2 (.val (.int v7_10))  r
            exact ⟨_, _, hd, e1, w, e2, ⟨fun q => absurd q c1, fun _ => ⟨v6_2, e_v6_2, ⟨fun _ => ⟨v4_4, e_v4_4, ⟨fun q => absurd q c5, fun _ => ⟨v7_10, e_v7_10, ⟨fun _ => ⟨v4_12, e_v4_12, ⟨fun q => absurd q c13, fun _ => hS⟩⟩, fun q => absurd c11 q⟩⟩⟩⟩, fun q => absurd c3 q⟩⟩⟩⟩
        · skip
          replace r : A1 l Z n0 D h 0 0 166 #[.val (.ref a0_), .val (.int p1), .val (.int x2), .val (.int x3), .val (.int v4_4), .val (.int x5), .val (.int v6_2), .val (.int v7_10)] [] := Own.icmpNo r d1_163 (feq c11).1
          replace r : A1 l Z n0 D h 0 0 167 #[.val (.ref a0_), .val (.int p1), .val (.int x2), .val (.int x3), .val (.int v4_4), .val (.int x5), .val (.int v6_2), .val (.int v7_10)] [(.int (0 : Int32))] := Own.iconst r d1_166 rfl
          exact ⟨_, _, (Own.Rch.retI r d1_167).more (by decide) (by decide), rfl, _, rfl, ⟨fun q => absurd q c1, fun _ => ⟨v6_2, e_v6_2, ⟨fun _ => ⟨v4_4, e_v4_4, ⟨fun q => absurd q c5, fun _ => ⟨v7_10, e_v7_10, ⟨fun q => absurd q c11, fun _ => rfl⟩⟩⟩⟩, fun q => absurd c3 q⟩⟩⟩⟩
    · skip
      replace r : A1 l Z n0 D h 0 0 123 #[.val (.ref a0_), .val (.int p1), .val (.int x2), .val (.int x3), .val (.int x4), .val (.int x5), .val (.int v6_2), .unset] [] := Own.icmpNo r d1_120 (feq c3).1
      replace r : A1 l Z n0 D h 0 0 124 #[.val (.ref a0_), .val (.int p1), .val (.int x2), .val (.int x3), .val (.int x4), .val (.int x5), .val (.int v6_2), .unset] [(.int (0 : Int32))] := Own.iconst r d1_123 rfl
      exact ⟨_, _, (Own.Rch.retI r d1_124).more (by decide) (by decide), rfl, _, rfl, ⟨fun q => absurd q c1, fun _ => ⟨v6_2, e_v6_2, ⟨fun q => absurd q c3, fun _ => rfl⟩⟩⟩⟩
def S1 (p1 : Int32) (L : List Int32) (w : Int32) : Prop := ∃ v2_1 : Int32, v2_1 = ((Own.ga L p1) &&& (255 : Int32)) ∧ (((v2_1 &&& (224 : Int32)) = (192 : Int32) → ∃ v4_3 : Int32, v4_3 = (v2_1 &&& (31 : Int32)) ∧ S1_90 p1 L v2_1 (2 : Int32) v4_3 (128 : Int32) w) ∧ (¬ ((v2_1 &&& (224 : Int32)) = (192 : Int32)) → (((v2_1 &&& (240 : Int32)) = (224 : Int32) → ∃ v4_5 : Int32, v4_5 = (v2_1 &&& (15 : Int32)) ∧ S1_90 p1 L v2_1 (3 : Int32) v4_5 (2048 : Int32) w) ∧ (¬ ((v2_1 &&& (240 : Int32)) = (224 : Int32)) → (((v2_1 &&& (248 : Int32)) = (240 : Int32) → ∃ v4_7 : Int32, v4_7 = (v2_1 &&& (7 : Int32)) ∧ S1_90 p1 L v2_1 (4 : Int32) v4_7 (65536 : Int32) w) ∧ (¬ ((v2_1 &&& (248 : Int32)) = (240 : Int32)) → w = (0 : Int32)))))))
set_option maxRecDepth 65536 in
set_option maxHeartbeats 40000000 in
theorem c1 (l : Launch) (Z : State) (a0 : Array Value) (hw : ∀ d ∈ tables_1, d.before a0 Z = true) (n0 : Nat) (h : Heap) (Zs : n0 ≤ h.size) (a0_ : Addr) (p1 : Int32) (L : List Int32) (V_a0_ : Own.VA Z h a0_ .byte (L.map Value.int)) (hlen : L.length = 8) (h0 : 0 ≤ p1.toInt) (h7 : p1.toInt ≤ 7) :
    Own.Con l Z n0 (⟨"needlework/cli/ScanSequenceLengthPinLaw", "expected", "([BI)I"⟩ : MethodName) method_3_code 8 (some .int) R1 #[(.ref a0_), (.int p1)] h (fun v h' => h = h' ∧ ∃ w : Int32, v = some (.int w) ∧ S1 p1 L w) := by
  refine Own.Con.enter pn_1 (ef_1 a0_ p1) fun D r => ?_
  replace r : A1 l Z n0 D h 0 0 1 #[.val (.ref a0_), .val (.int p1), .unset, .unset, .unset, .unset, .unset, .unset] [(.ref a0_)] := Own.aloadN r d1_0 rfl rfl
  replace r : A1 l Z n0 D h 0 0 2 #[.val (.ref a0_), .val (.int p1), .unset, .unset, .unset, .unset, .unset, .unset] [(.int p1), (.ref a0_)] := Own.iloadN r d1_1 rfl
  replace r : A1 l Z n0 D h 0 0 3 #[.val (.ref a0_), .val (.int p1), .unset, .unset, .unset, .unset, .unset, .unset] [(.int (Own.ga L p1))] := Own.baload r d1_2 V_a0_ (own_ld0 hlen h0 h7).1 (own_ld0 hlen h0 h7).2
  replace r : A1 l Z n0 D h 0 0 6 #[.val (.ref a0_), .val (.int p1), .unset, .unset, .unset, .unset, .unset, .unset] [(.int (255 : Int32)), (.int (Own.ga L p1))] := Own.sipush r d1_3 rfl
  replace r : A1 l Z n0 D h 0 0 7 #[.val (.ref a0_), .val (.int p1), .unset, .unset, .unset, .unset, .unset, .unset] [(.int ((Own.ga L p1) &&& (255 : Int32)))] := Own.iand r d1_6
  obtain ⟨v2_1, e_v2_1⟩ : ∃ z : Int32, z = ((Own.ga L p1) &&& (255 : Int32)) := ⟨_, rfl⟩
  replace r : A1 l Z n0 D h 0 0 7 #[.val (.ref a0_), .val (.int p1), .unset, .unset, .unset, .unset, .unset, .unset] [(.int v2_1)] := by rw [e_v2_1]; exact r
  replace r : A1 l Z n0 D h 0 0 8 #[.val (.ref a0_), .val (.int p1), .val (.int v2_1), .unset, .unset, .unset, .unset, .unset] [] := Own.istoreN r d1_7 rfl
  replace r : A1 l Z n0 D h 0 0 9 #[.val (.ref a0_), .val (.int p1), .val (.int v2_1), .unset, .unset, .unset, .unset, .unset] [(.int v2_1)] := Own.iloadN r d1_8 rfl
  replace r : A1 l Z n0 D h 0 0 12 #[.val (.ref a0_), .val (.int p1), .val (.int v2_1), .unset, .unset, .unset, .unset, .unset] [(.int (224 : Int32)), (.int v2_1)] := Own.sipush r d1_9 rfl
  replace r : A1 l Z n0 D h 0 0 13 #[.val (.ref a0_), .val (.int p1), .val (.int v2_1), .unset, .unset, .unset, .unset, .unset] [(.int (v2_1 &&& (224 : Int32)))] := Own.iand r d1_12
  replace r : A1 l Z n0 D h 0 0 16 #[.val (.ref a0_), .val (.int p1), .val (.int v2_1), .unset, .unset, .unset, .unset, .unset] [(.int (192 : Int32)), (.int (v2_1 &&& (224 : Int32)))] := Own.sipush r d1_13 rfl
  by_cases c2 : (v2_1 &&& (224 : Int32)) = (192 : Int32)
  · skip
    replace r : A1 l Z n0 D h 0 0 19 #[.val (.ref a0_), .val (.int p1), .val (.int v2_1), .unset, .unset, .unset, .unset, .unset] [] := Own.icmpNo r d1_16 (teq c2).2
    replace r : A1 l Z n0 D h 0 0 20 #[.val (.ref a0_), .val (.int p1), .val (.int v2_1), .unset, .unset, .unset, .unset, .unset] [(.int (2 : Int32))] := Own.iconst r d1_19 rfl
    replace r : A1 l Z n0 D h 0 0 21 #[.val (.ref a0_), .val (.int p1), .val (.int v2_1), .val (.int (2 : Int32)), .unset, .unset, .unset, .unset] [] := Own.istoreN r d1_20 rfl
    replace r : A1 l Z n0 D h 0 0 22 #[.val (.ref a0_), .val (.int p1), .val (.int v2_1), .val (.int (2 : Int32)), .unset, .unset, .unset, .unset] [(.int v2_1)] := Own.iloadN r d1_21 rfl
    replace r : A1 l Z n0 D h 0 0 24 #[.val (.ref a0_), .val (.int p1), .val (.int v2_1), .val (.int (2 : Int32)), .unset, .unset, .unset, .unset] [(.int (31 : Int32)), (.int v2_1)] := Own.bipush r d1_22 rfl
    replace r : A1 l Z n0 D h 0 0 25 #[.val (.ref a0_), .val (.int p1), .val (.int v2_1), .val (.int (2 : Int32)), .unset, .unset, .unset, .unset] [(.int (v2_1 &&& (31 : Int32)))] := Own.iand r d1_24
    obtain ⟨v4_3, e_v4_3⟩ : ∃ z : Int32, z = (v2_1 &&& (31 : Int32)) := ⟨_, rfl⟩
    replace r : A1 l Z n0 D h 0 0 25 #[.val (.ref a0_), .val (.int p1), .val (.int v2_1), .val (.int (2 : Int32)), .unset, .unset, .unset, .unset] [(.int v4_3)] := by rw [e_v4_3]; exact r
    replace r : A1 l Z n0 D h 0 0 27 #[.val (.ref a0_), .val (.int p1), .val (.int v2_1), .val (.int (2 : Int32)), .val (.int v4_3), .unset, .unset, .unset] [] := Own.istore r d1_25 rfl
    replace r : A1 l Z n0 D h 0 0 30 #[.val (.ref a0_), .val (.int p1), .val (.int v2_1), .val (.int (2 : Int32)), .val (.int v4_3), .unset, .unset, .unset] [(.int (128 : Int32))] := Own.sipush r d1_27 rfl
    replace r : A1 l Z n0 D h 0 0 32 #[.val (.ref a0_), .val (.int p1), .val (.int v2_1), .val (.int (2 : Int32)), .val (.int v4_3), .val (.int (128 : Int32)), .unset, .unset] [] := Own.istore r d1_30 rfl
    replace r : A1 l Z n0 D h 0 0 90 #[.val (.ref a0_), .val (.int p1), .val (.int v2_1), .val (.int (2 : Int32)), .val (.int v4_3), .val (.int (128 : Int32)), .unset, .unset] [] := Own.goto r d1_32 (by decide) (by decide)
    obtain ⟨_, _, hd, e1, w, e2, hS⟩ := t1_90 l Z a0 hw n0 h Zs D a0_ p1 L V_a0_ hlen h0 h7 v2_1 (2 : Int32) v4_3 (128 : Int32) (Or.inl rfl) r
    exact ⟨_, _, hd, e1, w, e2, ⟨v2_1, e_v2_1, ⟨fun _ => ⟨v4_3, e_v4_3, hS⟩, fun q => absurd c2 q⟩⟩⟩
  · skip
    replace r : A1 l Z n0 D h 0 0 35 #[.val (.ref a0_), .val (.int p1), .val (.int v2_1), .unset, .unset, .unset, .unset, .unset] [] := Own.icmpYes r d1_16 (feq c2).2 (by decide) (by decide)
    replace r : A1 l Z n0 D h 0 0 36 #[.val (.ref a0_), .val (.int p1), .val (.int v2_1), .unset, .unset, .unset, .unset, .unset] [(.int v2_1)] := Own.iloadN r d1_35 rfl
    replace r : A1 l Z n0 D h 0 0 39 #[.val (.ref a0_), .val (.int p1), .val (.int v2_1), .unset, .unset, .unset, .unset, .unset] [(.int (240 : Int32)), (.int v2_1)] := Own.sipush r d1_36 rfl
    replace r : A1 l Z n0 D h 0 0 40 #[.val (.ref a0_), .val (.int p1), .val (.int v2_1), .unset, .unset, .unset, .unset, .unset] [(.int (v2_1 &&& (240 : Int32)))] := Own.iand r d1_39
    replace r : A1 l Z n0 D h 0 0 43 #[.val (.ref a0_), .val (.int p1), .val (.int v2_1), .unset, .unset, .unset, .unset, .unset] [(.int (224 : Int32)), (.int (v2_1 &&& (240 : Int32)))] := Own.sipush r d1_40 rfl
    by_cases c4 : (v2_1 &&& (240 : Int32)) = (224 : Int32)
    · skip
      replace r : A1 l Z n0 D h 0 0 46 #[.val (.ref a0_), .val (.int p1), .val (.int v2_1), .unset, .unset, .unset, .unset, .unset] [] := Own.icmpNo r d1_43 (teq c4).2
      replace r : A1 l Z n0 D h 0 0 47 #[.val (.ref a0_), .val (.int p1), .val (.int v2_1), .unset, .unset, .unset, .unset, .unset] [(.int (3 : Int32))] := Own.iconst r d1_46 rfl
      replace r : A1 l Z n0 D h 0 0 48 #[.val (.ref a0_), .val (.int p1), .val (.int v2_1), .val (.int (3 : Int32)), .unset, .unset, .unset, .unset] [] := Own.istoreN r d1_47 rfl
      replace r : A1 l Z n0 D h 0 0 49 #[.val (.ref a0_), .val (.int p1), .val (.int v2_1), .val (.int (3 : Int32)), .unset, .unset, .unset, .unset] [(.int v2_1)] := Own.iloadN r d1_48 rfl
      replace r : A1 l Z n0 D h 0 0 51 #[.val (.ref a0_), .val (.int p1), .val (.int v2_1), .val (.int (3 : Int32)), .unset, .unset, .unset, .unset] [(.int (15 : Int32)), (.int v2_1)] := Own.bipush r d1_49 rfl
      replace r : A1 l Z n0 D h 0 0 52 #[.val (.ref a0_), .val (.int p1), .val (.int v2_1), .val (.int (3 : Int32)), .unset, .unset, .unset, .unset] [(.int (v2_1 &&& (15 : Int32)))] := Own.iand r d1_51
      obtain ⟨v4_5, e_v4_5⟩ : ∃ z : Int32, z = (v2_1 &&& (15 : Int32)) := ⟨_, rfl⟩
      replace r : A1 l Z n0 D h 0 0 52 #[.val (.ref a0_), .val (.int p1), .val (.int v2_1), .val (.int (3 : Int32)), .unset, .unset, .unset, .unset] [(.int v4_5)] := by rw [e_v4_5]; exact r
      replace r : A1 l Z n0 D h 0 0 54 #[.val (.ref a0_), .val (.int p1), .val (.int v2_1), .val (.int (3 : Int32)), .val (.int v4_5), .unset, .unset, .unset] [] := Own.istore r d1_52 rfl
      replace r : A1 l Z n0 D h 0 0 57 #[.val (.ref a0_), .val (.int p1), .val (.int v2_1), .val (.int (3 : Int32)), .val (.int v4_5), .unset, .unset, .unset] [(.int (2048 : Int32))] := Own.sipush r d1_54 rfl
      replace r : A1 l Z n0 D h 0 0 59 #[.val (.ref a0_), .val (.int p1), .val (.int v2_1), .val (.int (3 : Int32)), .val (.int v4_5), .val (.int (2048 : Int32)), .unset, .unset] [] := Own.istore r d1_57 rfl
      replace r : A1 l Z n0 D h 0 0 90 #[.val (.ref a0_), .val (.int p1), .val (.int v2_1), .val (.int (3 : Int32)), .val (.int v4_5), .val (.int (2048 : Int32)), .unset, .unset] [] := Own.goto r d1_59 (by decide) (by decide)
      obtain ⟨_, _, hd, e1, w, e2, hS⟩ := t1_90 l Z a0 hw n0 h Zs D a0_ p1 L V_a0_ hlen h0 h7 v2_1 (3 : Int32) v4_5 (2048 : Int32) (Or.inr (Or.inl rfl)) r
      exact ⟨_, _, hd, e1, w, e2, ⟨v2_1, e_v2_1, ⟨fun q => absurd q c2, fun _ => ⟨fun _ => ⟨v4_5, e_v4_5, hS⟩, fun q => absurd c4 q⟩⟩⟩⟩
    · skip
      replace r : A1 l Z n0 D h 0 0 62 #[.val (.ref a0_), .val (.int p1), .val (.int v2_1), .unset, .unset, .unset, .unset, .unset] [] := Own.icmpYes r d1_43 (feq c4).2 (by decide) (by decide)
      replace r : A1 l Z n0 D h 0 0 63 #[.val (.ref a0_), .val (.int p1), .val (.int v2_1), .unset, .unset, .unset, .unset, .unset] [(.int v2_1)] := Own.iloadN r d1_62 rfl
      replace r : A1 l Z n0 D h 0 0 66 #[.val (.ref a0_), .val (.int p1), .val (.int v2_1), .unset, .unset, .unset, .unset, .unset] [(.int (248 : Int32)), (.int v2_1)] := Own.sipush r d1_63 rfl
      replace r : A1 l Z n0 D h 0 0 67 #[.val (.ref a0_), .val (.int p1), .val (.int v2_1), .unset, .unset, .unset, .unset, .unset] [(.int (v2_1 &&& (248 : Int32)))] := Own.iand r d1_66
      replace r : A1 l Z n0 D h 0 0 70 #[.val (.ref a0_), .val (.int p1), .val (.int v2_1), .unset, .unset, .unset, .unset, .unset] [(.int (240 : Int32)), (.int (v2_1 &&& (248 : Int32)))] := Own.sipush r d1_67 rfl
      by_cases c6 : (v2_1 &&& (248 : Int32)) = (240 : Int32)
      · skip
        replace r : A1 l Z n0 D h 0 0 73 #[.val (.ref a0_), .val (.int p1), .val (.int v2_1), .unset, .unset, .unset, .unset, .unset] [] := Own.icmpNo r d1_70 (teq c6).2
        replace r : A1 l Z n0 D h 0 0 74 #[.val (.ref a0_), .val (.int p1), .val (.int v2_1), .unset, .unset, .unset, .unset, .unset] [(.int (4 : Int32))] := Own.iconst r d1_73 rfl
        replace r : A1 l Z n0 D h 0 0 75 #[.val (.ref a0_), .val (.int p1), .val (.int v2_1), .val (.int (4 : Int32)), .unset, .unset, .unset, .unset] [] := Own.istoreN r d1_74 rfl
        replace r : A1 l Z n0 D h 0 0 76 #[.val (.ref a0_), .val (.int p1), .val (.int v2_1), .val (.int (4 : Int32)), .unset, .unset, .unset, .unset] [(.int v2_1)] := Own.iloadN r d1_75 rfl
        replace r : A1 l Z n0 D h 0 0 78 #[.val (.ref a0_), .val (.int p1), .val (.int v2_1), .val (.int (4 : Int32)), .unset, .unset, .unset, .unset] [(.int (7 : Int32)), (.int v2_1)] := Own.bipush r d1_76 rfl
        replace r : A1 l Z n0 D h 0 0 79 #[.val (.ref a0_), .val (.int p1), .val (.int v2_1), .val (.int (4 : Int32)), .unset, .unset, .unset, .unset] [(.int (v2_1 &&& (7 : Int32)))] := Own.iand r d1_78
        obtain ⟨v4_7, e_v4_7⟩ : ∃ z : Int32, z = (v2_1 &&& (7 : Int32)) := ⟨_, rfl⟩
        replace r : A1 l Z n0 D h 0 0 79 #[.val (.ref a0_), .val (.int p1), .val (.int v2_1), .val (.int (4 : Int32)), .unset, .unset, .unset, .unset] [(.int v4_7)] := by rw [e_v4_7]; exact r
        replace r : A1 l Z n0 D h 0 0 81 #[.val (.ref a0_), .val (.int p1), .val (.int v2_1), .val (.int (4 : Int32)), .val (.int v4_7), .unset, .unset, .unset] [] := Own.istore r d1_79 rfl
        replace r : A1 l Z n0 D h 0 0 83 #[.val (.ref a0_), .val (.int p1), .val (.int v2_1), .val (.int (4 : Int32)), .val (.int v4_7), .unset, .unset, .unset] [(.int (65536 : Int32))] := Own.ldcI r d1_81 (hw _ (List.mem_of_getElem? (i := 9) rfl))
        replace r : A1 l Z n0 D h 0 0 85 #[.val (.ref a0_), .val (.int p1), .val (.int v2_1), .val (.int (4 : Int32)), .val (.int v4_7), .val (.int (65536 : Int32)), .unset, .unset] [] := Own.istore r d1_83 rfl
        replace r : A1 l Z n0 D h 0 0 90 #[.val (.ref a0_), .val (.int p1), .val (.int v2_1), .val (.int (4 : Int32)), .val (.int v4_7), .val (.int (65536 : Int32)), .unset, .unset] [] := Own.goto r d1_85 (by decide) (by decide)
        obtain ⟨_, _, hd, e1, w, e2, hS⟩ := t1_90 l Z a0 hw n0 h Zs D a0_ p1 L V_a0_ hlen h0 h7 v2_1 (4 : Int32) v4_7 (65536 : Int32) (Or.inr (Or.inr rfl)) r
        exact ⟨_, _, hd, e1, w, e2, ⟨v2_1, e_v2_1, ⟨fun q => absurd q c2, fun _ => ⟨fun q => absurd q c4, fun _ => ⟨fun _ => ⟨v4_7, e_v4_7, hS⟩, fun q => absurd c6 q⟩⟩⟩⟩⟩
      · skip
        replace r : A1 l Z n0 D h 0 0 88 #[.val (.ref a0_), .val (.int p1), .val (.int v2_1), .unset, .unset, .unset, .unset, .unset] [] := Own.icmpYes r d1_70 (feq c6).2 (by decide) (by decide)
        replace r : A1 l Z n0 D h 0 0 89 #[.val (.ref a0_), .val (.int p1), .val (.int v2_1), .unset, .unset, .unset, .unset, .unset] [(.int (0 : Int32))] := Own.iconst r d1_88 rfl
        exact ⟨_, _, (Own.Rch.retI r d1_89).more (by decide) (by decide), rfl, _, rfl, ⟨v2_1, e_v2_1, ⟨fun q => absurd q c2, fun _ => ⟨fun q => absurd q c4, fun _ => ⟨fun q => absurd q c6, fun _ => rfl⟩⟩⟩⟩⟩
theorem d2_0 : decode prog_43_method_6_code 0 = .ok (.aload_n 0, 1) := by decide +kernel
theorem d2_1 : decode prog_43_method_6_code 1 = .ok (.iload_n 1, 1) := by decide +kernel
theorem d2_2 : decode prog_43_method_6_code 2 = .ok (.baload, 1) := by decide +kernel
theorem d2_3 : decode prog_43_method_6_code 3 = .ok (.sipush 255, 3) := by decide +kernel
theorem d2_6 : decode prog_43_method_6_code 6 = .ok (.iand, 1) := by decide +kernel
theorem d2_7 : decode prog_43_method_6_code 7 = .ok (.istore_n 2, 1) := by decide +kernel
theorem d2_8 : decode prog_43_method_6_code 8 = .ok (.sipush 128, 3) := by decide +kernel
theorem d2_11 : decode prog_43_method_6_code 11 = .ok (.istore 4, 2) := by decide +kernel
theorem d2_13 : decode prog_43_method_6_code 13 = .ok (.sipush 191, 3) := by decide +kernel
theorem d2_16 : decode prog_43_method_6_code 16 = .ok (.istore 5, 2) := by decide +kernel
theorem d2_18 : decode prog_43_method_6_code 18 = .ok (.iload_n 2, 1) := by decide +kernel
theorem d2_19 : decode prog_43_method_6_code 19 = .ok (.sipush 194, 3) := by decide +kernel
theorem d2_22 : decode prog_43_method_6_code 22 = .ok (.if_icmp .lt 15, 3) := by decide +kernel
theorem d2_25 : decode prog_43_method_6_code 25 = .ok (.iload_n 2, 1) := by decide +kernel
theorem d2_26 : decode prog_43_method_6_code 26 = .ok (.sipush 223, 3) := by decide +kernel
theorem d2_29 : decode prog_43_method_6_code 29 = .ok (.if_icmp .gt 8, 3) := by decide +kernel
theorem d2_32 : decode prog_43_method_6_code 32 = .ok (.iconst 2, 1) := by decide +kernel
theorem d2_33 : decode prog_43_method_6_code 33 = .ok (.istore_n 3, 1) := by decide +kernel
theorem d2_34 : decode prog_43_method_6_code 34 = .ok (.goto 91, 3) := by decide +kernel
theorem d2_37 : decode prog_43_method_6_code 37 = .ok (.iload_n 2, 1) := by decide +kernel
theorem d2_38 : decode prog_43_method_6_code 38 = .ok (.sipush 224, 3) := by decide +kernel
theorem d2_41 : decode prog_43_method_6_code 41 = .ok (.if_icmp .lt 39, 3) := by decide +kernel
theorem d2_44 : decode prog_43_method_6_code 44 = .ok (.iload_n 2, 1) := by decide +kernel
theorem d2_45 : decode prog_43_method_6_code 45 = .ok (.sipush 239, 3) := by decide +kernel
theorem d2_48 : decode prog_43_method_6_code 48 = .ok (.if_icmp .gt 32, 3) := by decide +kernel
theorem d2_51 : decode prog_43_method_6_code 51 = .ok (.iconst 3, 1) := by decide +kernel
theorem d2_52 : decode prog_43_method_6_code 52 = .ok (.istore_n 3, 1) := by decide +kernel
theorem d2_53 : decode prog_43_method_6_code 53 = .ok (.iload_n 2, 1) := by decide +kernel
theorem d2_54 : decode prog_43_method_6_code 54 = .ok (.sipush 224, 3) := by decide +kernel
theorem d2_57 : decode prog_43_method_6_code 57 = .ok (.if_icmp .ne 8, 3) := by decide +kernel
theorem d2_60 : decode prog_43_method_6_code 60 = .ok (.sipush 160, 3) := by decide +kernel
theorem d2_63 : decode prog_43_method_6_code 63 = .ok (.istore 4, 2) := by decide +kernel
theorem d2_65 : decode prog_43_method_6_code 65 = .ok (.iload_n 2, 1) := by decide +kernel
theorem d2_66 : decode prog_43_method_6_code 66 = .ok (.sipush 237, 3) := by decide +kernel
theorem d2_69 : decode prog_43_method_6_code 69 = .ok (.if_icmp .ne 56, 3) := by decide +kernel
theorem d2_72 : decode prog_43_method_6_code 72 = .ok (.sipush 159, 3) := by decide +kernel
theorem d2_75 : decode prog_43_method_6_code 75 = .ok (.istore 5, 2) := by decide +kernel
theorem d2_77 : decode prog_43_method_6_code 77 = .ok (.goto 48, 3) := by decide +kernel
theorem d2_80 : decode prog_43_method_6_code 80 = .ok (.iload_n 2, 1) := by decide +kernel
theorem d2_81 : decode prog_43_method_6_code 81 = .ok (.sipush 240, 3) := by decide +kernel
theorem d2_84 : decode prog_43_method_6_code 84 = .ok (.if_icmp .lt 39, 3) := by decide +kernel
theorem d2_87 : decode prog_43_method_6_code 87 = .ok (.iload_n 2, 1) := by decide +kernel
theorem d2_88 : decode prog_43_method_6_code 88 = .ok (.sipush 244, 3) := by decide +kernel
theorem d2_91 : decode prog_43_method_6_code 91 = .ok (.if_icmp .gt 32, 3) := by decide +kernel
theorem d2_94 : decode prog_43_method_6_code 94 = .ok (.iconst 4, 1) := by decide +kernel
theorem d2_95 : decode prog_43_method_6_code 95 = .ok (.istore_n 3, 1) := by decide +kernel
theorem d2_96 : decode prog_43_method_6_code 96 = .ok (.iload_n 2, 1) := by decide +kernel
theorem d2_97 : decode prog_43_method_6_code 97 = .ok (.sipush 240, 3) := by decide +kernel
theorem d2_100 : decode prog_43_method_6_code 100 = .ok (.if_icmp .ne 8, 3) := by decide +kernel
theorem d2_103 : decode prog_43_method_6_code 103 = .ok (.sipush 144, 3) := by decide +kernel
theorem d2_106 : decode prog_43_method_6_code 106 = .ok (.istore 4, 2) := by decide +kernel
theorem d2_108 : decode prog_43_method_6_code 108 = .ok (.iload_n 2, 1) := by decide +kernel
theorem d2_109 : decode prog_43_method_6_code 109 = .ok (.sipush 244, 3) := by decide +kernel
theorem d2_112 : decode prog_43_method_6_code 112 = .ok (.if_icmp .ne 13, 3) := by decide +kernel
theorem d2_115 : decode prog_43_method_6_code 115 = .ok (.sipush 143, 3) := by decide +kernel
theorem d2_118 : decode prog_43_method_6_code 118 = .ok (.istore 5, 2) := by decide +kernel
theorem d2_120 : decode prog_43_method_6_code 120 = .ok (.goto 5, 3) := by decide +kernel
theorem d2_123 : decode prog_43_method_6_code 123 = .ok (.iconst 0, 1) := by decide +kernel
theorem d2_124 : decode prog_43_method_6_code 124 = .ok (.ireturn, 1) := by decide +kernel
theorem d2_125 : decode prog_43_method_6_code 125 = .ok (.aload_n 0, 1) := by decide +kernel
theorem d2_126 : decode prog_43_method_6_code 126 = .ok (.arraylength, 1) := by decide +kernel
theorem d2_127 : decode prog_43_method_6_code 127 = .ok (.iload_n 1, 1) := by decide +kernel
theorem d2_128 : decode prog_43_method_6_code 128 = .ok (.isub, 1) := by decide +kernel
theorem d2_129 : decode prog_43_method_6_code 129 = .ok (.iload_n 3, 1) := by decide +kernel
theorem d2_130 : decode prog_43_method_6_code 130 = .ok (.if_icmp .ge 5, 3) := by decide +kernel
theorem d2_133 : decode prog_43_method_6_code 133 = .ok (.iconst 0, 1) := by decide +kernel
theorem d2_134 : decode prog_43_method_6_code 134 = .ok (.ireturn, 1) := by decide +kernel
theorem d2_135 : decode prog_43_method_6_code 135 = .ok (.aload_n 0, 1) := by decide +kernel
theorem d2_136 : decode prog_43_method_6_code 136 = .ok (.iload_n 1, 1) := by decide +kernel
theorem d2_137 : decode prog_43_method_6_code 137 = .ok (.iconst 1, 1) := by decide +kernel
theorem d2_138 : decode prog_43_method_6_code 138 = .ok (.iadd, 1) := by decide +kernel
theorem d2_139 : decode prog_43_method_6_code 139 = .ok (.baload, 1) := by decide +kernel
theorem d2_140 : decode prog_43_method_6_code 140 = .ok (.sipush 255, 3) := by decide +kernel
theorem d2_143 : decode prog_43_method_6_code 143 = .ok (.iand, 1) := by decide +kernel
theorem d2_144 : decode prog_43_method_6_code 144 = .ok (.istore 6, 2) := by decide +kernel
theorem d2_146 : decode prog_43_method_6_code 146 = .ok (.iload 6, 2) := by decide +kernel
theorem d2_148 : decode prog_43_method_6_code 148 = .ok (.iload 4, 2) := by decide +kernel
theorem d2_150 : decode prog_43_method_6_code 150 = .ok (.if_icmp .lt 10, 3) := by decide +kernel
theorem d2_153 : decode prog_43_method_6_code 153 = .ok (.iload 6, 2) := by decide +kernel
theorem d2_155 : decode prog_43_method_6_code 155 = .ok (.iload 5, 2) := by decide +kernel
theorem d2_157 : decode prog_43_method_6_code 157 = .ok (.if_icmp .le 5, 3) := by decide +kernel
theorem d2_160 : decode prog_43_method_6_code 160 = .ok (.iconst 0, 1) := by decide +kernel
theorem d2_161 : decode prog_43_method_6_code 161 = .ok (.ireturn, 1) := by decide +kernel
theorem d2_162 : decode prog_43_method_6_code 162 = .ok (.iload_n 1, 1) := by decide +kernel
theorem d2_163 : decode prog_43_method_6_code 163 = .ok (.iconst 2, 1) := by decide +kernel
theorem d2_164 : decode prog_43_method_6_code 164 = .ok (.iadd, 1) := by decide +kernel
theorem d2_165 : decode prog_43_method_6_code 165 = .ok (.istore 7, 2) := by decide +kernel
theorem d2_167 : decode prog_43_method_6_code 167 = .ok (.iload 7, 2) := by decide +kernel
theorem d2_169 : decode prog_43_method_6_code 169 = .ok (.iload_n 1, 1) := by decide +kernel
theorem d2_170 : decode prog_43_method_6_code 170 = .ok (.iload_n 3, 1) := by decide +kernel
theorem d2_171 : decode prog_43_method_6_code 171 = .ok (.iadd, 1) := by decide +kernel
theorem d2_172 : decode prog_43_method_6_code 172 = .ok (.if_icmp .ge 25, 3) := by decide +kernel
theorem d2_175 : decode prog_43_method_6_code 175 = .ok (.aload_n 0, 1) := by decide +kernel
theorem d2_176 : decode prog_43_method_6_code 176 = .ok (.iload 7, 2) := by decide +kernel
theorem d2_178 : decode prog_43_method_6_code 178 = .ok (.baload, 1) := by decide +kernel
theorem d2_179 : decode prog_43_method_6_code 179 = .ok (.sipush 192, 3) := by decide +kernel
theorem d2_182 : decode prog_43_method_6_code 182 = .ok (.iand, 1) := by decide +kernel
theorem d2_183 : decode prog_43_method_6_code 183 = .ok (.sipush 128, 3) := by decide +kernel
theorem d2_186 : decode prog_43_method_6_code 186 = .ok (.if_icmp .eq 5, 3) := by decide +kernel
theorem d2_189 : decode prog_43_method_6_code 189 = .ok (.iconst 0, 1) := by decide +kernel
theorem d2_190 : decode prog_43_method_6_code 190 = .ok (.ireturn, 1) := by decide +kernel
theorem d2_191 : decode prog_43_method_6_code 191 = .ok (.iinc 7 1, 3) := by decide +kernel
theorem d2_194 : decode prog_43_method_6_code 194 = .ok (.goto (-27), 3) := by decide +kernel
theorem d2_197 : decode prog_43_method_6_code 197 = .ok (.iload_n 3, 1) := by decide +kernel
theorem d2_198 : decode prog_43_method_6_code 198 = .ok (.ireturn, 1) := by decide +kernel
theorem pn_2 : plainFor (⟨"needlework/cli/Scan", "sequenceLength", "([BI)I"⟩ : MethodName) = true := plainFor_of_name (by first | (simp [plainName, overriddenIn, x]; done) | decide +kernel)
theorem ef_2 (a0_ : Addr) (p1 : Int32) (m : MethodId) : entryFrame m #[(.ref a0_), (.int p1)] 8 = mkF m 0 #[.val (.ref a0_), .val (.int p1), .unset, .unset, .unset, .unset, .unset, .unset] [] := by first | (simp [entryFrame, mkF, argsToLocals, Value.category, maxLocals]; done) | rfl
abbrev R2 : Room := ({ frames := 0, cells := 0, slots := 0, locals := 0 } : Room)
abbrev A2 (l : Launch) (Z : State) (n0 : Nat) (D : Own.Dyn) := Own.Rch l Z n0 R2 (⟨"needlework/cli/Scan", "sequenceLength", "([BI)I"⟩ : MethodName) prog_43_method_6_code 8 (some .int) D
def S2_125 (p1 : Int32) (L : List Int32) (x2 : Int32) (x3 : Int32) (x4 : Int32) (x5 : Int32) (w : Int32) : Prop := ((((8 : Int32) - p1) < x3 → w = (0 : Int32)) ∧ (¬ (((8 : Int32) - p1) < x3) → ∃ v6_2 : Int32, v6_2 = ((Own.ga L (p1 + (1 : Int32))) &&& (255 : Int32)) ∧ ((v6_2 < x4 → w = (0 : Int32)) ∧ (¬ (v6_2 < x4) → ((x5 < v6_2 → w = (0 : Int32)) ∧ (¬ (x5 < v6_2) → ∃ v7_5 : Int32, v7_5 = (p1 + (2 : Int32)) ∧ ((v7_5 < (p1 + x3) → ((((Own.ga L v7_5) &&& (192 : Int32)) = (128 : Int32) → (((v7_5 + (1 : Int32)) < (p1 + x3) → ((((Own.ga L (v7_5 + (1 : Int32))) &&& (192 : Int32)) = (128 : Int32) → w = x3) ∧ (¬ (((Own.ga L (v7_5 + (1 : Int32))) &&& (192 : Int32)) = (128 : Int32)) → w = (0 : Int32)))) ∧ (¬ ((v7_5 + (1 : Int32)) < (p1 + x3)) → w = x3))) ∧ (¬ (((Own.ga L v7_5) &&& (192 : Int32)) = (128 : Int32)) → w = (0 : Int32)))) ∧ (¬ (v7_5 < (p1 + x3)) → w = x3))))))))
set_option maxRecDepth 65536 in
set_option maxHeartbeats 40000000 in
theorem t2_125 (l : Launch) (Z : State) (a0 : Array Value) (hw : ∀ d ∈ tables_1, d.before a0 Z = true) (n0 : Nat) (h : Heap) (Zs : n0 ≤ h.size) (D : Own.Dyn) (a0_ : Addr) (p1 : Int32) (L : List Int32) (V_a0_ : Own.VA Z h a0_ .byte (L.map Value.int)) (hlen : L.length = 8) (h0 : 0 ≤ p1.toInt) (h7 : p1.toInt ≤ 7) (x2 : Int32) (x3 : Int32) (x4 : Int32) (x5 : Int32) (hx3 : x3 = (2 : Int32) ∨ x3 = (3 : Int32) ∨ x3 = (4 : Int32)) (r : A2 l Z n0 D h 0 0 125 #[.val (.ref a0_), .val (.int p1), .val (.int x2), .val (.int x3), .val (.int x4), .val (.int x5), .unset, .unset] []) :
    ∃ v h', Own.Don l Z n0 R2 D h' R2.cells R2.slots v ∧ h = h' ∧ ∃ w : Int32, v = some (.int w) ∧ S2_125 p1 L x2 x3 x4 x5 w := by
  replace r : A2 l Z n0 D h 0 0 126 #[.val (.ref a0_), .val (.int p1), .val (.int x2), .val (.int x3), .val (.int x4), .val (.int x5), .unset, .unset] [(.ref a0_)] := Own.aloadN r d2_125 rfl rfl
  replace r : A2 l Z n0 D h 0 0 127 #[.val (.ref a0_), .val (.int p1), .val (.int x2), .val (.int x3), .val (.int x4), .val (.int x5), .unset, .unset] [(.int (8 : Int32))] := Own.arrlen r d2_126 V_a0_ (by rw [List.length_map, hlen]; rfl)
  replace r : A2 l Z n0 D h 0 0 128 #[.val (.ref a0_), .val (.int p1), .val (.int x2), .val (.int x3), .val (.int x4), .val (.int x5), .unset, .unset] [(.int p1), (.int (8 : Int32))] := Own.iloadN r d2_127 rfl
  replace r : A2 l Z n0 D h 0 0 129 #[.val (.ref a0_), .val (.int p1), .val (.int x2), .val (.int x3), .val (.int x4), .val (.int x5), .unset, .unset] [(.int ((8 : Int32) - p1))] := Own.isub r d2_128
  replace r : A2 l Z n0 D h 0 0 130 #[.val (.ref a0_), .val (.int p1), .val (.int x2), .val (.int x3), .val (.int x4), .val (.int x5), .unset, .unset] [(.int x3), (.int ((8 : Int32) - p1))] := Own.iloadN r d2_129 rfl
  by_cases c1 : ((8 : Int32) - p1) < x3
  · skip
    replace r : A2 l Z n0 D h 0 0 133 #[.val (.ref a0_), .val (.int p1), .val (.int x2), .val (.int x3), .val (.int x4), .val (.int x5), .unset, .unset] [] := Own.icmpNo r d2_130 (tlt c1).2.1
    replace r : A2 l Z n0 D h 0 0 134 #[.val (.ref a0_), .val (.int p1), .val (.int x2), .val (.int x3), .val (.int x4), .val (.int x5), .unset, .unset] [(.int (0 : Int32))] := Own.iconst r d2_133 rfl
    exact ⟨_, _, (Own.Rch.retI r d2_134).more (by decide) (by decide), rfl, _, rfl, ⟨fun _ => rfl, fun q => absurd c1 q⟩⟩
  · skip
    replace r : A2 l Z n0 D h 0 0 135 #[.val (.ref a0_), .val (.int p1), .val (.int x2), .val (.int x3), .val (.int x4), .val (.int x5), .unset, .unset] [] := Own.icmpYes r d2_130 (flt c1).2.1 (by decide) (by decide)
    replace r : A2 l Z n0 D h 0 0 136 #[.val (.ref a0_), .val (.int p1), .val (.int x2), .val (.int x3), .val (.int x4), .val (.int x5), .unset, .unset] [(.ref a0_)] := Own.aloadN r d2_135 rfl rfl
    replace r : A2 l Z n0 D h 0 0 137 #[.val (.ref a0_), .val (.int p1), .val (.int x2), .val (.int x3), .val (.int x4), .val (.int x5), .unset, .unset] [(.int p1), (.ref a0_)] := Own.iloadN r d2_136 rfl
    replace r : A2 l Z n0 D h 0 0 138 #[.val (.ref a0_), .val (.int p1), .val (.int x2), .val (.int x3), .val (.int x4), .val (.int x5), .unset, .unset] [(.int (1 : Int32)), (.int p1), (.ref a0_)] := Own.iconst r d2_137 rfl
    replace r : A2 l Z n0 D h 0 0 139 #[.val (.ref a0_), .val (.int p1), .val (.int x2), .val (.int x3), .val (.int x4), .val (.int x5), .unset, .unset] [(.int (p1 + (1 : Int32))), (.ref a0_)] := Own.iadd r d2_138
    replace r : A2 l Z n0 D h 0 0 140 #[.val (.ref a0_), .val (.int p1), .val (.int x2), .val (.int x3), .val (.int x4), .val (.int x5), .unset, .unset] [(.int (Own.ga L (p1 + (1 : Int32))))] := Own.baload r d2_139 V_a0_ (own_ld1 hlen h0 h7 hx3 (by assumption)).1 (own_ld1 hlen h0 h7 hx3 (by assumption)).2
    replace r : A2 l Z n0 D h 0 0 143 #[.val (.ref a0_), .val (.int p1), .val (.int x2), .val (.int x3), .val (.int x4), .val (.int x5), .unset, .unset] [(.int (255 : Int32)), (.int (Own.ga L (p1 + (1 : Int32))))] := Own.sipush r d2_140 rfl
    replace r : A2 l Z n0 D h 0 0 144 #[.val (.ref a0_), .val (.int p1), .val (.int x2), .val (.int x3), .val (.int x4), .val (.int x5), .unset, .unset] [(.int ((Own.ga L (p1 + (1 : Int32))) &&& (255 : Int32)))] := Own.iand r d2_143
    obtain ⟨v6_2, e_v6_2⟩ : ∃ z : Int32, z = ((Own.ga L (p1 + (1 : Int32))) &&& (255 : Int32)) := ⟨_, rfl⟩
    replace r : A2 l Z n0 D h 0 0 144 #[.val (.ref a0_), .val (.int p1), .val (.int x2), .val (.int x3), .val (.int x4), .val (.int x5), .unset, .unset] [(.int v6_2)] := by rw [e_v6_2]; exact r
    replace r : A2 l Z n0 D h 0 0 146 #[.val (.ref a0_), .val (.int p1), .val (.int x2), .val (.int x3), .val (.int x4), .val (.int x5), .val (.int v6_2), .unset] [] := Own.istore r d2_144 rfl
    replace r : A2 l Z n0 D h 0 0 148 #[.val (.ref a0_), .val (.int p1), .val (.int x2), .val (.int x3), .val (.int x4), .val (.int x5), .val (.int v6_2), .unset] [(.int v6_2)] := Own.iload r d2_146 rfl
    replace r : A2 l Z n0 D h 0 0 150 #[.val (.ref a0_), .val (.int p1), .val (.int x2), .val (.int x3), .val (.int x4), .val (.int x5), .val (.int v6_2), .unset] [(.int x4), (.int v6_2)] := Own.iload r d2_148 rfl
    by_cases c3 : v6_2 < x4
    · skip
      replace r : A2 l Z n0 D h 0 0 160 #[.val (.ref a0_), .val (.int p1), .val (.int x2), .val (.int x3), .val (.int x4), .val (.int x5), .val (.int v6_2), .unset] [] := Own.icmpYes r d2_150 (tlt c3).1 (by decide) (by decide)
      replace r : A2 l Z n0 D h 0 0 161 #[.val (.ref a0_), .val (.int p1), .val (.int x2), .val (.int x3), .val (.int x4), .val (.int x5), .val (.int v6_2), .unset] [(.int (0 : Int32))] := Own.iconst r d2_160 rfl
      exact ⟨_, _, (Own.Rch.retI r d2_161).more (by decide) (by decide), rfl, _, rfl, ⟨fun q => absurd q c1, fun _ => ⟨v6_2, e_v6_2, ⟨fun _ => rfl, fun q => absurd c3 q⟩⟩⟩⟩
    · skip
      replace r : A2 l Z n0 D h 0 0 153 #[.val (.ref a0_), .val (.int p1), .val (.int x2), .val (.int x3), .val (.int x4), .val (.int x5), .val (.int v6_2), .unset] [] := Own.icmpNo r d2_150 (flt c3).1
      replace r : A2 l Z n0 D h 0 0 155 #[.val (.ref a0_), .val (.int p1), .val (.int x2), .val (.int x3), .val (.int x4), .val (.int x5), .val (.int v6_2), .unset] [(.int v6_2)] := Own.iload r d2_153 rfl
      replace r : A2 l Z n0 D h 0 0 157 #[.val (.ref a0_), .val (.int p1), .val (.int x2), .val (.int x3), .val (.int x4), .val (.int x5), .val (.int v6_2), .unset] [(.int x5), (.int v6_2)] := Own.iload r d2_155 rfl
      by_cases c4 : x5 < v6_2
      · skip
        replace r : A2 l Z n0 D h 0 0 160 #[.val (.ref a0_), .val (.int p1), .val (.int x2), .val (.int x3), .val (.int x4), .val (.int x5), .val (.int v6_2), .unset] [] := Own.icmpNo r d2_157 (tlt c4).2.2.2
        replace r : A2 l Z n0 D h 0 0 161 #[.val (.ref a0_), .val (.int p1), .val (.int x2), .val (.int x3), .val (.int x4), .val (.int x5), .val (.int v6_2), .unset] [(.int (0 : Int32))] := Own.iconst r d2_160 rfl
        exact ⟨_, _, (Own.Rch.retI r d2_161).more (by decide) (by decide), rfl, _, rfl, ⟨fun q => absurd q c1, fun _ => ⟨v6_2, e_v6_2, ⟨fun q => absurd q c3, fun _ => ⟨fun _ => rfl, fun q => absurd c4 q⟩⟩⟩⟩⟩
      · skip
        replace r : A2 l Z n0 D h 0 0 162 #[.val (.ref a0_), .val (.int p1), .val (.int x2), .val (.int x3), .val (.int x4), .val (.int x5), .val (.int v6_2), .unset] [] := Own.icmpYes r d2_157 (flt c4).2.2.2 (by decide) (by decide)
        replace r : A2 l Z n0 D h 0 0 163 #[.val (.ref a0_), .val (.int p1), .val (.int x2), .val (.int x3), .val (.int x4), .val (.int x5), .val (.int v6_2), .unset] [(.int p1)] := Own.iloadN r d2_162 rfl
        replace r : A2 l Z n0 D h 0 0 164 #[.val (.ref a0_), .val (.int p1), .val (.int x2), .val (.int x3), .val (.int x4), .val (.int x5), .val (.int v6_2), .unset] [(.int (2 : Int32)), (.int p1)] := Own.iconst r d2_163 rfl
        replace r : A2 l Z n0 D h 0 0 165 #[.val (.ref a0_), .val (.int p1), .val (.int x2), .val (.int x3), .val (.int x4), .val (.int x5), .val (.int v6_2), .unset] [(.int (p1 + (2 : Int32)))] := Own.iadd r d2_164
        obtain ⟨v7_5, e_v7_5⟩ : ∃ z : Int32, z = (p1 + (2 : Int32)) := ⟨_, rfl⟩
        replace r : A2 l Z n0 D h 0 0 165 #[.val (.ref a0_), .val (.int p1), .val (.int x2), .val (.int x3), .val (.int x4), .val (.int x5), .val (.int v6_2), .unset] [(.int v7_5)] := by rw [e_v7_5]; exact r
        replace r : A2 l Z n0 D h 0 0 167 #[.val (.ref a0_), .val (.int p1), .val (.int x2), .val (.int x3), .val (.int x4), .val (.int x5), .val (.int v6_2), .val (.int v7_5)] [] := Own.istore r d2_165 rfl
        replace r : A2 l Z n0 D h 0 0 169 #[.val (.ref a0_), .val (.int p1), .val (.int x2), .val (.int x3), .val (.int x4), .val (.int x5), .val (.int v6_2), .val (.int v7_5)] [(.int v7_5)] := Own.iload r d2_167 rfl
        replace r : A2 l Z n0 D h 0 0 170 #[.val (.ref a0_), .val (.int p1), .val (.int x2), .val (.int x3), .val (.int x4), .val (.int x5), .val (.int v6_2), .val (.int v7_5)] [(.int p1), (.int v7_5)] := Own.iloadN r d2_169 rfl
        replace r : A2 l Z n0 D h 0 0 171 #[.val (.ref a0_), .val (.int p1), .val (.int x2), .val (.int x3), .val (.int x4), .val (.int x5), .val (.int v6_2), .val (.int v7_5)] [(.int x3), (.int p1), (.int v7_5)] := Own.iloadN r d2_170 rfl
        replace r : A2 l Z n0 D h 0 0 172 #[.val (.ref a0_), .val (.int p1), .val (.int x2), .val (.int x3), .val (.int x4), .val (.int x5), .val (.int v6_2), .val (.int v7_5)] [(.int (p1 + x3)), (.int v7_5)] := Own.iadd r d2_171
        by_cases c6 : v7_5 < (p1 + x3)
        · skip
          replace r : A2 l Z n0 D h 0 0 175 #[.val (.ref a0_), .val (.int p1), .val (.int x2), .val (.int x3), .val (.int x4), .val (.int x5), .val (.int v6_2), .val (.int v7_5)] [] := Own.icmpNo r d2_172 (tlt c6).2.1
          replace r : A2 l Z n0 D h 0 0 176 #[.val (.ref a0_), .val (.int p1), .val (.int x2), .val (.int x3), .val (.int x4), .val (.int x5), .val (.int v6_2), .val (.int v7_5)] [(.ref a0_)] := Own.aloadN r d2_175 rfl rfl
          replace r : A2 l Z n0 D h 0 0 178 #[.val (.ref a0_), .val (.int p1), .val (.int x2), .val (.int x3), .val (.int x4), .val (.int x5), .val (.int v6_2), .val (.int v7_5)] [(.int v7_5), (.ref a0_)] := Own.iload r d2_176 rfl
          replace r : A2 l Z n0 D h 0 0 179 #[.val (.ref a0_), .val (.int p1), .val (.int x2), .val (.int x3), .val (.int x4), .val (.int x5), .val (.int v6_2), .val (.int v7_5)] [(.int (Own.ga L v7_5))] := Own.baload r d2_178 V_a0_ (own_ldn hlen h0 h7 hx3 (by assumption) (j := v7_5) (by assumption) (Or.inl e_v7_5)).1 (own_ldn hlen h0 h7 hx3 (by assumption) (j := v7_5) (by assumption) (Or.inl e_v7_5)).2
          replace r : A2 l Z n0 D h 0 0 182 #[.val (.ref a0_), .val (.int p1), .val (.int x2), .val (.int x3), .val (.int x4), .val (.int x5), .val (.int v6_2), .val (.int v7_5)] [(.int (192 : Int32)), (.int (Own.ga L v7_5))] := Own.sipush r d2_179 rfl
          replace r : A2 l Z n0 D h 0 0 183 #[.val (.ref a0_), .val (.int p1), .val (.int x2), .val (.int x3), .val (.int x4), .val (.int x5), .val (.int v6_2), .val (.int v7_5)] [(.int ((Own.ga L v7_5) &&& (192 : Int32)))] := Own.iand r d2_182
          replace r : A2 l Z n0 D h 0 0 186 #[.val (.ref a0_), .val (.int p1), .val (.int x2), .val (.int x3), .val (.int x4), .val (.int x5), .val (.int v6_2), .val (.int v7_5)] [(.int (128 : Int32)), (.int ((Own.ga L v7_5) &&& (192 : Int32)))] := Own.sipush r d2_183 rfl
          by_cases c7 : ((Own.ga L v7_5) &&& (192 : Int32)) = (128 : Int32)
          · skip
            replace r : A2 l Z n0 D h 0 0 191 #[.val (.ref a0_), .val (.int p1), .val (.int x2), .val (.int x3), .val (.int x4), .val (.int x5), .val (.int v6_2), .val (.int v7_5)] [] := Own.icmpYes r d2_186 (teq c7).1 (by decide) (by decide)
            replace r : A2 l Z n0 D h 0 0 194 #[.val (.ref a0_), .val (.int p1), .val (.int x2), .val (.int x3), .val (.int x4), .val (.int x5), .val (.int v6_2), .val (.int (v7_5 + (1 : Int32)))] [] := Own.iinc r d2_191 rfl rfl rfl
            replace r : A2 l Z n0 D h 0 0 167 #[.val (.ref a0_), .val (.int p1), .val (.int x2), .val (.int x3), .val (.int x4), .val (.int x5), .val (.int v6_2), .val (.int (v7_5 + (1 : Int32)))] [] := Own.goto r d2_194 (by decide) (by decide)
            replace r : A2 l Z n0 D h 0 0 169 #[.val (.ref a0_), .val (.int p1), .val (.int x2), .val (.int x3), .val (.int x4), .val (.int x5), .val (.int v6_2), .val (.int (v7_5 + (1 : Int32)))] [(.int (v7_5 + (1 : Int32)))] := Own.iload r d2_167 rfl
            replace r : A2 l Z n0 D h 0 0 170 #[.val (.ref a0_), .val (.int p1), .val (.int x2), .val (.int x3), .val (.int x4), .val (.int x5), .val (.int v6_2), .val (.int (v7_5 + (1 : Int32)))] [(.int p1), (.int (v7_5 + (1 : Int32)))] := Own.iloadN r d2_169 rfl
            replace r : A2 l Z n0 D h 0 0 171 #[.val (.ref a0_), .val (.int p1), .val (.int x2), .val (.int x3), .val (.int x4), .val (.int x5), .val (.int v6_2), .val (.int (v7_5 + (1 : Int32)))] [(.int x3), (.int p1), (.int (v7_5 + (1 : Int32)))] := Own.iloadN r d2_170 rfl
            replace r : A2 l Z n0 D h 0 0 172 #[.val (.ref a0_), .val (.int p1), .val (.int x2), .val (.int x3), .val (.int x4), .val (.int x5), .val (.int v6_2), .val (.int (v7_5 + (1 : Int32)))] [(.int (p1 + x3)), (.int (v7_5 + (1 : Int32)))] := Own.iadd r d2_171
            by_cases c8 : (v7_5 + (1 : Int32)) < (p1 + x3)
            · skip
              replace r : A2 l Z n0 D h 0 0 175 #[.val (.ref a0_), .val (.int p1), .val (.int x2), .val (.int x3), .val (.int x4), .val (.int x5), .val (.int v6_2), .val (.int (v7_5 + (1 : Int32)))] [] := Own.icmpNo r d2_172 (tlt c8).2.1
              replace r : A2 l Z n0 D h 0 0 176 #[.val (.ref a0_), .val (.int p1), .val (.int x2), .val (.int x3), .val (.int x4), .val (.int x5), .val (.int v6_2), .val (.int (v7_5 + (1 : Int32)))] [(.ref a0_)] := Own.aloadN r d2_175 rfl rfl
              replace r : A2 l Z n0 D h 0 0 178 #[.val (.ref a0_), .val (.int p1), .val (.int x2), .val (.int x3), .val (.int x4), .val (.int x5), .val (.int v6_2), .val (.int (v7_5 + (1 : Int32)))] [(.int (v7_5 + (1 : Int32))), (.ref a0_)] := Own.iload r d2_176 rfl
              replace r : A2 l Z n0 D h 0 0 179 #[.val (.ref a0_), .val (.int p1), .val (.int x2), .val (.int x3), .val (.int x4), .val (.int x5), .val (.int v6_2), .val (.int (v7_5 + (1 : Int32)))] [(.int (Own.ga L (v7_5 + (1 : Int32))))] := Own.baload r d2_178 V_a0_ (own_ldn hlen h0 h7 hx3 (by assumption) (j := (v7_5 + (1 : Int32))) (by assumption) (Or.inr (by rw [e_v7_5]; exact own_i23 p1))).1 (own_ldn hlen h0 h7 hx3 (by assumption) (j := (v7_5 + (1 : Int32))) (by assumption) (Or.inr (by rw [e_v7_5]; exact own_i23 p1))).2
              replace r : A2 l Z n0 D h 0 0 182 #[.val (.ref a0_), .val (.int p1), .val (.int x2), .val (.int x3), .val (.int x4), .val (.int x5), .val (.int v6_2), .val (.int (v7_5 + (1 : Int32)))] [(.int (192 : Int32)), (.int (Own.ga L (v7_5 + (1 : Int32))))] := Own.sipush r d2_179 rfl
              replace r : A2 l Z n0 D h 0 0 183 #[.val (.ref a0_), .val (.int p1), .val (.int x2), .val (.int x3), .val (.int x4), .val (.int x5), .val (.int v6_2), .val (.int (v7_5 + (1 : Int32)))] [(.int ((Own.ga L (v7_5 + (1 : Int32))) &&& (192 : Int32)))] := Own.iand r d2_182
              replace r : A2 l Z n0 D h 0 0 186 #[.val (.ref a0_), .val (.int p1), .val (.int x2), .val (.int x3), .val (.int x4), .val (.int x5), .val (.int v6_2), .val (.int (v7_5 + (1 : Int32)))] [(.int (128 : Int32)), (.int ((Own.ga L (v7_5 + (1 : Int32))) &&& (192 : Int32)))] := Own.sipush r d2_183 rfl
              by_cases c9 : ((Own.ga L (v7_5 + (1 : Int32))) &&& (192 : Int32)) = (128 : Int32)
              · skip
                replace r : A2 l Z n0 D h 0 0 191 #[.val (.ref a0_), .val (.int p1), .val (.int x2), .val (.int x3), .val (.int x4), .val (.int x5), .val (.int v6_2), .val (.int (v7_5 + (1 : Int32)))] [] := Own.icmpYes r d2_186 (teq c9).1 (by decide) (by decide)
                replace r : A2 l Z n0 D h 0 0 194 #[.val (.ref a0_), .val (.int p1), .val (.int x2), .val (.int x3), .val (.int x4), .val (.int x5), .val (.int v6_2), .val (.int ((v7_5 + (1 : Int32)) + (1 : Int32)))] [] := Own.iinc r d2_191 rfl rfl rfl
                replace r : A2 l Z n0 D h 0 0 167 #[.val (.ref a0_), .val (.int p1), .val (.int x2), .val (.int x3), .val (.int x4), .val (.int x5), .val (.int v6_2), .val (.int ((v7_5 + (1 : Int32)) + (1 : Int32)))] [] := Own.goto r d2_194 (by decide) (by decide)
                replace r : A2 l Z n0 D h 0 0 169 #[.val (.ref a0_), .val (.int p1), .val (.int x2), .val (.int x3), .val (.int x4), .val (.int x5), .val (.int v6_2), .val (.int ((v7_5 + (1 : Int32)) + (1 : Int32)))] [(.int ((v7_5 + (1 : Int32)) + (1 : Int32)))] := Own.iload r d2_167 rfl
                replace r : A2 l Z n0 D h 0 0 170 #[.val (.ref a0_), .val (.int p1), .val (.int x2), .val (.int x3), .val (.int x4), .val (.int x5), .val (.int v6_2), .val (.int ((v7_5 + (1 : Int32)) + (1 : Int32)))] [(.int p1), (.int ((v7_5 + (1 : Int32)) + (1 : Int32)))] := Own.iloadN r d2_169 rfl
                replace r : A2 l Z n0 D h 0 0 171 #[.val (.ref a0_), .val (.int p1), .val (.int x2), .val (.int x3), .val (.int x4), .val (.int x5), .val (.int v6_2), .val (.int ((v7_5 + (1 : Int32)) + (1 : Int32)))] [(.int x3), (.int p1), (.int ((v7_5 + (1 : Int32)) + (1 : Int32)))] := Own.iloadN r d2_170 rfl
                replace r : A2 l Z n0 D h 0 0 172 #[.val (.ref a0_), .val (.int p1), .val (.int x2), .val (.int x3), .val (.int x4), .val (.int x5), .val (.int v6_2), .val (.int ((v7_5 + (1 : Int32)) + (1 : Int32)))] [(.int (p1 + x3)), (.int ((v7_5 + (1 : Int32)) + (1 : Int32)))] := Own.iadd r d2_171
                replace r : A2 l Z n0 D h 0 0 197 #[.val (.ref a0_), .val (.int p1), .val (.int x2), .val (.int x3), .val (.int x4), .val (.int x5), .val (.int v6_2), .val (.int ((v7_5 + (1 : Int32)) + (1 : Int32)))] [] := Own.icmpYes r d2_172 (flt (own_out h0 h7 hx3 (by assumption) e_v7_5)).2.1 (by decide) (by decide)
                replace r : A2 l Z n0 D h 0 0 198 #[.val (.ref a0_), .val (.int p1), .val (.int x2), .val (.int x3), .val (.int x4), .val (.int x5), .val (.int v6_2), .val (.int ((v7_5 + (1 : Int32)) + (1 : Int32)))] [(.int x3)] := Own.iloadN r d2_197 rfl
                exact ⟨_, _, (Own.Rch.retI r d2_198).more (by decide) (by decide), rfl, _, rfl, ⟨fun q => absurd q c1, fun _ => ⟨v6_2, e_v6_2, ⟨fun q => absurd q c3, fun _ => ⟨fun q => absurd q c4, fun _ => ⟨v7_5, e_v7_5, ⟨fun _ => ⟨fun _ => ⟨fun _ => ⟨fun _ => rfl, fun q => absurd c9 q⟩, fun q => absurd c8 q⟩, fun q => absurd c7 q⟩, fun q => absurd c6 q⟩⟩⟩⟩⟩⟩⟩
              · skip
                replace r : A2 l Z n0 D h 0 0 189 #[.val (.ref a0_), .val (.int p1), .val (.int x2), .val (.int x3), .val (.int x4), .val (.int x5), .val (.int v6_2), .val (.int (v7_5 + (1 : Int32)))] [] := Own.icmpNo r d2_186 (feq c9).1
                replace r : A2 l Z n0 D h 0 0 190 #[.val (.ref a0_), .val (.int p1), .val (.int x2), .val (.int x3), .val (.int x4), .val (.int x5), .val (.int v6_2), .val (.int (v7_5 + (1 : Int32)))] [(.int (0 : Int32))] := Own.iconst r d2_189 rfl
                exact ⟨_, _, (Own.Rch.retI r d2_190).more (by decide) (by decide), rfl, _, rfl, ⟨fun q => absurd q c1, fun _ => ⟨v6_2, e_v6_2, ⟨fun q => absurd q c3, fun _ => ⟨fun q => absurd q c4, fun _ => ⟨v7_5, e_v7_5, ⟨fun _ => ⟨fun _ => ⟨fun _ => ⟨fun q => absurd q c9, fun _ => rfl⟩, fun q => absurd c8 q⟩, fun q => absurd c7 q⟩, fun q => absurd c6 q⟩⟩⟩⟩⟩⟩⟩
            · skip
              replace r : A2 l Z n0 D h 0 0 197 #[.val (.ref a0_), .val (.int p1), .val (.int x2), .val (.int x3), .val (.int x4), .val (.int x5), .val (.int v6_2), .val (.int (v7_5 + (1 : Int32)))] [] := Own.icmpYes r d2_172 (flt c8).2.1 (by decide) (by decide)
              replace r : A2 l Z n0 D h 0 0 198 #[.val (.ref a0_), .val (.int p1), .val (.int x2), .val (.int x3), .val (.int x4), .val (.int x5), .val (.int v6_2), .val (.int (v7_5 + (1 : Int32)))] [(.int x3)] := Own.iloadN r d2_197 rfl
              exact ⟨_, _, (Own.Rch.retI r d2_198).more (by decide) (by decide), rfl, _, rfl, ⟨fun q => absurd q c1, fun _ => ⟨v6_2, e_v6_2, ⟨fun q => absurd q c3, fun _ => ⟨fun q => absurd q c4, fun _ => ⟨v7_5, e_v7_5, ⟨fun _ => ⟨fun _ => ⟨fun q => absurd q c8, fun _ => rfl⟩, fun q => absurd c7 q⟩, fun q => absurd c6 q⟩⟩⟩⟩⟩⟩⟩
          · skip
            replace r : A2 l Z n0 D h 0 0 189 #[.val (.ref a0_), .val (.int p1), .val (.int x2), .val (.int x3), .val (.int x4), .val (.int x5), .val (.int v6_2), .val (.int v7_5)] [] := Own.icmpNo r d2_186 (feq c7).1
            replace r : A2 l Z n0 D h 0 0 190 #[.val (.ref a0_), .val (.int p1), .val (.int x2), .val (.int x3), .val (.int x4), .val (.int x5), .val (.int v6_2), .val (.int v7_5)] [(.int (0 : Int32))] := Own.iconst r d2_189 rfl
            exact ⟨_, _, (Own.Rch.retI r d2_190).more (by decide) (by decide), rfl, _, rfl, ⟨fun q => absurd q c1, fun _ => ⟨v6_2, e_v6_2, ⟨fun q => absurd q c3, fun _ => ⟨fun q => absurd q c4, fun _ => ⟨v7_5, e_v7_5, ⟨fun _ => ⟨fun q => absurd q c7, fun _ => rfl⟩, fun q => absurd c6 q⟩⟩⟩⟩⟩⟩⟩
        · skip
          replace r : A2 l Z n0 D h 0 0 197 #[.val (.ref a0_), .val (.int p1), .val (.int x2), .val (.int x3), .val (.int x4), .val (.int x5), .val (.int v6_2), .val (.int v7_5)] [] := Own.icmpYes r d2_172 (flt c6).2.1 (by decide) (by decide)
          replace r : A2 l Z n0 D h 0 0 198 #[.val (.ref a0_), .val (.int p1), .val (.int x2), .val (.int x3), .val (.int x4), .val (.int x5), .val (.int v6_2), .val (.int v7_5)] [(.int x3)] := Own.iloadN r d2_197 rfl
          exact ⟨_, _, (Own.Rch.retI r d2_198).more (by decide) (by decide), rfl, _, rfl, ⟨fun q => absurd q c1, fun _ => ⟨v6_2, e_v6_2, ⟨fun q => absurd q c3, fun _ => ⟨fun q => absurd q c4, fun _ => ⟨v7_5, e_v7_5, ⟨fun q => absurd q c6, fun _ => rfl⟩⟩⟩⟩⟩⟩⟩
def S2 (p1 : Int32) (L : List Int32) (w : Int32) : Prop := ∃ v2_1 : Int32, v2_1 = ((Own.ga L p1) &&& (255 : Int32)) ∧ ((v2_1 < (194 : Int32) → ((v2_1 < (224 : Int32) → ((v2_1 < (240 : Int32) → w = (0 : Int32)) ∧ (¬ (v2_1 < (240 : Int32)) → (((244 : Int32) < v2_1 → w = (0 : Int32)) ∧ (¬ ((244 : Int32) < v2_1) → ∃ m6 : Int32, m6 = (if v2_1 = (240 : Int32) then (144 : Int32) else (128 : Int32)) ∧ ((v2_1 = (244 : Int32) → S2_125 p1 L v2_1 (4 : Int32) m6 (143 : Int32) w) ∧ (¬ (v2_1 = (244 : Int32)) → S2_125 p1 L v2_1 (4 : Int32) m6 (191 : Int32) w))))))) ∧ (¬ (v2_1 < (224 : Int32)) → (((239 : Int32) < v2_1 → ((v2_1 < (240 : Int32) → w = (0 : Int32)) ∧ (¬ (v2_1 < (240 : Int32)) → (((244 : Int32) < v2_1 → w = (0 : Int32)) ∧ (¬ ((244 : Int32) < v2_1) → ∃ m12 : Int32, m12 = (if v2_1 = (240 : Int32) then (144 : Int32) else (128 : Int32)) ∧ ((v2_1 = (244 : Int32) → S2_125 p1 L v2_1 (4 : Int32) m12 (143 : Int32) w) ∧ (¬ (v2_1 = (244 : Int32)) → S2_125 p1 L v2_1 (4 : Int32) m12 (191 : Int32) w))))))) ∧ (¬ ((239 : Int32) < v2_1) → ∃ m15 : Int32, m15 = (if v2_1 = (224 : Int32) then (160 : Int32) else (128 : Int32)) ∧ ((v2_1 = (237 : Int32) → S2_125 p1 L v2_1 (3 : Int32) m15 (159 : Int32) w) ∧ (¬ (v2_1 = (237 : Int32)) → S2_125 p1 L v2_1 (3 : Int32) m15 (191 : Int32) w))))))) ∧ (¬ (v2_1 < (194 : Int32)) → (((223 : Int32) < v2_1 → ((v2_1 < (224 : Int32) → ((v2_1 < (240 : Int32) → w = (0 : Int32)) ∧ (¬ (v2_1 < (240 : Int32)) → (((244 : Int32) < v2_1 → w = (0 : Int32)) ∧ (¬ ((244 : Int32) < v2_1) → ∃ m22 : Int32, m22 = (if v2_1 = (240 : Int32) then (144 : Int32) else (128 : Int32)) ∧ ((v2_1 = (244 : Int32) → S2_125 p1 L v2_1 (4 : Int32) m22 (143 : Int32) w) ∧ (¬ (v2_1 = (244 : Int32)) → S2_125 p1 L v2_1 (4 : Int32) m22 (191 : Int32) w))))))) ∧ (¬ (v2_1 < (224 : Int32)) → (((239 : Int32) < v2_1 → ((v2_1 < (240 : Int32) → w = (0 : Int32)) ∧ (¬ (v2_1 < (240 : Int32)) → (((244 : Int32) < v2_1 → w = (0 : Int32)) ∧ (¬ ((244 : Int32) < v2_1) → ∃ m28 : Int32, m28 = (if v2_1 = (240 : Int32) then (144 : Int32) else (128 : Int32)) ∧ ((v2_1 = (244 : Int32) → S2_125 p1 L v2_1 (4 : Int32) m28 (143 : Int32) w) ∧ (¬ (v2_1 = (244 : Int32)) → S2_125 p1 L v2_1 (4 : Int32) m28 (191 : Int32) w))))))) ∧ (¬ ((239 : Int32) < v2_1) → ∃ m31 : Int32, m31 = (if v2_1 = (224 : Int32) then (160 : Int32) else (128 : Int32)) ∧ ((v2_1 = (237 : Int32) → S2_125 p1 L v2_1 (3 : Int32) m31 (159 : Int32) w) ∧ (¬ (v2_1 = (237 : Int32)) → S2_125 p1 L v2_1 (3 : Int32) m31 (191 : Int32) w))))))) ∧ (¬ ((223 : Int32) < v2_1) → S2_125 p1 L v2_1 (2 : Int32) (128 : Int32) (191 : Int32) w))))
set_option maxRecDepth 65536 in
set_option maxHeartbeats 40000000 in
theorem c2 (l : Launch) (Z : State) (a0 : Array Value) (hw : ∀ d ∈ tables_1, d.before a0 Z = true) (n0 : Nat) (h : Heap) (Zs : n0 ≤ h.size) (a0_ : Addr) (p1 : Int32) (L : List Int32) (V_a0_ : Own.VA Z h a0_ .byte (L.map Value.int)) (hlen : L.length = 8) (h0 : 0 ≤ p1.toInt) (h7 : p1.toInt ≤ 7) :
    Own.Con l Z n0 (⟨"needlework/cli/Scan", "sequenceLength", "([BI)I"⟩ : MethodName) prog_43_method_6_code 8 (some .int) R2 #[(.ref a0_), (.int p1)] h (fun v h' => h = h' ∧ ∃ w : Int32, v = some (.int w) ∧ S2 p1 L w) := by
  refine Own.Con.enter pn_2 (ef_2 a0_ p1) fun D r => ?_
  replace r : A2 l Z n0 D h 0 0 1 #[.val (.ref a0_), .val (.int p1), .unset, .unset, .unset, .unset, .unset, .unset] [(.ref a0_)] := Own.aloadN r d2_0 rfl rfl
  replace r : A2 l Z n0 D h 0 0 2 #[.val (.ref a0_), .val (.int p1), .unset, .unset, .unset, .unset, .unset, .unset] [(.int p1), (.ref a0_)] := Own.iloadN r d2_1 rfl
  replace r : A2 l Z n0 D h 0 0 3 #[.val (.ref a0_), .val (.int p1), .unset, .unset, .unset, .unset, .unset, .unset] [(.int (Own.ga L p1))] := Own.baload r d2_2 V_a0_ (own_ld0 hlen h0 h7).1 (own_ld0 hlen h0 h7).2
  replace r : A2 l Z n0 D h 0 0 6 #[.val (.ref a0_), .val (.int p1), .unset, .unset, .unset, .unset, .unset, .unset] [(.int (255 : Int32)), (.int (Own.ga L p1))] := Own.sipush r d2_3 rfl
  replace r : A2 l Z n0 D h 0 0 7 #[.val (.ref a0_), .val (.int p1), .unset, .unset, .unset, .unset, .unset, .unset] [(.int ((Own.ga L p1) &&& (255 : Int32)))] := Own.iand r d2_6
  obtain ⟨v2_1, e_v2_1⟩ : ∃ z : Int32, z = ((Own.ga L p1) &&& (255 : Int32)) := ⟨_, rfl⟩
  replace r : A2 l Z n0 D h 0 0 7 #[.val (.ref a0_), .val (.int p1), .unset, .unset, .unset, .unset, .unset, .unset] [(.int v2_1)] := by rw [e_v2_1]; exact r
  replace r : A2 l Z n0 D h 0 0 8 #[.val (.ref a0_), .val (.int p1), .val (.int v2_1), .unset, .unset, .unset, .unset, .unset] [] := Own.istoreN r d2_7 rfl
  replace r : A2 l Z n0 D h 0 0 11 #[.val (.ref a0_), .val (.int p1), .val (.int v2_1), .unset, .unset, .unset, .unset, .unset] [(.int (128 : Int32))] := Own.sipush r d2_8 rfl
  replace r : A2 l Z n0 D h 0 0 13 #[.val (.ref a0_), .val (.int p1), .val (.int v2_1), .unset, .val (.int (128 : Int32)), .unset, .unset, .unset] [] := Own.istore r d2_11 rfl
  replace r : A2 l Z n0 D h 0 0 16 #[.val (.ref a0_), .val (.int p1), .val (.int v2_1), .unset, .val (.int (128 : Int32)), .unset, .unset, .unset] [(.int (191 : Int32))] := Own.sipush r d2_13 rfl
  replace r : A2 l Z n0 D h 0 0 18 #[.val (.ref a0_), .val (.int p1), .val (.int v2_1), .unset, .val (.int (128 : Int32)), .val (.int (191 : Int32)), .unset, .unset] [] := Own.istore r d2_16 rfl
  replace r : A2 l Z n0 D h 0 0 19 #[.val (.ref a0_), .val (.int p1), .val (.int v2_1), .unset, .val (.int (128 : Int32)), .val (.int (191 : Int32)), .unset, .unset] [(.int v2_1)] := Own.iloadN r d2_18 rfl
  replace r : A2 l Z n0 D h 0 0 22 #[.val (.ref a0_), .val (.int p1), .val (.int v2_1), .unset, .val (.int (128 : Int32)), .val (.int (191 : Int32)), .unset, .unset] [(.int (194 : Int32)), (.int v2_1)] := Own.sipush r d2_19 rfl
  by_cases c2 : v2_1 < (194 : Int32)
  · skip
    replace r : A2 l Z n0 D h 0 0 37 #[.val (.ref a0_), .val (.int p1), .val (.int v2_1), .unset, .val (.int (128 : Int32)), .val (.int (191 : Int32)), .unset, .unset] [] := Own.icmpYes r d2_22 (tlt c2).1 (by decide) (by decide)
    replace r : A2 l Z n0 D h 0 0 38 #[.val (.ref a0_), .val (.int p1), .val (.int v2_1), .unset, .val (.int (128 : Int32)), .val (.int (191 : Int32)), .unset, .unset] [(.int v2_1)] := Own.iloadN r d2_37 rfl
    replace r : A2 l Z n0 D h 0 0 41 #[.val (.ref a0_), .val (.int p1), .val (.int v2_1), .unset, .val (.int (128 : Int32)), .val (.int (191 : Int32)), .unset, .unset] [(.int (224 : Int32)), (.int v2_1)] := Own.sipush r d2_38 rfl
    by_cases c3 : v2_1 < (224 : Int32)
    · skip
      replace r : A2 l Z n0 D h 0 0 80 #[.val (.ref a0_), .val (.int p1), .val (.int v2_1), .unset, .val (.int (128 : Int32)), .val (.int (191 : Int32)), .unset, .unset] [] := Own.icmpYes r d2_41 (tlt c3).1 (by decide) (by decide)
      replace r : A2 l Z n0 D h 0 0 81 #[.val (.ref a0_), .val (.int p1), .val (.int v2_1), .unset, .val (.int (128 : Int32)), .val (.int (191 : Int32)), .unset, .unset] [(.int v2_1)] := Own.iloadN r d2_80 rfl
      replace r : A2 l Z n0 D h 0 0 84 #[.val (.ref a0_), .val (.int p1), .val (.int v2_1), .unset, .val (.int (128 : Int32)), .val (.int (191 : Int32)), .unset, .unset] [(.int (240 : Int32)), (.int v2_1)] := Own.sipush r d2_81 rfl
      by_cases c4 : v2_1 < (240 : Int32)
      · skip
        replace r : A2 l Z n0 D h 0 0 123 #[.val (.ref a0_), .val (.int p1), .val (.int v2_1), .unset, .val (.int (128 : Int32)), .val (.int (191 : Int32)), .unset, .unset] [] := Own.icmpYes r d2_84 (tlt c4).1 (by decide) (by decide)
        replace r : A2 l Z n0 D h 0 0 124 #[.val (.ref a0_), .val (.int p1), .val (.int v2_1), .unset, .val (.int (128 : Int32)), .val (.int (191 : Int32)), .unset, .unset] [(.int (0 : Int32))] := Own.iconst r d2_123 rfl
        exact ⟨_, _, (Own.Rch.retI r d2_124).more (by decide) (by decide), rfl, _, rfl, ⟨v2_1, e_v2_1, ⟨fun _ => ⟨fun _ => ⟨fun _ => rfl, fun q => absurd c4 q⟩, fun q => absurd c3 q⟩, fun q => absurd c2 q⟩⟩⟩
      · skip
        replace r : A2 l Z n0 D h 0 0 87 #[.val (.ref a0_), .val (.int p1), .val (.int v2_1), .unset, .val (.int (128 : Int32)), .val (.int (191 : Int32)), .unset, .unset] [] := Own.icmpNo r d2_84 (flt c4).1
        replace r : A2 l Z n0 D h 0 0 88 #[.val (.ref a0_), .val (.int p1), .val (.int v2_1), .unset, .val (.int (128 : Int32)), .val (.int (191 : Int32)), .unset, .unset] [(.int v2_1)] := Own.iloadN r d2_87 rfl
        replace r : A2 l Z n0 D h 0 0 91 #[.val (.ref a0_), .val (.int p1), .val (.int v2_1), .unset, .val (.int (128 : Int32)), .val (.int (191 : Int32)), .unset, .unset] [(.int (244 : Int32)), (.int v2_1)] := Own.sipush r d2_88 rfl
        by_cases c5 : (244 : Int32) < v2_1
        · skip
          replace r : A2 l Z n0 D h 0 0 123 #[.val (.ref a0_), .val (.int p1), .val (.int v2_1), .unset, .val (.int (128 : Int32)), .val (.int (191 : Int32)), .unset, .unset] [] := Own.icmpYes r d2_91 (tlt c5).2.2.1 (by decide) (by decide)
          replace r : A2 l Z n0 D h 0 0 124 #[.val (.ref a0_), .val (.int p1), .val (.int v2_1), .unset, .val (.int (128 : Int32)), .val (.int (191 : Int32)), .unset, .unset] [(.int (0 : Int32))] := Own.iconst r d2_123 rfl
          exact ⟨_, _, (Own.Rch.retI r d2_124).more (by decide) (by decide), rfl, _, rfl, ⟨v2_1, e_v2_1, ⟨fun _ => ⟨fun _ => ⟨fun q => absurd q c4, fun _ => ⟨fun _ => rfl, fun q => absurd c5 q⟩⟩, fun q => absurd c3 q⟩, fun q => absurd c2 q⟩⟩⟩
        · skip
          replace r : A2 l Z n0 D h 0 0 94 #[.val (.ref a0_), .val (.int p1), .val (.int v2_1), .unset, .val (.int (128 : Int32)), .val (.int (191 : Int32)), .unset, .unset] [] := Own.icmpNo r d2_91 (flt c5).2.2.1
          replace r : A2 l Z n0 D h 0 0 95 #[.val (.ref a0_), .val (.int p1), .val (.int v2_1), .unset, .val (.int (128 : Int32)), .val (.int (191 : Int32)), .unset, .unset] [(.int (4 : Int32))] := Own.iconst r d2_94 rfl
          replace r : A2 l Z n0 D h 0 0 96 #[.val (.ref a0_), .val (.int p1), .val (.int v2_1), .val (.int (4 : Int32)), .val (.int (128 : Int32)), .val (.int (191 : Int32)), .unset, .unset] [] := Own.istoreN r d2_95 rfl
          replace r : A2 l Z n0 D h 0 0 97 #[.val (.ref a0_), .val (.int p1), .val (.int v2_1), .val (.int (4 : Int32)), .val (.int (128 : Int32)), .val (.int (191 : Int32)), .unset, .unset] [(.int v2_1)] := Own.iloadN r d2_96 rfl
          replace r : A2 l Z n0 D h 0 0 100 #[.val (.ref a0_), .val (.int p1), .val (.int v2_1), .val (.int (4 : Int32)), .val (.int (128 : Int32)), .val (.int (191 : Int32)), .unset, .unset] [(.int (240 : Int32)), (.int v2_1)] := Own.sipush r d2_97 rfl
          obtain ⟨m6, e_m6, r⟩ : ∃ (m6 : Int32), m6 = (if v2_1 = (240 : Int32) then (144 : Int32) else (128 : Int32)) ∧ A2 l Z n0 D h 0 0 108 #[.val (.ref a0_), .val (.int p1), .val (.int v2_1), .val (.int (4 : Int32)), .val (.int m6), .val (.int (191 : Int32)), .unset, .unset] [] := by
            by_cases c7 : v2_1 = (240 : Int32)
            · skip
              replace r : A2 l Z n0 D h 0 0 103 #[.val (.ref a0_), .val (.int p1), .val (.int v2_1), .val (.int (4 : Int32)), .val (.int (128 : Int32)), .val (.int (191 : Int32)), .unset, .unset] [] := Own.icmpNo r d2_100 (teq c7).2
              replace r : A2 l Z n0 D h 0 0 106 #[.val (.ref a0_), .val (.int p1), .val (.int v2_1), .val (.int (4 : Int32)), .val (.int (128 : Int32)), .val (.int (191 : Int32)), .unset, .unset] [(.int (144 : Int32))] := Own.sipush r d2_103 rfl
              replace r : A2 l Z n0 D h 0 0 108 #[.val (.ref a0_), .val (.int p1), .val (.int v2_1), .val (.int (4 : Int32)), .val (.int (144 : Int32)), .val (.int (191 : Int32)), .unset, .unset] [] := Own.istore r d2_106 rfl
              exact ⟨_, by rw [if_pos c7], r⟩
            · skip
              replace r : A2 l Z n0 D h 0 0 108 #[.val (.ref a0_), .val (.int p1), .val (.int v2_1), .val (.int (4 : Int32)), .val (.int (128 : Int32)), .val (.int (191 : Int32)), .unset, .unset] [] := Own.icmpYes r d2_100 (feq c7).2 (by decide) (by decide)
              exact ⟨_, by rw [if_neg c7], r⟩
          replace r : A2 l Z n0 D h 0 0 109 #[.val (.ref a0_), .val (.int p1), .val (.int v2_1), .val (.int (4 : Int32)), .val (.int m6), .val (.int (191 : Int32)), .unset, .unset] [(.int v2_1)] := Own.iloadN r d2_108 rfl
          replace r : A2 l Z n0 D h 0 0 112 #[.val (.ref a0_), .val (.int p1), .val (.int v2_1), .val (.int (4 : Int32)), .val (.int m6), .val (.int (191 : Int32)), .unset, .unset] [(.int (244 : Int32)), (.int v2_1)] := Own.sipush r d2_109 rfl
          by_cases c8 : v2_1 = (244 : Int32)
          · skip
            replace r : A2 l Z n0 D h 0 0 115 #[.val (.ref a0_), .val (.int p1), .val (.int v2_1), .val (.int (4 : Int32)), .val (.int m6), .val (.int (191 : Int32)), .unset, .unset] [] := Own.icmpNo r d2_112 (teq c8).2
            replace r : A2 l Z n0 D h 0 0 118 #[.val (.ref a0_), .val (.int p1), .val (.int v2_1), .val (.int (4 : Int32)), .val (.int m6), .val (.int (191 : Int32)), .unset, .unset] [(.int (143 : Int32))] := Own.sipush r d2_115 rfl
            replace r : A2 l Z n0 D h 0 0 120 #[.val (.ref a0_), .val (.int p1), .val (.int v2_1), .val (.int (4 : Int32)), .val (.int m6), .val (.int (143 : Int32)), .unset, .unset] [] := Own.istore r d2_118 rfl
            replace r : A2 l Z n0 D h 0 0 125 #[.val (.ref a0_), .val (.int p1), .val (.int v2_1), .val (.int (4 : Int32)), .val (.int m6), .val (.int (143 : Int32)), .unset, .unset] [] := Own.goto r d2_120 (by decide) (by decide)
            obtain ⟨_, _, hd, e1, w, e2, hS⟩ := t2_125 l Z a0 hw n0 h Zs D a0_ p1 L V_a0_ hlen h0 h7 v2_1 (4 : Int32) m6 (143 : Int32) (Or.inr (Or.inr rfl)) r
            exact ⟨_, _, hd, e1, w, e2, ⟨v2_1, e_v2_1, ⟨fun _ => ⟨fun _ => ⟨fun q => absurd q c4, fun _ => ⟨fun q => absurd q c5, fun _ => ⟨m6, e_m6, ⟨fun _ => hS, fun q => absurd c8 q⟩⟩⟩⟩, fun q => absurd c3 q⟩, fun q => absurd c2 q⟩⟩⟩
          · skip
            replace r : A2 l Z n0 D h 0 0 125 #[.val (.ref a0_), .val (.int p1), .val (.int v2_1), .val (.int (4 : Int32)), .val (.int m6), .val (.int (191 : Int32)), .unset, .unset] [] := Own.icmpYes r d2_112 (feq c8).2 (by decide) (by decide)
            obtain ⟨_, _, hd, e1, w, e2, hS⟩ := t2_125 l Z a0 hw n0 h Zs D a0_ p1 L V_a0_ hlen h0 h7 v2_1 (4 : Int32) m6 (191 : Int32) (Or.inr (Or.inr rfl)) r
            exact ⟨_, _, hd, e1, w, e2, ⟨v2_1, e_v2_1, ⟨fun _ => ⟨fun _ => ⟨fun q => absurd q c4, fun _ => ⟨fun q => absurd q c5, fun _ => ⟨m6, e_m6, ⟨fun q => absurd q c8, fun _ => hS⟩⟩⟩⟩, fun q => absurd c3 q⟩, fun q => absurd c2 q⟩⟩⟩
    · skip
      replace r : A2 l Z n0 D h 0 0 44 #[.val (.ref a0_), .val (.int p1), .val (.int v2_1), .unset, .val (.int (128 : Int32)), .val (.int (191 : Int32)), .unset, .unset] [] := Own.icmpNo r d2_41 (flt c3).1
      replace r : A2 l Z n0 D h 0 0 45 #[.val (.ref a0_), .val (.int p1), .val (.int v2_1), .unset, .val (.int (128 : Int32)), .val (.int (191 : Int32)), .unset, .unset] [(.int v2_1)] := Own.iloadN r d2_44 rfl
      replace r : A2 l Z n0 D h 0 0 48 #[.val (.ref a0_), .val (.int p1), .val (.int v2_1), .unset, .val (.int (128 : Int32)), .val (.int (191 : Int32)), .unset, .unset] [(.int (239 : Int32)), (.int v2_1)] := Own.sipush r d2_45 rfl
      by_cases c9 : (239 : Int32) < v2_1
      · skip
        replace r : A2 l Z n0 D h 0 0 80 #[.val (.ref a0_), .val (.int p1), .val (.int v2_1), .unset, .val (.int (128 : Int32)), .val (.int (191 : Int32)), .unset, .unset] [] := Own.icmpYes r d2_48 (tlt c9).2.2.1 (by decide) (by decide)
        replace r : A2 l Z n0 D h 0 0 81 #[.val (.ref a0_), .val (.int p1), .val (.int v2_1), .unset, .val (.int (128 : Int32)), .val (.int (191 : Int32)), .unset, .unset] [(.int v2_1)] := Own.iloadN r d2_80 rfl
        replace r : A2 l Z n0 D h 0 0 84 #[.val (.ref a0_), .val (.int p1), .val (.int v2_1), .unset, .val (.int (128 : Int32)), .val (.int (191 : Int32)), .unset, .unset] [(.int (240 : Int32)), (.int v2_1)] := Own.sipush r d2_81 rfl
        by_cases c10 : v2_1 < (240 : Int32)
        · skip
          replace r : A2 l Z n0 D h 0 0 123 #[.val (.ref a0_), .val (.int p1), .val (.int v2_1), .unset, .val (.int (128 : Int32)), .val (.int (191 : Int32)), .unset, .unset] [] := Own.icmpYes r d2_84 (tlt c10).1 (by decide) (by decide)
          replace r : A2 l Z n0 D h 0 0 124 #[.val (.ref a0_), .val (.int p1), .val (.int v2_1), .unset, .val (.int (128 : Int32)), .val (.int (191 : Int32)), .unset, .unset] [(.int (0 : Int32))] := Own.iconst r d2_123 rfl
          exact ⟨_, _, (Own.Rch.retI r d2_124).more (by decide) (by decide), rfl, _, rfl, ⟨v2_1, e_v2_1, ⟨fun _ => ⟨fun q => absurd q c3, fun _ => ⟨fun _ => ⟨fun _ => rfl, fun q => absurd c10 q⟩, fun q => absurd c9 q⟩⟩, fun q => absurd c2 q⟩⟩⟩
        · skip
          replace r : A2 l Z n0 D h 0 0 87 #[.val (.ref a0_), .val (.int p1), .val (.int v2_1), .unset, .val (.int (128 : Int32)), .val (.int (191 : Int32)), .unset, .unset] [] := Own.icmpNo r d2_84 (flt c10).1
          replace r : A2 l Z n0 D h 0 0 88 #[.val (.ref a0_), .val (.int p1), .val (.int v2_1), .unset, .val (.int (128 : Int32)), .val (.int (191 : Int32)), .unset, .unset] [(.int v2_1)] := Own.iloadN r d2_87 rfl
          replace r : A2 l Z n0 D h 0 0 91 #[.val (.ref a0_), .val (.int p1), .val (.int v2_1), .unset, .val (.int (128 : Int32)), .val (.int (191 : Int32)), .unset, .unset] [(.int (244 : Int32)), (.int v2_1)] := Own.sipush r d2_88 rfl
          by_cases c11 : (244 : Int32) < v2_1
          · skip
            replace r : A2 l Z n0 D h 0 0 123 #[.val (.ref a0_), .val (.int p1), .val (.int v2_1), .unset, .val (.int (128 : Int32)), .val (.int (191 : Int32)), .unset, .unset] [] := Own.icmpYes r d2_91 (tlt c11).2.2.1 (by decide) (by decide)
            replace r : A2 l Z n0 D h 0 0 124 #[.val (.ref a0_), .val (.int p1), .val (.int v2_1), .unset, .val (.int (128 : Int32)), .val (.int (191 : Int32)), .unset, .unset] [(.int (0 : Int32))] := Own.iconst r d2_123 rfl
            exact ⟨_, _, (Own.Rch.retI r d2_124).more (by decide) (by decide), rfl, _, rfl, ⟨v2_1, e_v2_1, ⟨fun _ => ⟨fun q => absurd q c3, fun _ => ⟨fun _ => ⟨fun q => absurd q c10, fun _ => ⟨fun _ => rfl, fun q => absurd c11 q⟩⟩, fun q => absurd c9 q⟩⟩, fun q => absurd c2 q⟩⟩⟩
          · skip
            replace r : A2 l Z n0 D h 0 0 94 #[.val (.ref a0_), .val (.int p1), .val (.int v2_1), .unset, .val (.int (128 : Int32)), .val (.int (191 : Int32)), .unset, .unset] [] := Own.icmpNo r d2_91 (flt c11).2.2.1
            replace r : A2 l Z n0 D h 0 0 95 #[.val (.ref a0_), .val (.int p1), .val (.int v2_1), .unset, .val (.int (128 : Int32)), .val (.int (191 : Int32)), .unset, .unset] [(.int (4 : Int32))] := Own.iconst r d2_94 rfl
            replace r : A2 l Z n0 D h 0 0 96 #[.val (.ref a0_), .val (.int p1), .val (.int v2_1), .val (.int (4 : Int32)), .val (.int (128 : Int32)), .val (.int (191 : Int32)), .unset, .unset] [] := Own.istoreN r d2_95 rfl
            replace r : A2 l Z n0 D h 0 0 97 #[.val (.ref a0_), .val (.int p1), .val (.int v2_1), .val (.int (4 : Int32)), .val (.int (128 : Int32)), .val (.int (191 : Int32)), .unset, .unset] [(.int v2_1)] := Own.iloadN r d2_96 rfl
            replace r : A2 l Z n0 D h 0 0 100 #[.val (.ref a0_), .val (.int p1), .val (.int v2_1), .val (.int (4 : Int32)), .val (.int (128 : Int32)), .val (.int (191 : Int32)), .unset, .unset] [(.int (240 : Int32)), (.int v2_1)] := Own.sipush r d2_97 rfl
            obtain ⟨m12, e_m12, r⟩ : ∃ (m12 : Int32), m12 = (if v2_1 = (240 : Int32) then (144 : Int32) else (128 : Int32)) ∧ A2 l Z n0 D h 0 0 108 #[.val (.ref a0_), .val (.int p1), .val (.int v2_1), .val (.int (4 : Int32)), .val (.int m12), .val (.int (191 : Int32)), .unset, .unset] [] := by
              by_cases c13 : v2_1 = (240 : Int32)
              · skip
                replace r : A2 l Z n0 D h 0 0 103 #[.val (.ref a0_), .val (.int p1), .val (.int v2_1), .val (.int (4 : Int32)), .val (.int (128 : Int32)), .val (.int (191 : Int32)), .unset, .unset] [] := Own.icmpNo r d2_100 (teq c13).2
                replace r : A2 l Z n0 D h 0 0 106 #[.val (.ref a0_), .val (.int p1), .val (.int v2_1), .val (.int (4 : Int32)), .val (.int (128 : Int32)), .val (.int (191 : Int32)), .unset, .unset] [(.int (144 : Int32))] := Own.sipush r d2_103 rfl
                replace r : A2 l Z n0 D h 0 0 108 #[.val (.ref a0_), .val (.int p1), .val (.int v2_1), .val (.int (4 : Int32)), .val (.int (144 : Int32)), .val (.int (191 : Int32)), .unset, .unset] [] := Own.istore r d2_106 rfl
                exact ⟨_, by rw [if_pos c13], r⟩
              · skip
                replace r : A2 l Z n0 D h 0 0 108 #[.val (.ref a0_), .val (.int p1), .val (.int v2_1), .val (.int (4 : Int32)), .val (.int (128 : Int32)), .val (.int (191 : Int32)), .unset, .unset] [] := Own.icmpYes r d2_100 (feq c13).2 (by decide) (by decide)
                exact ⟨_, by rw [if_neg c13], r⟩
            replace r : A2 l Z n0 D h 0 0 109 #[.val (.ref a0_), .val (.int p1), .val (.int v2_1), .val (.int (4 : Int32)), .val (.int m12), .val (.int (191 : Int32)), .unset, .unset] [(.int v2_1)] := Own.iloadN r d2_108 rfl
            replace r : A2 l Z n0 D h 0 0 112 #[.val (.ref a0_), .val (.int p1), .val (.int v2_1), .val (.int (4 : Int32)), .val (.int m12), .val (.int (191 : Int32)), .unset, .unset] [(.int (244 : Int32)), (.int v2_1)] := Own.sipush r d2_109 rfl
            by_cases c14 : v2_1 = (244 : Int32)
            · skip
              replace r : A2 l Z n0 D h 0 0 115 #[.val (.ref a0_), .val (.int p1), .val (.int v2_1), .val (.int (4 : Int32)), .val (.int m12), .val (.int (191 : Int32)), .unset, .unset] [] := Own.icmpNo r d2_112 (teq c14).2
              replace r : A2 l Z n0 D h 0 0 118 #[.val (.ref a0_), .val (.int p1), .val (.int v2_1), .val (.int (4 : Int32)), .val (.int m12), .val (.int (191 : Int32)), .unset, .unset] [(.int (143 : Int32))] := Own.sipush r d2_115 rfl
              replace r : A2 l Z n0 D h 0 0 120 #[.val (.ref a0_), .val (.int p1), .val (.int v2_1), .val (.int (4 : Int32)), .val (.int m12), .val (.int (143 : Int32)), .unset, .unset] [] := Own.istore r d2_118 rfl
              replace r : A2 l Z n0 D h 0 0 125 #[.val (.ref a0_), .val (.int p1), .val (.int v2_1), .val (.int (4 : Int32)), .val (.int m12), .val (.int (143 : Int32)), .unset, .unset] [] := Own.goto r d2_120 (by decide) (by decide)
              obtain ⟨_, _, hd, e1, w, e2, hS⟩ := t2_125 l Z a0 hw n0 h Zs D a0_ p1 L V_a0_ hlen h0 h7 v2_1 (4 : Int32) m12 (143 : Int32) (Or.inr (Or.inr rfl)) r
              exact ⟨_, _, hd, e1, w, e2, ⟨v2_1, e_v2_1, ⟨fun _ => ⟨fun q => absurd q c3, fun _ => ⟨fun _ => ⟨fun q => absurd q c10, fun _ => ⟨fun q => absurd q c11, fun _ => ⟨m12, e_m12, ⟨fun _ => hS, fun q => absurd c14 q⟩⟩⟩⟩, fun q => absurd c9 q⟩⟩, fun q => absurd c2 q⟩⟩⟩
            · skip
              replace r : A2 l Z n0 D h 0 0 125 #[.val (.ref a0_), .val (.int p1), .val (.int v2_1), .val (.int (4 : Int32)), .val (.int m12), .val (.int (191 : Int32)), .unset, .unset] [] := Own.icmpYes r d2_112 (feq c14).2 (by decide) (by decide)
              obtain ⟨_, _, hd, e1, w, e2, hS⟩ := t2_125 l Z a0 hw n0 h Zs D a0_ p1 L V_a0_ hlen h0 h7 v2_1 (4 : Int32) m12 (191 : Int32) (Or.inr (Or.inr rfl)) r
              exact ⟨_, _, hd, e1, w, e2, ⟨v2_1, e_v2_1, ⟨fun _ => ⟨fun q => absurd q c3, fun _ => ⟨fun _ => ⟨fun q => absurd q c10, fun _ => ⟨fun q => absurd q c11, fun _ => ⟨m12, e_m12, ⟨fun q => absurd q c14, fun _ => hS⟩⟩⟩⟩, fun q => absurd c9 q⟩⟩, fun q => absurd c2 q⟩⟩⟩
      · skip
        replace r : A2 l Z n0 D h 0 0 51 #[.val (.ref a0_), .val (.int p1), .val (.int v2_1), .unset, .val (.int (128 : Int32)), .val (.int (191 : Int32)), .unset, .unset] [] := Own.icmpNo r d2_48 (flt c9).2.2.1
        replace r : A2 l Z n0 D h 0 0 52 #[.val (.ref a0_), .val (.int p1), .val (.int v2_1), .unset, .val (.int (128 : Int32)), .val (.int (191 : Int32)), .unset, .unset] [(.int (3 : Int32))] := Own.iconst r d2_51 rfl
        replace r : A2 l Z n0 D h 0 0 53 #[.val (.ref a0_), .val (.int p1), .val (.int v2_1), .val (.int (3 : Int32)), .val (.int (128 : Int32)), .val (.int (191 : Int32)), .unset, .unset] [] := Own.istoreN r d2_52 rfl
        replace r : A2 l Z n0 D h 0 0 54 #[.val (.ref a0_), .val (.int p1), .val (.int v2_1), .val (.int (3 : Int32)), .val (.int (128 : Int32)), .val (.int (191 : Int32)), .unset, .unset] [(.int v2_1)] := Own.iloadN r d2_53 rfl
        replace r : A2 l Z n0 D h 0 0 57 #[.val (.ref a0_), .val (.int p1), .val (.int v2_1), .val (.int (3 : Int32)), .val (.int (128 : Int32)), .val (.int (191 : Int32)), .unset, .unset] [(.int (224 : Int32)), (.int v2_1)] := Own.sipush r d2_54 rfl
        obtain ⟨m15, e_m15, r⟩ : ∃ (m15 : Int32), m15 = (if v2_1 = (224 : Int32) then (160 : Int32) else (128 : Int32)) ∧ A2 l Z n0 D h 0 0 65 #[.val (.ref a0_), .val (.int p1), .val (.int v2_1), .val (.int (3 : Int32)), .val (.int m15), .val (.int (191 : Int32)), .unset, .unset] [] := by
          by_cases c16 : v2_1 = (224 : Int32)
          · skip
            replace r : A2 l Z n0 D h 0 0 60 #[.val (.ref a0_), .val (.int p1), .val (.int v2_1), .val (.int (3 : Int32)), .val (.int (128 : Int32)), .val (.int (191 : Int32)), .unset, .unset] [] := Own.icmpNo r d2_57 (teq c16).2
            replace r : A2 l Z n0 D h 0 0 63 #[.val (.ref a0_), .val (.int p1), .val (.int v2_1), .val (.int (3 : Int32)), .val (.int (128 : Int32)), .val (.int (191 : Int32)), .unset, .unset] [(.int (160 : Int32))] := Own.sipush r d2_60 rfl
            replace r : A2 l Z n0 D h 0 0 65 #[.val (.ref a0_), .val (.int p1), .val (.int v2_1), .val (.int (3 : Int32)), .val (.int (160 : Int32)), .val (.int (191 : Int32)), .unset, .unset] [] := Own.istore r d2_63 rfl
            exact ⟨_, by rw [if_pos c16], r⟩
          · skip
            replace r : A2 l Z n0 D h 0 0 65 #[.val (.ref a0_), .val (.int p1), .val (.int v2_1), .val (.int (3 : Int32)), .val (.int (128 : Int32)), .val (.int (191 : Int32)), .unset, .unset] [] := Own.icmpYes r d2_57 (feq c16).2 (by decide) (by decide)
            exact ⟨_, by rw [if_neg c16], r⟩
        replace r : A2 l Z n0 D h 0 0 66 #[.val (.ref a0_), .val (.int p1), .val (.int v2_1), .val (.int (3 : Int32)), .val (.int m15), .val (.int (191 : Int32)), .unset, .unset] [(.int v2_1)] := Own.iloadN r d2_65 rfl
        replace r : A2 l Z n0 D h 0 0 69 #[.val (.ref a0_), .val (.int p1), .val (.int v2_1), .val (.int (3 : Int32)), .val (.int m15), .val (.int (191 : Int32)), .unset, .unset] [(.int (237 : Int32)), (.int v2_1)] := Own.sipush r d2_66 rfl
        by_cases c17 : v2_1 = (237 : Int32)
        · skip
          replace r : A2 l Z n0 D h 0 0 72 #[.val (.ref a0_), .val (.int p1), .val (.int v2_1), .val (.int (3 : Int32)), .val (.int m15), .val (.int (191 : Int32)), .unset, .unset] [] := Own.icmpNo r d2_69 (teq c17).2
          replace r : A2 l Z n0 D h 0 0 75 #[.val (.ref a0_), .val (.int p1), .val (.int v2_1), .val (.int (3 : Int32)), .val (.int m15), .val (.int (191 : Int32)), .unset, .unset] [(.int (159 : Int32))] := Own.sipush r d2_72 rfl
          replace r : A2 l Z n0 D h 0 0 77 #[.val (.ref a0_), .val (.int p1), .val (.int v2_1), .val (.int (3 : Int32)), .val (.int m15), .val (.int (159 : Int32)), .unset, .unset] [] := Own.istore r d2_75 rfl
          replace r : A2 l Z n0 D h 0 0 125 #[.val (.ref a0_), .val (.int p1), .val (.int v2_1), .val (.int (3 : Int32)), .val (.int m15), .val (.int (159 : Int32)), .unset, .unset] [] := Own.goto r d2_77 (by decide) (by decide)
          obtain ⟨_, _, hd, e1, w, e2, hS⟩ := t2_125 l Z a0 hw n0 h Zs D a0_ p1 L V_a0_ hlen h0 h7 v2_1 (3 : Int32) m15 (159 : Int32) (Or.inr (Or.inl rfl)) r
          exact ⟨_, _, hd, e1, w, e2, ⟨v2_1, e_v2_1, ⟨fun _ => ⟨fun q => absurd q c3, fun _ => ⟨fun q => absurd q c9, fun _ => ⟨m15, e_m15, ⟨fun _ => hS, fun q => absurd c17 q⟩⟩⟩⟩, fun q => absurd c2 q⟩⟩⟩
        · skip
          replace r : A2 l Z n0 D h 0 0 125 #[.val (.ref a0_), .val (.int p1), .val (.int v2_1), .val (.int (3 : Int32)), .val (.int m15), .val (.int (191 : Int32)), .unset, .unset] [] := Own.icmpYes r d2_69 (feq c17).2 (by decide) (by decide)
          obtain ⟨_, _, hd, e1, w, e2, hS⟩ := t2_125 l Z a0 hw n0 h Zs D a0_ p1 L V_a0_ hlen h0 h7 v2_1 (3 : Int32) m15 (191 : Int32) (Or.inr (Or.inl rfl)) r
          exact ⟨_, _, hd, e1, w, e2, ⟨v2_1, e_v2_1, ⟨fun _ => ⟨fun q => absurd q c3, fun _ => ⟨fun q => absurd q c9, fun _ => ⟨m15, e_m15, ⟨fun q => absurd q c17, fun _ => hS⟩⟩⟩⟩, fun q => absurd c2 q⟩⟩⟩
  · skip
    replace r : A2 l Z n0 D h 0 0 25 #[.val (.ref a0_), .val (.int p1), .val (.int v2_1), .unset, .val (.int (128 : Int32)), .val (.int (191 : Int32)), .unset, .unset] [] := Own.icmpNo r d2_22 (flt c2).1
    replace r : A2 l Z n0 D h 0 0 26 #[.val (.ref a0_), .val (.int p1), .val (.int v2_1), .unset, .val (.int (128 : Int32)), .val (.int (191 : Int32)), .unset, .unset] [(.int v2_1)] := Own.iloadN r d2_25 rfl
    replace r : A2 l Z n0 D h 0 0 29 #[.val (.ref a0_), .val (.int p1), .val (.int v2_1), .unset, .val (.int (128 : Int32)), .val (.int (191 : Int32)), .unset, .unset] [(.int (223 : Int32)), (.int v2_1)] := Own.sipush r d2_26 rfl
    by_cases c18 : (223 : Int32) < v2_1
    · skip
      replace r : A2 l Z n0 D h 0 0 37 #[.val (.ref a0_), .val (.int p1), .val (.int v2_1), .unset, .val (.int (128 : Int32)), .val (.int (191 : Int32)), .unset, .unset] [] := Own.icmpYes r d2_29 (tlt c18).2.2.1 (by decide) (by decide)
      replace r : A2 l Z n0 D h 0 0 38 #[.val (.ref a0_), .val (.int p1), .val (.int v2_1), .unset, .val (.int (128 : Int32)), .val (.int (191 : Int32)), .unset, .unset] [(.int v2_1)] := Own.iloadN r d2_37 rfl
      replace r : A2 l Z n0 D h 0 0 41 #[.val (.ref a0_), .val (.int p1), .val (.int v2_1), .unset, .val (.int (128 : Int32)), .val (.int (191 : Int32)), .unset, .unset] [(.int (224 : Int32)), (.int v2_1)] := Own.sipush r d2_38 rfl
      by_cases c19 : v2_1 < (224 : Int32)
      · skip
        replace r : A2 l Z n0 D h 0 0 80 #[.val (.ref a0_), .val (.int p1), .val (.int v2_1), .unset, .val (.int (128 : Int32)), .val (.int (191 : Int32)), .unset, .unset] [] := Own.icmpYes r d2_41 (tlt c19).1 (by decide) (by decide)
        replace r : A2 l Z n0 D h 0 0 81 #[.val (.ref a0_), .val (.int p1), .val (.int v2_1), .unset, .val (.int (128 : Int32)), .val (.int (191 : Int32)), .unset, .unset] [(.int v2_1)] := Own.iloadN r d2_80 rfl
        replace r : A2 l Z n0 D h 0 0 84 #[.val (.ref a0_), .val (.int p1), .val (.int v2_1), .unset, .val (.int (128 : Int32)), .val (.int (191 : Int32)), .unset, .unset] [(.int (240 : Int32)), (.int v2_1)] := Own.sipush r d2_81 rfl
        by_cases c20 : v2_1 < (240 : Int32)
        · skip
          replace r : A2 l Z n0 D h 0 0 123 #[.val (.ref a0_), .val (.int p1), .val (.int v2_1), .unset, .val (.int (128 : Int32)), .val (.int (191 : Int32)), .unset, .unset] [] := Own.icmpYes r d2_84 (tlt c20).1 (by decide) (by decide)
          replace r : A2 l Z n0 D h 0 0 124 #[.val (.ref a0_), .val (.int p1), .val (.int v2_1), .unset, .val (.int (128 : Int32)), .val (.int (191 : Int32)), .unset, .unset] [(.int (0 : Int32))] := Own.iconst r d2_123 rfl
          exact ⟨_, _, (Own.Rch.retI r d2_124).more (by decide) (by decide), rfl, _, rfl, ⟨v2_1, e_v2_1, ⟨fun q => absurd q c2, fun _ => ⟨fun _ => ⟨fun _ => ⟨fun _ => rfl, fun q => absurd c20 q⟩, fun q => absurd c19 q⟩, fun q => absurd c18 q⟩⟩⟩⟩
        · skip
          replace r : A2 l Z n0 D h 0 0 87 #[.val (.ref a0_), .val (.int p1), .val (.int v2_1), .unset, .val (.int (128 : Int32)), .val (.int (191 : Int32)), .unset, .unset] [] := Own.icmpNo r d2_84 (flt c20).1
          replace r : A2 l Z n0 D h 0 0 88 #[.val (.ref a0_), .val (.int p1), .val (.int v2_1), .unset, .val (.int (128 : Int32)), .val (.int (191 : Int32)), .unset, .unset] [(.int v2_1)] := Own.iloadN r d2_87 rfl
          replace r : A2 l Z n0 D h 0 0 91 #[.val (.ref a0_), .val (.int p1), .val (.int v2_1), .unset, .val (.int (128 : Int32)), .val (.int (191 : Int32)), .unset, .unset] [(.int (244 : Int32)), (.int v2_1)] := Own.sipush r d2_88 rfl
          by_cases c21 : (244 : Int32) < v2_1
          · skip
            replace r : A2 l Z n0 D h 0 0 123 #[.val (.ref a0_), .val (.int p1), .val (.int v2_1), .unset, .val (.int (128 : Int32)), .val (.int (191 : Int32)), .unset, .unset] [] := Own.icmpYes r d2_91 (tlt c21).2.2.1 (by decide) (by decide)
            replace r : A2 l Z n0 D h 0 0 124 #[.val (.ref a0_), .val (.int p1), .val (.int v2_1), .unset, .val (.int (128 : Int32)), .val (.int (191 : Int32)), .unset, .unset] [(.int (0 : Int32))] := Own.iconst r d2_123 rfl
            exact ⟨_, _, (Own.Rch.retI r d2_124).more (by decide) (by decide), rfl, _, rfl, ⟨v2_1, e_v2_1, ⟨fun q => absurd q c2, fun _ => ⟨fun _ => ⟨fun _ => ⟨fun q => absurd q c20, fun _ => ⟨fun _ => rfl, fun q => absurd c21 q⟩⟩, fun q => absurd c19 q⟩, fun q => absurd c18 q⟩⟩⟩⟩
          · skip
            replace r : A2 l Z n0 D h 0 0 94 #[.val (.ref a0_), .val (.int p1), .val (.int v2_1), .unset, .val (.int (128 : Int32)), .val (.int (191 : Int32)), .unset, .unset] [] := Own.icmpNo r d2_91 (flt c21).2.2.1
            replace r : A2 l Z n0 D h 0 0 95 #[.val (.ref a0_), .val (.int p1), .val (.int v2_1), .unset, .val (.int (128 : Int32)), .val (.int (191 : Int32)), .unset, .unset] [(.int (4 : Int32))] := Own.iconst r d2_94 rfl
            replace r : A2 l Z n0 D h 0 0 96 #[.val (.ref a0_), .val (.int p1), .val (.int v2_1), .val (.int (4 : Int32)), .val (.int (128 : Int32)), .val (.int (191 : Int32)), .unset, .unset] [] := Own.istoreN r d2_95 rfl
            replace r : A2 l Z n0 D h 0 0 97 #[.val (.ref a0_), .val (.int p1), .val (.int v2_1), .val (.int (4 : Int32)), .val (.int (128 : Int32)), .val (.int (191 : Int32)), .unset, .unset] [(.int v2_1)] := Own.iloadN r d2_96 rfl
            replace r : A2 l Z n0 D h 0 0 100 #[.val (.ref a0_), .val (.int p1), .val (.int v2_1), .val (.int (4 : Int32)), .val (.int (128 : Int32)), .val (.int (191 : Int32)), .unset, .unset] [(.int (240 : Int32)), (.int v2_1)] := Own.sipush r d2_97 rfl
            obtain ⟨m22, e_m22, r⟩ : ∃ (m22 : Int32), m22 = (if v2_1 = (240 : Int32) then (144 : Int32) else (128 : Int32)) ∧ A2 l Z n0 D h 0 0 108 #[.val (.ref a0_), .val (.int p1), .val (.int v2_1), .val (.int (4 : Int32)), .val (.int m22), .val (.int (191 : Int32)), .unset, .unset] [] := by
              by_cases c23 : v2_1 = (240 : Int32)
              · skip
                replace r : A2 l Z n0 D h 0 0 103 #[.val (.ref a0_), .val (.int p1), .val (.int v2_1), .val (.int (4 : Int32)), .val (.int (128 : Int32)), .val (.int (191 : Int32)), .unset, .unset] [] := Own.icmpNo r d2_100 (teq c23).2
                replace r : A2 l Z n0 D h 0 0 106 #[.val (.ref a0_), .val (.int p1), .val (.int v2_1), .val (.int (4 : Int32)), .val (.int (128 : Int32)), .val (.int (191 : Int32)), .unset, .unset] [(.int (144 : Int32))] := Own.sipush r d2_103 rfl
                replace r : A2 l Z n0 D h 0 0 108 #[.val (.ref a0_), .val (.int p1), .val (.int v2_1), .val (.int (4 : Int32)), .val (.int (144 : Int32)), .val (.int (191 : Int32)), .unset, .unset] [] := Own.istore r d2_106 rfl
                exact ⟨_, by rw [if_pos c23], r⟩
              · skip
                replace r : A2 l Z n0 D h 0 0 108 #[.val (.ref a0_), .val (.int p1), .val (.int v2_1), .val (.int (4 : Int32)), .val (.int (128 : Int32)), .val (.int (191 : Int32)), .unset, .unset] [] := Own.icmpYes r d2_100 (feq c23).2 (by decide) (by decide)
                exact ⟨_, by rw [if_neg c23], r⟩
            replace r : A2 l Z n0 D h 0 0 109 #[.val (.ref a0_), .val (.int p1), .val (.int v2_1), .val (.int (4 : Int32)), .val (.int m22), .val (.int (191 : Int32)), .unset, .unset] [(.int v2_1)] := Own.iloadN r d2_108 rfl
            replace r : A2 l Z n0 D h 0 0 112 #[.val (.ref a0_), .val (.int p1), .val (.int v2_1), .val (.int (4 : Int32)), .val (.int m22), .val (.int (191 : Int32)), .unset, .unset] [(.int (244 : Int32)), (.int v2_1)] := Own.sipush r d2_109 rfl
            by_cases c24 : v2_1 = (244 : Int32)
            · skip
              replace r : A2 l Z n0 D h 0 0 115 #[.val (.ref a0_), .val (.int p1), .val (.int v2_1), .val (.int (4 : Int32)), .val (.int m22), .val (.int (191 : Int32)), .unset, .unset] [] := Own.icmpNo r d2_112 (teq c24).2
              replace r : A2 l Z n0 D h 0 0 118 #[.val (.ref a0_), .val (.int p1), .val (.int v2_1), .val (.int (4 : Int32)), .val (.int m22), .val (.int (191 : Int32)), .unset, .unset] [(.int (143 : Int32))] := Own.sipush r d2_115 rfl
              replace r : A2 l Z n0 D h 0 0 120 #[.val (.ref a0_), .val (.int p1), .val (.int v2_1), .val (.int (4 : Int32)), .val (.int m22), .val (.int (143 : Int32)), .unset, .unset] [] := Own.istore r d2_118 rfl
              replace r : A2 l Z n0 D h 0 0 125 #[.val (.ref a0_), .val (.int p1), .val (.int v2_1), .val (.int (4 : Int32)), .val (.int m22), .val (.int (143 : Int32)), .unset, .unset] [] := Own.goto r d2_120 (by decide) (by decide)
              obtain ⟨_, _, hd, e1, w, e2, hS⟩ := t2_125 l Z a0 hw n0 h Zs D a0_ p1 L V_a0_ hlen h0 h7 v2_1 (4 : Int32) m22 (143 : Int32) (Or.inr (Or.inr rfl)) r
              exact ⟨_, _, hd, e1, w, e2, ⟨v2_1, e_v2_1, ⟨fun q => absurd q c2, fun _ => ⟨fun _ => ⟨fun _ => ⟨fun q => absurd q c20, fun _ => ⟨fun q => absurd q c21, fun _ => ⟨m22, e_m22, ⟨fun _ => hS, fun q => absurd c24 q⟩⟩⟩⟩, fun q => absurd c19 q⟩, fun q => absurd c18 q⟩⟩⟩⟩
            · skip
              replace r : A2 l Z n0 D h 0 0 125 #[.val (.ref a0_), .val (.int p1), .val (.int v2_1), .val (.int (4 : Int32)), .val (.int m22), .val (.int (191 : Int32)), .unset, .unset] [] := Own.icmpYes r d2_112 (feq c24).2 (by decide) (by decide)
              obtain ⟨_, _, hd, e1, w, e2, hS⟩ := t2_125 l Z a0 hw n0 h Zs D a0_ p1 L V_a0_ hlen h0 h7 v2_1 (4 : Int32) m22 (191 : Int32) (Or.inr (Or.inr rfl)) r
              exact ⟨_, _, hd, e1, w, e2, ⟨v2_1, e_v2_1, ⟨fun q => absurd q c2, fun _ => ⟨fun _ => ⟨fun _ => ⟨fun q => absurd q c20, fun _ => ⟨fun q => absurd q c21, fun _ => ⟨m22, e_m22, ⟨fun q => absurd q c24, fun _ => hS⟩⟩⟩⟩, fun q => absurd c19 q⟩, fun q => absurd c18 q⟩⟩⟩⟩
      · skip
        replace r : A2 l Z n0 D h 0 0 44 #[.val (.ref a0_), .val (.int p1), .val (.int v2_1), .unset, .val (.int (128 : Int32)), .val (.int (191 : Int32)), .unset, .unset] [] := Own.icmpNo r d2_41 (flt c19).1
        replace r : A2 l Z n0 D h 0 0 45 #[.val (.ref a0_), .val (.int p1), .val (.int v2_1), .unset, .val (.int (128 : Int32)), .val (.int (191 : Int32)), .unset, .unset] [(.int v2_1)] := Own.iloadN r d2_44 rfl
        replace r : A2 l Z n0 D h 0 0 48 #[.val (.ref a0_), .val (.int p1), .val (.int v2_1), .unset, .val (.int (128 : Int32)), .val (.int (191 : Int32)), .unset, .unset] [(.int (239 : Int32)), (.int v2_1)] := Own.sipush r d2_45 rfl
        by_cases c25 : (239 : Int32) < v2_1
        · skip
          replace r : A2 l Z n0 D h 0 0 80 #[.val (.ref a0_), .val (.int p1), .val (.int v2_1), .unset, .val (.int (128 : Int32)), .val (.int (191 : Int32)), .unset, .unset] [] := Own.icmpYes r d2_48 (tlt c25).2.2.1 (by decide) (by decide)
          replace r : A2 l Z n0 D h 0 0 81 #[.val (.ref a0_), .val (.int p1), .val (.int v2_1), .unset, .val (.int (128 : Int32)), .val (.int (191 : Int32)), .unset, .unset] [(.int v2_1)] := Own.iloadN r d2_80 rfl
          replace r : A2 l Z n0 D h 0 0 84 #[.val (.ref a0_), .val (.int p1), .val (.int v2_1), .unset, .val (.int (128 : Int32)), .val (.int (191 : Int32)), .unset, .unset] [(.int (240 : Int32)), (.int v2_1)] := Own.sipush r d2_81 rfl
          by_cases c26 : v2_1 < (240 : Int32)
          · skip
            replace r : A2 l Z n0 D h 0 0 123 #[.val (.ref a0_), .val (.int p1), .val (.int v2_1), .unset, .val (.int (128 : Int32)), .val (.int (191 : Int32)), .unset, .unset] [] := Own.icmpYes r d2_84 (tlt c26).1 (by decide) (by decide)
            replace r : A2 l Z n0 D h 0 0 124 #[.val (.ref a0_), .val (.int p1), .val (.int v2_1), .unset, .val (.int (128 : Int32)), .val (.int (191 : Int32)), .unset, .unset] [(.int (0 : Int32))] := Own.iconst r d2_123 rfl
            exact ⟨_, _, (Own.Rch.retI r d2_124).more (by decide) (by decide), rfl, _, rfl, ⟨v2_1, e_v2_1, ⟨fun q => absurd q c2, fun _ => ⟨fun _ => ⟨fun q => absurd q c19, fun _ => ⟨fun _ => ⟨fun _ => rfl, fun q => absurd c26 q⟩, fun q => absurd c25 q⟩⟩, fun q => absurd c18 q⟩⟩⟩⟩
          · skip
            replace r : A2 l Z n0 D h 0 0 87 #[.val (.ref a0_), .val (.int p1), .val (.int v2_1), .unset, .val (.int (128 : Int32)), .val (.int (191 : Int32)), .unset, .unset] [] := Own.icmpNo r d2_84 (flt c26).1
            replace r : A2 l Z n0 D h 0 0 88 #[.val (.ref a0_), .val (.int p1), .val (.int v2_1), .unset, .val (.int (128 : Int32)), .val (.int (191 : Int32)), .unset, .unset] [(.int v2_1)] := Own.iloadN r d2_87 rfl
            replace r : A2 l Z n0 D h 0 0 91 #[.val (.ref a0_), .val (.int p1), .val (.int v2_1), .unset, .val (.int (128 : Int32)), .val (.int (191 : Int32)), .unset, .unset] [(.int (244 : Int32)), (.int v2_1)] := Own.sipush r d2_88 rfl
            by_cases c27 : (244 : Int32) < v2_1
            · skip
              replace r : A2 l Z n0 D h 0 0 123 #[.val (.ref a0_), .val (.int p1), .val (.int v2_1), .unset, .val (.int (128 : Int32)), .val (.int (191 : Int32)), .unset, .unset] [] := Own.icmpYes r d2_91 (tlt c27).2.2.1 (by decide) (by decide)
              replace r : A2 l Z n0 D h 0 0 124 #[.val (.ref a0_), .val (.int p1), .val (.int v2_1), .unset, .val (.int (128 : Int32)), .val (.int (191 : Int32)), .unset, .unset] [(.int (0 : Int32))] := Own.iconst r d2_123 rfl
              exact ⟨_, _, (Own.Rch.retI r d2_124).more (by decide) (by decide), rfl, _, rfl, ⟨v2_1, e_v2_1, ⟨fun q => absurd q c2, fun _ => ⟨fun _ => ⟨fun q => absurd q c19, fun _ => ⟨fun _ => ⟨fun q => absurd q c26, fun _ => ⟨fun _ => rfl, fun q => absurd c27 q⟩⟩, fun q => absurd c25 q⟩⟩, fun q => absurd c18 q⟩⟩⟩⟩
            · skip
              replace r : A2 l Z n0 D h 0 0 94 #[.val (.ref a0_), .val (.int p1), .val (.int v2_1), .unset, .val (.int (128 : Int32)), .val (.int (191 : Int32)), .unset, .unset] [] := Own.icmpNo r d2_91 (flt c27).2.2.1
              replace r : A2 l Z n0 D h 0 0 95 #[.val (.ref a0_), .val (.int p1), .val (.int v2_1), .unset, .val (.int (128 : Int32)), .val (.int (191 : Int32)), .unset, .unset] [(.int (4 : Int32))] := Own.iconst r d2_94 rfl
              replace r : A2 l Z n0 D h 0 0 96 #[.val (.ref a0_), .val (.int p1), .val (.int v2_1), .val (.int (4 : Int32)), .val (.int (128 : Int32)), .val (.int (191 : Int32)), .unset, .unset] [] := Own.istoreN r d2_95 rfl
              replace r : A2 l Z n0 D h 0 0 97 #[.val (.ref a0_), .val (.int p1), .val (.int v2_1), .val (.int (4 : Int32)), .val (.int (128 : Int32)), .val (.int (191 : Int32)), .unset, .unset] [(.int v2_1)] := Own.iloadN r d2_96 rfl
              replace r : A2 l Z n0 D h 0 0 100 #[.val (.ref a0_), .val (.int p1), .val (.int v2_1), .val (.int (4 : Int32)), .val (.int (128 : Int32)), .val (.int (191 : Int32)), .unset, .unset] [(.int (240 : Int32)), (.int v2_1)] := Own.sipush r d2_97 rfl
              obtain ⟨m28, e_m28, r⟩ : ∃ (m28 : Int32), m28 = (if v2_1 = (240 : Int32) then (144 : Int32) else (128 : Int32)) ∧ A2 l Z n0 D h 0 0 108 #[.val (.ref a0_), .val (.int p1), .val (.int v2_1), .val (.int (4 : Int32)), .val (.int m28), .val (.int (191 : Int32)), .unset, .unset] [] := by
                by_cases c29 : v2_1 = (240 : Int32)
                · skip
                  replace r : A2 l Z n0 D h 0 0 103 #[.val (.ref a0_), .val (.int p1), .val (.int v2_1), .val (.int (4 : Int32)), .val (.int (128 : Int32)), .val (.int (191 : Int32)), .unset, .unset] [] := Own.icmpNo r d2_100 (teq c29).2
                  replace r : A2 l Z n0 D h 0 0 106 #[.val (.ref a0_), .val (.int p1), .val (.int v2_1), .val (.int (4 : Int32)), .val (.int (128 : Int32)), .val (.int (191 : Int32)), .unset, .unset] [(.int (144 : Int32))] := Own.sipush r d2_103 rfl
                  replace r : A2 l Z n0 D h 0 0 108 #[.val (.ref a0_), .val (.int p1), .val (.int v2_1), .val (.int (4 : Int32)), .val (.int (144 : Int32)), .val (.int (191 : Int32)), .unset, .unset] [] := Own.istore r d2_106 rfl
                  exact ⟨_, by rw [if_pos c29], r⟩
                · skip
                  replace r : A2 l Z n0 D h 0 0 108 #[.val (.ref a0_), .val (.int p1), .val (.int v2_1), .val (.int (4 : Int32)), .val (.int (128 : Int32)), .val (.int (191 : Int32)), .unset, .unset] [] := Own.icmpYes r d2_100 (feq c29).2 (by decide) (by decide)
                  exact ⟨_, by rw [if_neg c29], r⟩
              replace r : A2 l Z n0 D h 0 0 109 #[.val (.ref a0_), .val (.int p1), .val (.int v2_1), .val (.int (4 : Int32)), .val (.int m28), .val (.int (191 : Int32)), .unset, .unset] [(.int v2_1)] := Own.iloadN r d2_108 rfl
              replace r : A2 l Z n0 D h 0 0 112 #[.val (.ref a0_), .val (.int p1), .val (.int v2_1), .val (.int (4 : Int32)), .val (.int m28), .val (.int (191 : Int32)), .unset, .unset] [(.int (244 : Int32)), (.int v2_1)] := Own.sipush r d2_109 rfl
              by_cases c30 : v2_1 = (244 : Int32)
              · skip
                replace r : A2 l Z n0 D h 0 0 115 #[.val (.ref a0_), .val (.int p1), .val (.int v2_1), .val (.int (4 : Int32)), .val (.int m28), .val (.int (191 : Int32)), .unset, .unset] [] := Own.icmpNo r d2_112 (teq c30).2
                replace r : A2 l Z n0 D h 0 0 118 #[.val (.ref a0_), .val (.int p1), .val (.int v2_1), .val (.int (4 : Int32)), .val (.int m28), .val (.int (191 : Int32)), .unset, .unset] [(.int (143 : Int32))] := Own.sipush r d2_115 rfl
                replace r : A2 l Z n0 D h 0 0 120 #[.val (.ref a0_), .val (.int p1), .val (.int v2_1), .val (.int (4 : Int32)), .val (.int m28), .val (.int (143 : Int32)), .unset, .unset] [] := Own.istore r d2_118 rfl
                replace r : A2 l Z n0 D h 0 0 125 #[.val (.ref a0_), .val (.int p1), .val (.int v2_1), .val (.int (4 : Int32)), .val (.int m28), .val (.int (143 : Int32)), .unset, .unset] [] := Own.goto r d2_120 (by decide) (by decide)
                obtain ⟨_, _, hd, e1, w, e2, hS⟩ := t2_125 l Z a0 hw n0 h Zs D a0_ p1 L V_a0_ hlen h0 h7 v2_1 (4 : Int32) m28 (143 : Int32) (Or.inr (Or.inr rfl)) r
                exact ⟨_, _, hd, e1, w, e2, ⟨v2_1, e_v2_1, ⟨fun q => absurd q c2, fun _ => ⟨fun _ => ⟨fun q => absurd q c19, fun _ => ⟨fun _ => ⟨fun q => absurd q c26, fun _ => ⟨fun q => absurd q c27, fun _ => ⟨m28, e_m28, ⟨fun _ => hS, fun q => absurd c30 q⟩⟩⟩⟩, fun q => absurd c25 q⟩⟩, fun q => absurd c18 q⟩⟩⟩⟩
              · skip
                replace r : A2 l Z n0 D h 0 0 125 #[.val (.ref a0_), .val (.int p1), .val (.int v2_1), .val (.int (4 : Int32)), .val (.int m28), .val (.int (191 : Int32)), .unset, .unset] [] := Own.icmpYes r d2_112 (feq c30).2 (by decide) (by decide)
                obtain ⟨_, _, hd, e1, w, e2, hS⟩ := t2_125 l Z a0 hw n0 h Zs D a0_ p1 L V_a0_ hlen h0 h7 v2_1 (4 : Int32) m28 (191 : Int32) (Or.inr (Or.inr rfl)) r
                exact ⟨_, _, hd, e1, w, e2, ⟨v2_1, e_v2_1, ⟨fun q => absurd q c2, fun _ => ⟨fun _ => ⟨fun q => absurd q c19, fun _ => ⟨fun _ => ⟨fun q => absurd q c26, fun _ => ⟨fun q => absurd q c27, fun _ => ⟨m28, e_m28, ⟨fun q => absurd q c30, fun _ => hS⟩⟩⟩⟩, fun q => absurd c25 q⟩⟩, fun q => absurd c18 q⟩⟩⟩⟩
        · skip
          replace r : A2 l Z n0 D h 0 0 51 #[.val (.ref a0_), .val (.int p1), .val (.int v2_1), .unset, .val (.int (128 : Int32)), .val (.int (191 : Int32)), .unset, .unset] [] := Own.icmpNo r d2_48 (flt c25).2.2.1
          replace r : A2 l Z n0 D h 0 0 52 #[.val (.ref a0_), .val (.int p1), .val (.int v2_1), .unset, .val (.int (128 : Int32)), .val (.int (191 : Int32)), .unset, .unset] [(.int (3 : Int32))] := Own.iconst r d2_51 rfl
          replace r : A2 l Z n0 D h 0 0 53 #[.val (.ref a0_), .val (.int p1), .val (.int v2_1), .val (.int (3 : Int32)), .val (.int (128 : Int32)), .val (.int (191 : Int32)), .unset, .unset] [] := Own.istoreN r d2_52 rfl
          replace r : A2 l Z n0 D h 0 0 54 #[.val (.ref a0_), .val (.int p1), .val (.int v2_1), .val (.int (3 : Int32)), .val (.int (128 : Int32)), .val (.int (191 : Int32)), .unset, .unset] [(.int v2_1)] := Own.iloadN r d2_53 rfl
          replace r : A2 l Z n0 D h 0 0 57 #[.val (.ref a0_), .val (.int p1), .val (.int v2_1), .val (.int (3 : Int32)), .val (.int (128 : Int32)), .val (.int (191 : Int32)), .unset, .unset] [(.int (224 : Int32)), (.int v2_1)] := Own.sipush r d2_54 rfl
          obtain ⟨m31, e_m31, r⟩ : ∃ (m31 : Int32), m31 = (if v2_1 = (224 : Int32) then (160 : Int32) else (128 : Int32)) ∧ A2 l Z n0 D h 0 0 65 #[.val (.ref a0_), .val (.int p1), .val (.int v2_1), .val (.int (3 : Int32)), .val (.int m31), .val (.int (191 : Int32)), .unset, .unset] [] := by
            by_cases c32 : v2_1 = (224 : Int32)
            · skip
              replace r : A2 l Z n0 D h 0 0 60 #[.val (.ref a0_), .val (.int p1), .val (.int v2_1), .val (.int (3 : Int32)), .val (.int (128 : Int32)), .val (.int (191 : Int32)), .unset, .unset] [] := Own.icmpNo r d2_57 (teq c32).2
              replace r : A2 l Z n0 D h 0 0 63 #[.val (.ref a0_), .val (.int p1), .val (.int v2_1), .val (.int (3 : Int32)), .val (.int (128 : Int32)), .val (.int (191 : Int32)), .unset, .unset] [(.int (160 : Int32))] := Own.sipush r d2_60 rfl
              replace r : A2 l Z n0 D h 0 0 65 #[.val (.ref a0_), .val (.int p1), .val (.int v2_1), .val (.int (3 : Int32)), .val (.int (160 : Int32)), .val (.int (191 : Int32)), .unset, .unset] [] := Own.istore r d2_63 rfl
              exact ⟨_, by rw [if_pos c32], r⟩
            · skip
              replace r : A2 l Z n0 D h 0 0 65 #[.val (.ref a0_), .val (.int p1), .val (.int v2_1), .val (.int (3 : Int32)), .val (.int (128 : Int32)), .val (.int (191 : Int32)), .unset, .unset] [] := Own.icmpYes r d2_57 (feq c32).2 (by decide) (by decide)
              exact ⟨_, by rw [if_neg c32], r⟩
          replace r : A2 l Z n0 D h 0 0 66 #[.val (.ref a0_), .val (.int p1), .val (.int v2_1), .val (.int (3 : Int32)), .val (.int m31), .val (.int (191 : Int32)), .unset, .unset] [(.int v2_1)] := Own.iloadN r d2_65 rfl
          replace r : A2 l Z n0 D h 0 0 69 #[.val (.ref a0_), .val (.int p1), .val (.int v2_1), .val (.int (3 : Int32)), .val (.int m31), .val (.int (191 : Int32)), .unset, .unset] [(.int (237 : Int32)), (.int v2_1)] := Own.sipush r d2_66 rfl
          by_cases c33 : v2_1 = (237 : Int32)
          · skip
            replace r : A2 l Z n0 D h 0 0 72 #[.val (.ref a0_), .val (.int p1), .val (.int v2_1), .val (.int (3 : Int32)), .val (.int m31), .val (.int (191 : Int32)), .unset, .unset] [] := Own.icmpNo r d2_69 (teq c33).2
            replace r : A2 l Z n0 D h 0 0 75 #[.val (.ref a0_), .val (.int p1), .val (.int v2_1), .val (.int (3 : Int32)), .val (.int m31), .val (.int (191 : Int32)), .unset, .unset] [(.int (159 : Int32))] := Own.sipush r d2_72 rfl
            replace r : A2 l Z n0 D h 0 0 77 #[.val (.ref a0_), .val (.int p1), .val (.int v2_1), .val (.int (3 : Int32)), .val (.int m31), .val (.int (159 : Int32)), .unset, .unset] [] := Own.istore r d2_75 rfl
            replace r : A2 l Z n0 D h 0 0 125 #[.val (.ref a0_), .val (.int p1), .val (.int v2_1), .val (.int (3 : Int32)), .val (.int m31), .val (.int (159 : Int32)), .unset, .unset] [] := Own.goto r d2_77 (by decide) (by decide)
            obtain ⟨_, _, hd, e1, w, e2, hS⟩ := t2_125 l Z a0 hw n0 h Zs D a0_ p1 L V_a0_ hlen h0 h7 v2_1 (3 : Int32) m31 (159 : Int32) (Or.inr (Or.inl rfl)) r
            exact ⟨_, _, hd, e1, w, e2, ⟨v2_1, e_v2_1, ⟨fun q => absurd q c2, fun _ => ⟨fun _ => ⟨fun q => absurd q c19, fun _ => ⟨fun q => absurd q c25, fun _ => ⟨m31, e_m31, ⟨fun _ => hS, fun q => absurd c33 q⟩⟩⟩⟩, fun q => absurd c18 q⟩⟩⟩⟩
          · skip
            replace r : A2 l Z n0 D h 0 0 125 #[.val (.ref a0_), .val (.int p1), .val (.int v2_1), .val (.int (3 : Int32)), .val (.int m31), .val (.int (191 : Int32)), .unset, .unset] [] := Own.icmpYes r d2_69 (feq c33).2 (by decide) (by decide)
            obtain ⟨_, _, hd, e1, w, e2, hS⟩ := t2_125 l Z a0 hw n0 h Zs D a0_ p1 L V_a0_ hlen h0 h7 v2_1 (3 : Int32) m31 (191 : Int32) (Or.inr (Or.inl rfl)) r
            exact ⟨_, _, hd, e1, w, e2, ⟨v2_1, e_v2_1, ⟨fun q => absurd q c2, fun _ => ⟨fun _ => ⟨fun q => absurd q c19, fun _ => ⟨fun q => absurd q c25, fun _ => ⟨m31, e_m31, ⟨fun q => absurd q c33, fun _ => hS⟩⟩⟩⟩, fun q => absurd c18 q⟩⟩⟩⟩
    · skip
      replace r : A2 l Z n0 D h 0 0 32 #[.val (.ref a0_), .val (.int p1), .val (.int v2_1), .unset, .val (.int (128 : Int32)), .val (.int (191 : Int32)), .unset, .unset] [] := Own.icmpNo r d2_29 (flt c18).2.2.1
      replace r : A2 l Z n0 D h 0 0 33 #[.val (.ref a0_), .val (.int p1), .val (.int v2_1), .unset, .val (.int (128 : Int32)), .val (.int (191 : Int32)), .unset, .unset] [(.int (2 : Int32))] := Own.iconst r d2_32 rfl
      replace r : A2 l Z n0 D h 0 0 34 #[.val (.ref a0_), .val (.int p1), .val (.int v2_1), .val (.int (2 : Int32)), .val (.int (128 : Int32)), .val (.int (191 : Int32)), .unset, .unset] [] := Own.istoreN r d2_33 rfl
      replace r : A2 l Z n0 D h 0 0 125 #[.val (.ref a0_), .val (.int p1), .val (.int v2_1), .val (.int (2 : Int32)), .val (.int (128 : Int32)), .val (.int (191 : Int32)), .unset, .unset] [] := Own.goto r d2_34 (by decide) (by decide)
      obtain ⟨_, _, hd, e1, w, e2, hS⟩ := t2_125 l Z a0 hw n0 h Zs D a0_ p1 L V_a0_ hlen h0 h7 v2_1 (2 : Int32) (128 : Int32) (191 : Int32) (Or.inl rfl) r
      exact ⟨_, _, hd, e1, w, e2, ⟨v2_1, e_v2_1, ⟨fun q => absurd q c2, fun _ => ⟨fun q => absurd q c18, fun _ => hS⟩⟩⟩⟩
theorem own_byte {P : Int32 → Prop} (hP : ∀ k : Fin 256, P (Int32.ofInt (k.val : Int))) {b : Int32} (h0 : 0 ≤ b.toInt) (h1 : b.toInt ≤ 255) : P b := by
  have e : Int32.ofInt ((b.toInt.toNat : Nat) : Int) = b := by rw [Int.toNat_of_nonneg h0]; exact Int32.ofInt_toInt b
  have := hP ⟨b.toInt.toNat, by omega⟩
  rwa [e] at this
theorem own_m255 (g : Int32) : 0 ≤ (g &&& (255 : Int32)).toInt ∧ (g &&& (255 : Int32)).toInt ≤ 255 := c_and g 255 (by decide)
theorem own_b224 {x : Int32} (h0 : 0 ≤ x.toInt) (h1 : x.toInt ≤ 255) : (x &&& (224 : Int32)) = (192 : Int32) ↔ (192 ≤ x.toInt ∧ x.toInt ≤ 223) := own_byte (P := fun x => (x &&& (224 : Int32)) = (192 : Int32) ↔ (192 ≤ x.toInt ∧ x.toInt ≤ 223)) (by decide +kernel) h0 h1
theorem own_b240 {x : Int32} (h0 : 0 ≤ x.toInt) (h1 : x.toInt ≤ 255) : (x &&& (240 : Int32)) = (224 : Int32) ↔ (224 ≤ x.toInt ∧ x.toInt ≤ 239) := own_byte (P := fun x => (x &&& (240 : Int32)) = (224 : Int32) ↔ (224 ≤ x.toInt ∧ x.toInt ≤ 239)) (by decide +kernel) h0 h1
theorem own_b248 {x : Int32} (h0 : 0 ≤ x.toInt) (h1 : x.toInt ≤ 255) : (x &&& (248 : Int32)) = (240 : Int32) ↔ (240 ≤ x.toInt ∧ x.toInt ≤ 247) := own_byte (P := fun x => (x &&& (248 : Int32)) = (240 : Int32) ↔ (240 ≤ x.toInt ∧ x.toInt ≤ 247)) (by decide +kernel) h0 h1
theorem own_b192 {x : Int32} (h0 : 0 ≤ x.toInt) (h1 : x.toInt ≤ 255) : (x &&& (192 : Int32)) = (128 : Int32) ↔ (128 ≤ x.toInt ∧ x.toInt ≤ 191) := own_byte (P := fun x => (x &&& (192 : Int32)) = (128 : Int32) ↔ (128 ≤ x.toInt ∧ x.toInt ≤ 191)) (by decide +kernel) h0 h1
theorem own_192 (g : Int32) : g &&& (192 : Int32) = (g &&& (255 : Int32)) &&& (192 : Int32) := by rw [Int32.and_assoc]; rfl
theorem own_cp {x y : Int32} (h0 : 0 ≤ x.toInt) (h1 : x.toInt < 1048576) : ((Own.ishlW x (6 : Int32)) ||| (y &&& (63 : Int32))).toInt = x.toInt * 64 + y.toInt % 64 := by
  have a := c_ishl x 6 6 (by decide)
  have m := c_mask y 63 6 (by decide) (by decide)
  have s1 := (x <<< ((6 : Int32) &&& 31)).toInt_lt; have s2 := (x <<< ((6 : Int32) &&& 31)).le_toInt
  have e : (x <<< ((6 : Int32) &&& 31)).toInt = x.toInt * 64 := by omega
  have o := c_or (x <<< ((6 : Int32) &&& 31)) (y &&& 63) 6 (by decide) 64 (by decide) (by omega) (by omega) (by omega)
  have t1 := ((x <<< ((6 : Int32) &&& 31)) ||| (y &&& 63)).toInt_lt; have t2 := ((x <<< ((6 : Int32) &&& 31)) ||| (y &&& 63)).le_toInt
  show ((x <<< ((6 : Int32) &&& 31)) ||| (y &&& 63)).toInt = _
  omega
theorem own_ex {α : Type} {a : α} {P : α → Prop} : (∃ v, v = a ∧ P v) ↔ P a := ⟨fun ⟨v, e, p⟩ => e ▸ p, fun p => ⟨a, rfl, p⟩⟩
theorem own_lits : (0 : Int32).toInt = 0 ∧ (1 : Int32).toInt = 1 ∧ (2 : Int32).toInt = 2 ∧ (3 : Int32).toInt = 3 ∧ (4 : Int32).toInt = 4 := ⟨rfl, rfl, rfl, rfl, rfl⟩

set_option maxHeartbeats 4000000 in
theorem own_law {L : List Int32} {p1 w1 w2 : Int32} (h0 : 0 ≤ p1.toInt) (h7 : p1.toInt ≤ 7) (h1 : S1 p1 L w1) (h2 : S2 p1 L w2) : w2 = w1 := by
  simp only [S1, S1_90, S1_224, own_ex] at h1
  simp only [S2, S2_125, own_ex] at h2
  have e2 : p1 + (2 : Int32) + (1 : Int32) = p1 + (3 : Int32) := own_i23 p1
  rw [e2] at h2
  simp only [own_192 (Own.ga L (p1 + 2)), own_192 (Own.ga L (p1 + 3))] at h2
  obtain ⟨a, ea⟩ : ∃ z, z = Own.ga L p1 &&& (255 : Int32) := ⟨_, rfl⟩
  obtain ⟨b, eb⟩ : ∃ z, z = Own.ga L (p1 + 1) &&& (255 : Int32) := ⟨_, rfl⟩
  obtain ⟨c, ec⟩ : ∃ z, z = Own.ga L (p1 + 2) &&& (255 : Int32) := ⟨_, rfl⟩
  obtain ⟨d, ed⟩ : ∃ z, z = Own.ga L (p1 + 3) &&& (255 : Int32) := ⟨_, rfl⟩
  have ha : 0 ≤ a.toInt ∧ a.toInt ≤ 255 := ea ▸ own_m255 _
  have hb : 0 ≤ b.toInt ∧ b.toInt ≤ 255 := eb ▸ own_m255 _
  have hc : 0 ≤ c.toInt ∧ c.toInt ≤ 255 := ec ▸ own_m255 _
  have hd : 0 ≤ d.toInt ∧ d.toInt ≤ 255 := ed ▸ own_m255 _
  rw [← ea, ← eb, ← ec, ← ed] at h1 h2
  have a31 : (a &&& (31 : Int32)).toInt = a.toInt % 32 := c_mask a 31 5 (by decide) (by decide)
  have a15 : (a &&& (15 : Int32)).toInt = a.toInt % 16 := c_mask a 15 4 (by decide) (by decide)
  have a7 : (a &&& (7 : Int32)).toInt = a.toInt % 8 := c_mask a 7 3 (by decide) (by decide)
  have k2 := own_cp (x := a &&& (31 : Int32)) (y := b) (by omega) (by omega)
  have k3 := own_cp (x := a &&& (15 : Int32)) (y := b) (by omega) (by omega)
  have k3' := own_cp (x := Own.ishlW (a &&& (15 : Int32)) (6 : Int32) ||| b &&& (63 : Int32)) (y := c) (by omega) (by omega)
  have k4 := own_cp (x := a &&& (7 : Int32)) (y := b) (by omega) (by omega)
  have k4' := own_cp (x := Own.ishlW (a &&& (7 : Int32)) (6 : Int32) ||| b &&& (63 : Int32)) (y := c) (by omega) (by omega)
  have k4'' := own_cp (x := Own.ishlW (Own.ishlW (a &&& (7 : Int32)) (6 : Int32) ||| b &&& (63 : Int32)) (6 : Int32) ||| c &&& (63 : Int32)) (y := d) (by omega) (by omega)
  have s8 : ((8 : Int32) - p1).toInt = 8 - p1.toInt := by
    have := c_isub 8 p1; have : (8 : Int32).toInt = 8 := rfl; have := ((8 : Int32) - p1).toInt_lt; have := ((8 : Int32) - p1).le_toInt; omega
  have p2 : (p1 + (2 : Int32)).toInt = p1.toInt + 2 := by
    have := c_iadd p1 2; have : (2 : Int32).toInt = 2 := rfl; have := (p1 + (2 : Int32)).toInt_lt; have := (p1 + (2 : Int32)).le_toInt; omega
  have p3 : (p1 + (3 : Int32)).toInt = p1.toInt + 3 := by
    have := c_iadd p1 3; have : (3 : Int32).toInt = 3 := rfl; have := (p1 + (3 : Int32)).toInt_lt; have := (p1 + (3 : Int32)).le_toInt; omega
  have p4 : (p1 + (4 : Int32)).toInt = p1.toInt + 4 := by
    have := c_iadd p1 4; have : (4 : Int32).toInt = 4 := rfl; have := (p1 + (4 : Int32)).toInt_lt; have := (p1 + (4 : Int32)).le_toInt; omega
  simp only [own_b224 ha.1 ha.2, own_b240 ha.1 ha.2, own_b248 ha.1 ha.2, own_b192 hb.1 hb.2, own_b192 hc.1 hc.2, own_b192 hd.1 hd.2, Int32.lt_iff_toInt_lt, ← Int32.toInt_inj, apply_ite Int32.toInt] at h1 h2 ⊢
  have l0 : (0 : Int32).toInt = 0 := rfl
  have l2 : (2 : Int32).toInt = 2 := rfl
  have l3 : (3 : Int32).toInt = 3 := rfl
  have l4 : (4 : Int32).toInt = 4 := rfl
  have l8 : (8 : Int32).toInt = 8 := rfl
  have l128 : (128 : Int32).toInt = 128 := rfl
  have l143 : (143 : Int32).toInt = 143 := rfl
  have l144 : (144 : Int32).toInt = 144 := rfl
  have l159 : (159 : Int32).toInt = 159 := rfl
  have l160 : (160 : Int32).toInt = 160 := rfl
  have l191 : (191 : Int32).toInt = 191 := rfl
  have l194 : (194 : Int32).toInt = 194 := rfl
  have l223 : (223 : Int32).toInt = 223 := rfl
  have l224 : (224 : Int32).toInt = 224 := rfl
  have l237 : (237 : Int32).toInt = 237 := rfl
  have l239 : (239 : Int32).toInt = 239 := rfl
  have l240 : (240 : Int32).toInt = 240 := rfl
  have l244 : (244 : Int32).toInt = 244 := rfl
  have l2048 : (2048 : Int32).toInt = 2048 := rfl
  have l65536 : (65536 : Int32).toInt = 65536 := rfl
  have l55296 : (55296 : Int32).toInt = 55296 := rfl
  have l57343 : (57343 : Int32).toInt = 57343 := rfl
  have l1114111 : (1114111 : Int32).toInt = 1114111 := rfl
  simp only [k2, k3, k3', k4, k4', k4'', s8, p2, p3, p4, l0, l2, l3, l4, l8, l128, l143, l144, l159, l160, l191, l194, l223, l224, l237, l239, l240, l244, l2048, l65536, l55296, l57343, l1114111] at h1 h2 ⊢
  try simp only [k2, k3, k3', k4, k4', a31, a15, a7] at h1
  clear k2 k3 k3' k4 k4' k4'' a31 a15 a7 ea eb ec ed s8 p2 p3 p4 e2
  generalize a.toInt = A at *; generalize b.toInt = B at *; generalize c.toInt = E at *; generalize d.toInt = F at *; generalize p1.toInt = P at *; generalize w1.toInt = W1 at *; generalize w2.toInt = W2 at *
  clear l0 l2 l3 l4 l8 l128 l143 l144 l159 l160 l191 l194 l223 l224 l237 l239 l240 l244 l2048 l65536 l55296 l57343 l1114111
  have reg : A < 192 ∨ (192 ≤ A ∧ A ≤ 193) ∨ (194 ≤ A ∧ A ≤ 223) ∨ A = 224 ∨ (225 ≤ A ∧ A ≤ 236) ∨ A = 237 ∨ (238 ≤ A ∧ A ≤ 239) ∨ A = 240 ∨ (241 ≤ A ∧ A ≤ 243) ∨ A = 244 ∨ (245 ≤ A ∧ A ≤ 247) ∨ 248 ≤ A := by omega
  rcases reg with q | q | q | q | q | q | q | q | q | q | q | q
  · skip
    have f0 : (192 ≤ A ∧ A ≤ 223) = False := eq_false (by omega)
    have f1 : (224 ≤ A ∧ A ≤ 239) = False := eq_false (by omega)
    have f2 : (240 ≤ A ∧ A ≤ 247) = False := eq_false (by omega)
    have f3 : (A < 194) = True := eq_true (by omega)
    have f4 : (223 < A) = False := eq_false (by omega)
    have f5 : (A < 224) = True := eq_true (by omega)
    have f6 : (239 < A) = False := eq_false (by omega)
    have f7 : (A < 240) = True := eq_true (by omega)
    have f8 : (244 < A) = False := eq_false (by omega)
    have f9 : (A = 224) = False := eq_false (by omega)
    have f10 : (A = 237) = False := eq_false (by omega)
    have f11 : (A = 240) = False := eq_false (by omega)
    have f12 : (A = 244) = False := eq_false (by omega)
    simp only [f0, f1, f2, f3, f4, f5, f6, f7, f8, f9, f10, f11, f12, true_imp_iff, false_imp_iff, not_true_eq_false, not_false_eq_true, and_true, true_and, forall_const, ↓reduceIte, imp_true_iff, Int.reduceLT, Int.reduceEq, Int.reduceLE, Int.reduceAdd] at h1 h2
    clear f0 f1 f2 f3 f4 f5 f6 f7 f8 f9 f10 f11 f12
    omega
  · skip
    have f0 : (192 ≤ A ∧ A ≤ 223) = True := eq_true (by omega)
    have f1 : (224 ≤ A ∧ A ≤ 239) = False := eq_false (by omega)
    have f2 : (240 ≤ A ∧ A ≤ 247) = False := eq_false (by omega)
    have f3 : (A < 194) = True := eq_true (by omega)
    have f4 : (223 < A) = False := eq_false (by omega)
    have f5 : (A < 224) = True := eq_true (by omega)
    have f6 : (239 < A) = False := eq_false (by omega)
    have f7 : (A < 240) = True := eq_true (by omega)
    have f8 : (244 < A) = False := eq_false (by omega)
    have f9 : (A = 224) = False := eq_false (by omega)
    have f10 : (A = 237) = False := eq_false (by omega)
    have f11 : (A = 240) = False := eq_false (by omega)
    have f12 : (A = 244) = False := eq_false (by omega)
    simp only [f0, f1, f2, f3, f4, f5, f6, f7, f8, f9, f10, f11, f12, true_imp_iff, false_imp_iff, not_true_eq_false, not_false_eq_true, and_true, true_and, forall_const, ↓reduceIte, imp_true_iff, Int.reduceLT, Int.reduceEq, Int.reduceLE, Int.reduceAdd] at h1 h2
    clear f0 f1 f2 f3 f4 f5 f6 f7 f8 f9 f10 f11 f12
    by_cases cP : 8 - P < 2
    · simp only [cP, true_imp_iff, false_imp_iff, not_true_eq_false, not_false_eq_true, and_true, true_and, forall_const, ↓reduceIte, imp_true_iff, Int.reduceLT, Int.reduceEq, Int.reduceLE, Int.reduceAdd] at h1 h2; try omega
    · have cB := Classical.em (128 ≤ B ∧ B ≤ 191); have cE := Classical.em (128 ≤ E ∧ E ≤ 191); have cF := Classical.em (128 ≤ F ∧ F ≤ 191)
      have d2 : (P + 2 < P + 2) = False := eq_false (by omega); have d3 : (P + 2 < P + 3) = True := eq_true (by omega); have d4 : (P + 2 < P + 4) = True := eq_true (by omega); have d5 : (P + 3 < P + 3) = False := eq_false (by omega); have d6 : (P + 3 < P + 4) = True := eq_true (by omega)
      rcases cB with cB | cB <;> rcases cE with cE | cE <;> rcases cF with cF | cF <;> simp only [cP, cB, cE, cF, d2, d3, d4, d5, d6, true_imp_iff, false_imp_iff, not_true_eq_false, not_false_eq_true, and_true, true_and, forall_const, ↓reduceIte, imp_true_iff, Int.reduceLT, Int.reduceEq, Int.reduceLE, Int.reduceAdd] at h1 h2 <;> omega
  · skip
    have f0 : (192 ≤ A ∧ A ≤ 223) = True := eq_true (by omega)
    have f1 : (224 ≤ A ∧ A ≤ 239) = False := eq_false (by omega)
    have f2 : (240 ≤ A ∧ A ≤ 247) = False := eq_false (by omega)
    have f3 : (A < 194) = False := eq_false (by omega)
    have f4 : (223 < A) = False := eq_false (by omega)
    have f5 : (A < 224) = True := eq_true (by omega)
    have f6 : (239 < A) = False := eq_false (by omega)
    have f7 : (A < 240) = True := eq_true (by omega)
    have f8 : (244 < A) = False := eq_false (by omega)
    have f9 : (A = 224) = False := eq_false (by omega)
    have f10 : (A = 237) = False := eq_false (by omega)
    have f11 : (A = 240) = False := eq_false (by omega)
    have f12 : (A = 244) = False := eq_false (by omega)
    simp only [f0, f1, f2, f3, f4, f5, f6, f7, f8, f9, f10, f11, f12, true_imp_iff, false_imp_iff, not_true_eq_false, not_false_eq_true, and_true, true_and, forall_const, ↓reduceIte, imp_true_iff, Int.reduceLT, Int.reduceEq, Int.reduceLE, Int.reduceAdd] at h1 h2
    clear f0 f1 f2 f3 f4 f5 f6 f7 f8 f9 f10 f11 f12
    by_cases cP : 8 - P < 2
    · simp only [cP, true_imp_iff, false_imp_iff, not_true_eq_false, not_false_eq_true, and_true, true_and, forall_const, ↓reduceIte, imp_true_iff, Int.reduceLT, Int.reduceEq, Int.reduceLE, Int.reduceAdd] at h1 h2; try omega
    · have cB := Classical.em (128 ≤ B ∧ B ≤ 191); have cE := Classical.em (128 ≤ E ∧ E ≤ 191); have cF := Classical.em (128 ≤ F ∧ F ≤ 191)
      have d2 : (P + 2 < P + 2) = False := eq_false (by omega); have d3 : (P + 2 < P + 3) = True := eq_true (by omega); have d4 : (P + 2 < P + 4) = True := eq_true (by omega); have d5 : (P + 3 < P + 3) = False := eq_false (by omega); have d6 : (P + 3 < P + 4) = True := eq_true (by omega)
      rcases cB with cB | cB <;> rcases cE with cE | cE <;> rcases cF with cF | cF <;> simp only [cP, cB, cE, cF, d2, d3, d4, d5, d6, true_imp_iff, false_imp_iff, not_true_eq_false, not_false_eq_true, and_true, true_and, forall_const, ↓reduceIte, imp_true_iff, Int.reduceLT, Int.reduceEq, Int.reduceLE, Int.reduceAdd] at h1 h2 <;> omega
  · skip
    have f0 : (192 ≤ A ∧ A ≤ 223) = False := eq_false (by omega)
    have f1 : (224 ≤ A ∧ A ≤ 239) = True := eq_true (by omega)
    have f2 : (240 ≤ A ∧ A ≤ 247) = False := eq_false (by omega)
    have f3 : (A < 194) = False := eq_false (by omega)
    have f4 : (223 < A) = True := eq_true (by omega)
    have f5 : (A < 224) = False := eq_false (by omega)
    have f6 : (239 < A) = False := eq_false (by omega)
    have f7 : (A < 240) = True := eq_true (by omega)
    have f8 : (244 < A) = False := eq_false (by omega)
    have f9 : (A = 224) = True := eq_true (by omega)
    have f10 : (A = 237) = False := eq_false (by omega)
    have f11 : (A = 240) = False := eq_false (by omega)
    have f12 : (A = 244) = False := eq_false (by omega)
    simp only [f0, f1, f2, f3, f4, f5, f6, f7, f8, f9, f10, f11, f12, true_imp_iff, false_imp_iff, not_true_eq_false, not_false_eq_true, and_true, true_and, forall_const, ↓reduceIte, imp_true_iff, Int.reduceLT, Int.reduceEq, Int.reduceLE, Int.reduceAdd] at h1 h2
    clear f0 f1 f2 f3 f4 f5 f6 f7 f8 f9 f10 f11 f12
    by_cases cP : 8 - P < 3
    · simp only [cP, true_imp_iff, false_imp_iff, not_true_eq_false, not_false_eq_true, and_true, true_and, forall_const, ↓reduceIte, imp_true_iff, Int.reduceLT, Int.reduceEq, Int.reduceLE, Int.reduceAdd] at h1 h2; try omega
    · have cB := Classical.em (128 ≤ B ∧ B ≤ 191); have cE := Classical.em (128 ≤ E ∧ E ≤ 191); have cF := Classical.em (128 ≤ F ∧ F ≤ 191)
      have d2 : (P + 2 < P + 2) = False := eq_false (by omega); have d3 : (P + 2 < P + 3) = True := eq_true (by omega); have d4 : (P + 2 < P + 4) = True := eq_true (by omega); have d5 : (P + 3 < P + 3) = False := eq_false (by omega); have d6 : (P + 3 < P + 4) = True := eq_true (by omega)
      rcases cB with cB | cB <;> rcases cE with cE | cE <;> rcases cF with cF | cF <;> simp only [cP, cB, cE, cF, d2, d3, d4, d5, d6, true_imp_iff, false_imp_iff, not_true_eq_false, not_false_eq_true, and_true, true_and, forall_const, ↓reduceIte, imp_true_iff, Int.reduceLT, Int.reduceEq, Int.reduceLE, Int.reduceAdd] at h1 h2 <;> omega
  · skip
    have f0 : (192 ≤ A ∧ A ≤ 223) = False := eq_false (by omega)
    have f1 : (224 ≤ A ∧ A ≤ 239) = True := eq_true (by omega)
    have f2 : (240 ≤ A ∧ A ≤ 247) = False := eq_false (by omega)
    have f3 : (A < 194) = False := eq_false (by omega)
    have f4 : (223 < A) = True := eq_true (by omega)
    have f5 : (A < 224) = False := eq_false (by omega)
    have f6 : (239 < A) = False := eq_false (by omega)
    have f7 : (A < 240) = True := eq_true (by omega)
    have f8 : (244 < A) = False := eq_false (by omega)
    have f9 : (A = 224) = False := eq_false (by omega)
    have f10 : (A = 237) = False := eq_false (by omega)
    have f11 : (A = 240) = False := eq_false (by omega)
    have f12 : (A = 244) = False := eq_false (by omega)
    simp only [f0, f1, f2, f3, f4, f5, f6, f7, f8, f9, f10, f11, f12, true_imp_iff, false_imp_iff, not_true_eq_false, not_false_eq_true, and_true, true_and, forall_const, ↓reduceIte, imp_true_iff, Int.reduceLT, Int.reduceEq, Int.reduceLE, Int.reduceAdd] at h1 h2
    clear f0 f1 f2 f3 f4 f5 f6 f7 f8 f9 f10 f11 f12
    by_cases cP : 8 - P < 3
    · simp only [cP, true_imp_iff, false_imp_iff, not_true_eq_false, not_false_eq_true, and_true, true_and, forall_const, ↓reduceIte, imp_true_iff, Int.reduceLT, Int.reduceEq, Int.reduceLE, Int.reduceAdd] at h1 h2; try omega
    · have cB := Classical.em (128 ≤ B ∧ B ≤ 191); have cE := Classical.em (128 ≤ E ∧ E ≤ 191); have cF := Classical.em (128 ≤ F ∧ F ≤ 191)
      have d2 : (P + 2 < P + 2) = False := eq_false (by omega); have d3 : (P + 2 < P + 3) = True := eq_true (by omega); have d4 : (P + 2 < P + 4) = True := eq_true (by omega); have d5 : (P + 3 < P + 3) = False := eq_false (by omega); have d6 : (P + 3 < P + 4) = True := eq_true (by omega)
      rcases cB with cB | cB <;> rcases cE with cE | cE <;> rcases cF with cF | cF <;> simp only [cP, cB, cE, cF, d2, d3, d4, d5, d6, true_imp_iff, false_imp_iff, not_true_eq_false, not_false_eq_true, and_true, true_and, forall_const, ↓reduceIte, imp_true_iff, Int.reduceLT, Int.reduceEq, Int.reduceLE, Int.reduceAdd] at h1 h2 <;> omega
  · skip
    have f0 : (192 ≤ A ∧ A ≤ 223) = False := eq_false (by omega)
    have f1 : (224 ≤ A ∧ A ≤ 239) = True := eq_true (by omega)
    have f2 : (240 ≤ A ∧ A ≤ 247) = False := eq_false (by omega)
    have f3 : (A < 194) = False := eq_false (by omega)
    have f4 : (223 < A) = True := eq_true (by omega)
    have f5 : (A < 224) = False := eq_false (by omega)
    have f6 : (239 < A) = False := eq_false (by omega)
    have f7 : (A < 240) = True := eq_true (by omega)
    have f8 : (244 < A) = False := eq_false (by omega)
    have f9 : (A = 224) = False := eq_false (by omega)
    have f10 : (A = 237) = True := eq_true (by omega)
    have f11 : (A = 240) = False := eq_false (by omega)
    have f12 : (A = 244) = False := eq_false (by omega)
    simp only [f0, f1, f2, f3, f4, f5, f6, f7, f8, f9, f10, f11, f12, true_imp_iff, false_imp_iff, not_true_eq_false, not_false_eq_true, and_true, true_and, forall_const, ↓reduceIte, imp_true_iff, Int.reduceLT, Int.reduceEq, Int.reduceLE, Int.reduceAdd] at h1 h2
    clear f0 f1 f2 f3 f4 f5 f6 f7 f8 f9 f10 f11 f12
    by_cases cP : 8 - P < 3
    · simp only [cP, true_imp_iff, false_imp_iff, not_true_eq_false, not_false_eq_true, and_true, true_and, forall_const, ↓reduceIte, imp_true_iff, Int.reduceLT, Int.reduceEq, Int.reduceLE, Int.reduceAdd] at h1 h2; try omega
    · have cB := Classical.em (128 ≤ B ∧ B ≤ 191); have cE := Classical.em (128 ≤ E ∧ E ≤ 191); have cF := Classical.em (128 ≤ F ∧ F ≤ 191)
      have d2 : (P + 2 < P + 2) = False := eq_false (by omega); have d3 : (P + 2 < P + 3) = True := eq_true (by omega); have d4 : (P + 2 < P + 4) = True := eq_true (by omega); have d5 : (P + 3 < P + 3) = False := eq_false (by omega); have d6 : (P + 3 < P + 4) = True := eq_true (by omega)
      rcases cB with cB | cB <;> rcases cE with cE | cE <;> rcases cF with cF | cF <;> simp only [cP, cB, cE, cF, d2, d3, d4, d5, d6, true_imp_iff, false_imp_iff, not_true_eq_false, not_false_eq_true, and_true, true_and, forall_const, ↓reduceIte, imp_true_iff, Int.reduceLT, Int.reduceEq, Int.reduceLE, Int.reduceAdd] at h1 h2 <;> omega
  · skip
    have f0 : (192 ≤ A ∧ A ≤ 223) = False := eq_false (by omega)
    have f1 : (224 ≤ A ∧ A ≤ 239) = True := eq_true (by omega)
    have f2 : (240 ≤ A ∧ A ≤ 247) = False := eq_false (by omega)
    have f3 : (A < 194) = False := eq_false (by omega)
    have f4 : (223 < A) = True := eq_true (by omega)
    have f5 : (A < 224) = False := eq_false (by omega)
    have f6 : (239 < A) = False := eq_false (by omega)
    have f7 : (A < 240) = True := eq_true (by omega)
    have f8 : (244 < A) = False := eq_false (by omega)
    have f9 : (A = 224) = False := eq_false (by omega)
    have f10 : (A = 237) = False := eq_false (by omega)
    have f11 : (A = 240) = False := eq_false (by omega)
    have f12 : (A = 244) = False := eq_false (by omega)
    simp only [f0, f1, f2, f3, f4, f5, f6, f7, f8, f9, f10, f11, f12, true_imp_iff, false_imp_iff, not_true_eq_false, not_false_eq_true, and_true, true_and, forall_const, ↓reduceIte, imp_true_iff, Int.reduceLT, Int.reduceEq, Int.reduceLE, Int.reduceAdd] at h1 h2
    clear f0 f1 f2 f3 f4 f5 f6 f7 f8 f9 f10 f11 f12
    by_cases cP : 8 - P < 3
    · simp only [cP, true_imp_iff, false_imp_iff, not_true_eq_false, not_false_eq_true, and_true, true_and, forall_const, ↓reduceIte, imp_true_iff, Int.reduceLT, Int.reduceEq, Int.reduceLE, Int.reduceAdd] at h1 h2; try omega
    · have cB := Classical.em (128 ≤ B ∧ B ≤ 191); have cE := Classical.em (128 ≤ E ∧ E ≤ 191); have cF := Classical.em (128 ≤ F ∧ F ≤ 191)
      have d2 : (P + 2 < P + 2) = False := eq_false (by omega); have d3 : (P + 2 < P + 3) = True := eq_true (by omega); have d4 : (P + 2 < P + 4) = True := eq_true (by omega); have d5 : (P + 3 < P + 3) = False := eq_false (by omega); have d6 : (P + 3 < P + 4) = True := eq_true (by omega)
      rcases cB with cB | cB <;> rcases cE with cE | cE <;> rcases cF with cF | cF <;> simp only [cP, cB, cE, cF, d2, d3, d4, d5, d6, true_imp_iff, false_imp_iff, not_true_eq_false, not_false_eq_true, and_true, true_and, forall_const, ↓reduceIte, imp_true_iff, Int.reduceLT, Int.reduceEq, Int.reduceLE, Int.reduceAdd] at h1 h2 <;> omega
  · skip
    have f0 : (192 ≤ A ∧ A ≤ 223) = False := eq_false (by omega)
    have f1 : (224 ≤ A ∧ A ≤ 239) = False := eq_false (by omega)
    have f2 : (240 ≤ A ∧ A ≤ 247) = True := eq_true (by omega)
    have f3 : (A < 194) = False := eq_false (by omega)
    have f4 : (223 < A) = True := eq_true (by omega)
    have f5 : (A < 224) = False := eq_false (by omega)
    have f6 : (239 < A) = True := eq_true (by omega)
    have f7 : (A < 240) = False := eq_false (by omega)
    have f8 : (244 < A) = False := eq_false (by omega)
    have f9 : (A = 224) = False := eq_false (by omega)
    have f10 : (A = 237) = False := eq_false (by omega)
    have f11 : (A = 240) = True := eq_true (by omega)
    have f12 : (A = 244) = False := eq_false (by omega)
    simp only [f0, f1, f2, f3, f4, f5, f6, f7, f8, f9, f10, f11, f12, true_imp_iff, false_imp_iff, not_true_eq_false, not_false_eq_true, and_true, true_and, forall_const, ↓reduceIte, imp_true_iff, Int.reduceLT, Int.reduceEq, Int.reduceLE, Int.reduceAdd] at h1 h2
    clear f0 f1 f2 f3 f4 f5 f6 f7 f8 f9 f10 f11 f12
    by_cases cP : 8 - P < 4
    · simp only [cP, true_imp_iff, false_imp_iff, not_true_eq_false, not_false_eq_true, and_true, true_and, forall_const, ↓reduceIte, imp_true_iff, Int.reduceLT, Int.reduceEq, Int.reduceLE, Int.reduceAdd] at h1 h2; try omega
    · have cB := Classical.em (128 ≤ B ∧ B ≤ 191); have cE := Classical.em (128 ≤ E ∧ E ≤ 191); have cF := Classical.em (128 ≤ F ∧ F ≤ 191)
      have d2 : (P + 2 < P + 2) = False := eq_false (by omega); have d3 : (P + 2 < P + 3) = True := eq_true (by omega); have d4 : (P + 2 < P + 4) = True := eq_true (by omega); have d5 : (P + 3 < P + 3) = False := eq_false (by omega); have d6 : (P + 3 < P + 4) = True := eq_true (by omega)
      rcases cB with cB | cB <;> rcases cE with cE | cE <;> rcases cF with cF | cF <;> simp only [cP, cB, cE, cF, d2, d3, d4, d5, d6, true_imp_iff, false_imp_iff, not_true_eq_false, not_false_eq_true, and_true, true_and, forall_const, ↓reduceIte, imp_true_iff, Int.reduceLT, Int.reduceEq, Int.reduceLE, Int.reduceAdd] at h1 h2 <;> omega
  · skip
    have f0 : (192 ≤ A ∧ A ≤ 223) = False := eq_false (by omega)
    have f1 : (224 ≤ A ∧ A ≤ 239) = False := eq_false (by omega)
    have f2 : (240 ≤ A ∧ A ≤ 247) = True := eq_true (by omega)
    have f3 : (A < 194) = False := eq_false (by omega)
    have f4 : (223 < A) = True := eq_true (by omega)
    have f5 : (A < 224) = False := eq_false (by omega)
    have f6 : (239 < A) = True := eq_true (by omega)
    have f7 : (A < 240) = False := eq_false (by omega)
    have f8 : (244 < A) = False := eq_false (by omega)
    have f9 : (A = 224) = False := eq_false (by omega)
    have f10 : (A = 237) = False := eq_false (by omega)
    have f11 : (A = 240) = False := eq_false (by omega)
    have f12 : (A = 244) = False := eq_false (by omega)
    simp only [f0, f1, f2, f3, f4, f5, f6, f7, f8, f9, f10, f11, f12, true_imp_iff, false_imp_iff, not_true_eq_false, not_false_eq_true, and_true, true_and, forall_const, ↓reduceIte, imp_true_iff, Int.reduceLT, Int.reduceEq, Int.reduceLE, Int.reduceAdd] at h1 h2
    clear f0 f1 f2 f3 f4 f5 f6 f7 f8 f9 f10 f11 f12
    by_cases cP : 8 - P < 4
    · simp only [cP, true_imp_iff, false_imp_iff, not_true_eq_false, not_false_eq_true, and_true, true_and, forall_const, ↓reduceIte, imp_true_iff, Int.reduceLT, Int.reduceEq, Int.reduceLE, Int.reduceAdd] at h1 h2; try omega
    · have cB := Classical.em (128 ≤ B ∧ B ≤ 191); have cE := Classical.em (128 ≤ E ∧ E ≤ 191); have cF := Classical.em (128 ≤ F ∧ F ≤ 191)
      have d2 : (P + 2 < P + 2) = False := eq_false (by omega); have d3 : (P + 2 < P + 3) = True := eq_true (by omega); have d4 : (P + 2 < P + 4) = True := eq_true (by omega); have d5 : (P + 3 < P + 3) = False := eq_false (by omega); have d6 : (P + 3 < P + 4) = True := eq_true (by omega)
      rcases cB with cB | cB <;> rcases cE with cE | cE <;> rcases cF with cF | cF <;> simp only [cP, cB, cE, cF, d2, d3, d4, d5, d6, true_imp_iff, false_imp_iff, not_true_eq_false, not_false_eq_true, and_true, true_and, forall_const, ↓reduceIte, imp_true_iff, Int.reduceLT, Int.reduceEq, Int.reduceLE, Int.reduceAdd] at h1 h2 <;> omega
  · skip
    have f0 : (192 ≤ A ∧ A ≤ 223) = False := eq_false (by omega)
    have f1 : (224 ≤ A ∧ A ≤ 239) = False := eq_false (by omega)
    have f2 : (240 ≤ A ∧ A ≤ 247) = True := eq_true (by omega)
    have f3 : (A < 194) = False := eq_false (by omega)
    have f4 : (223 < A) = True := eq_true (by omega)
    have f5 : (A < 224) = False := eq_false (by omega)
    have f6 : (239 < A) = True := eq_true (by omega)
    have f7 : (A < 240) = False := eq_false (by omega)
    have f8 : (244 < A) = False := eq_false (by omega)
    have f9 : (A = 224) = False := eq_false (by omega)
    have f10 : (A = 237) = False := eq_false (by omega)
    have f11 : (A = 240) = False := eq_false (by omega)
    have f12 : (A = 244) = True := eq_true (by omega)
    simp only [f0, f1, f2, f3, f4, f5, f6, f7, f8, f9, f10, f11, f12, true_imp_iff, false_imp_iff, not_true_eq_false, not_false_eq_true, and_true, true_and, forall_const, ↓reduceIte, imp_true_iff, Int.reduceLT, Int.reduceEq, Int.reduceLE, Int.reduceAdd] at h1 h2
    clear f0 f1 f2 f3 f4 f5 f6 f7 f8 f9 f10 f11 f12
    by_cases cP : 8 - P < 4
    · simp only [cP, true_imp_iff, false_imp_iff, not_true_eq_false, not_false_eq_true, and_true, true_and, forall_const, ↓reduceIte, imp_true_iff, Int.reduceLT, Int.reduceEq, Int.reduceLE, Int.reduceAdd] at h1 h2; try omega
    · have cB := Classical.em (128 ≤ B ∧ B ≤ 191); have cE := Classical.em (128 ≤ E ∧ E ≤ 191); have cF := Classical.em (128 ≤ F ∧ F ≤ 191)
      have d2 : (P + 2 < P + 2) = False := eq_false (by omega); have d3 : (P + 2 < P + 3) = True := eq_true (by omega); have d4 : (P + 2 < P + 4) = True := eq_true (by omega); have d5 : (P + 3 < P + 3) = False := eq_false (by omega); have d6 : (P + 3 < P + 4) = True := eq_true (by omega)
      rcases cB with cB | cB <;> rcases cE with cE | cE <;> rcases cF with cF | cF <;> simp only [cP, cB, cE, cF, d2, d3, d4, d5, d6, true_imp_iff, false_imp_iff, not_true_eq_false, not_false_eq_true, and_true, true_and, forall_const, ↓reduceIte, imp_true_iff, Int.reduceLT, Int.reduceEq, Int.reduceLE, Int.reduceAdd] at h1 h2 <;> omega
  · skip
    have f0 : (192 ≤ A ∧ A ≤ 223) = False := eq_false (by omega)
    have f1 : (224 ≤ A ∧ A ≤ 239) = False := eq_false (by omega)
    have f2 : (240 ≤ A ∧ A ≤ 247) = True := eq_true (by omega)
    have f3 : (A < 194) = False := eq_false (by omega)
    have f4 : (223 < A) = True := eq_true (by omega)
    have f5 : (A < 224) = False := eq_false (by omega)
    have f6 : (239 < A) = True := eq_true (by omega)
    have f7 : (A < 240) = False := eq_false (by omega)
    have f8 : (244 < A) = True := eq_true (by omega)
    have f9 : (A = 224) = False := eq_false (by omega)
    have f10 : (A = 237) = False := eq_false (by omega)
    have f11 : (A = 240) = False := eq_false (by omega)
    have f12 : (A = 244) = False := eq_false (by omega)
    simp only [f0, f1, f2, f3, f4, f5, f6, f7, f8, f9, f10, f11, f12, true_imp_iff, false_imp_iff, not_true_eq_false, not_false_eq_true, and_true, true_and, forall_const, ↓reduceIte, imp_true_iff, Int.reduceLT, Int.reduceEq, Int.reduceLE, Int.reduceAdd] at h1 h2
    clear f0 f1 f2 f3 f4 f5 f6 f7 f8 f9 f10 f11 f12
    by_cases cP : 8 - P < 4
    · simp only [cP, true_imp_iff, false_imp_iff, not_true_eq_false, not_false_eq_true, and_true, true_and, forall_const, ↓reduceIte, imp_true_iff, Int.reduceLT, Int.reduceEq, Int.reduceLE, Int.reduceAdd] at h1 h2; try omega
    · have cB := Classical.em (128 ≤ B ∧ B ≤ 191); have cE := Classical.em (128 ≤ E ∧ E ≤ 191); have cF := Classical.em (128 ≤ F ∧ F ≤ 191)
      have d2 : (P + 2 < P + 2) = False := eq_false (by omega); have d3 : (P + 2 < P + 3) = True := eq_true (by omega); have d4 : (P + 2 < P + 4) = True := eq_true (by omega); have d5 : (P + 3 < P + 3) = False := eq_false (by omega); have d6 : (P + 3 < P + 4) = True := eq_true (by omega)
      rcases cB with cB | cB <;> rcases cE with cE | cE <;> rcases cF with cF | cF <;> simp only [cP, cB, cE, cF, d2, d3, d4, d5, d6, true_imp_iff, false_imp_iff, not_true_eq_false, not_false_eq_true, and_true, true_and, forall_const, ↓reduceIte, imp_true_iff, Int.reduceLT, Int.reduceEq, Int.reduceLE, Int.reduceAdd] at h1 h2 <;> omega
  · skip
    have f0 : (192 ≤ A ∧ A ≤ 223) = False := eq_false (by omega)
    have f1 : (224 ≤ A ∧ A ≤ 239) = False := eq_false (by omega)
    have f2 : (240 ≤ A ∧ A ≤ 247) = False := eq_false (by omega)
    have f3 : (A < 194) = False := eq_false (by omega)
    have f4 : (223 < A) = True := eq_true (by omega)
    have f5 : (A < 224) = False := eq_false (by omega)
    have f6 : (239 < A) = True := eq_true (by omega)
    have f7 : (A < 240) = False := eq_false (by omega)
    have f8 : (244 < A) = True := eq_true (by omega)
    have f9 : (A = 224) = False := eq_false (by omega)
    have f10 : (A = 237) = False := eq_false (by omega)
    have f11 : (A = 240) = False := eq_false (by omega)
    have f12 : (A = 244) = False := eq_false (by omega)
    simp only [f0, f1, f2, f3, f4, f5, f6, f7, f8, f9, f10, f11, f12, true_imp_iff, false_imp_iff, not_true_eq_false, not_false_eq_true, and_true, true_and, forall_const, ↓reduceIte, imp_true_iff, Int.reduceLT, Int.reduceEq, Int.reduceLE, Int.reduceAdd] at h1 h2
    clear f0 f1 f2 f3 f4 f5 f6 f7 f8 f9 f10 f11 f12
    omega
theorem pd_0_0 : parseMethodDescriptor "([BI)I" = some ⟨[(.array .byte), .int], some .int⟩ := by decide +kernel
theorem pn_0 : plainFor x = true := plainFor_of_name (by first | (simp [plainName, overriddenIn, x]; done) | decide +kernel)
theorem ef_0 (q : Int64) (sh : Int32) (m : MethodId) : entryFrame m #[(.long q), (.int sh)] maxLocals = mkF m 0 #[.val (.long q), .second, .val (.int sh), .unset, .unset, .unset] [] := by first | (simp [entryFrame, mkF, argsToLocals, Value.category, maxLocals]; done) | rfl
abbrev R0 : Room := room_1
abbrev A0 (l : Launch) (Z : State) (n0 : Nat) (D : Own.Dyn) := Own.Rch l Z n0 R0 x code maxLocals ret D
set_option maxRecDepth 65536 in
set_option maxHeartbeats 40000000 in
theorem c0 (l : Launch) (Z : State) (a0 : Array Value) (hw : ∀ d ∈ tables_1, d.before a0 Z = true) (n0 : Nat) (h : Heap) (Zs : n0 ≤ h.size) (q : Int64) (sh : Int32) :
    Own.Con l Z n0 x code maxLocals ret R0 #[(.long q), (.int sh)] h (fun v h' => v = some (.int 1)) := by
  refine Own.Con.enter pn_0 (ef_0 q sh) fun D r => ?_
  replace r : A0 l Z n0 D h 0 0 2 #[.val (.long q), .second, .val (.int sh), .unset, .unset, .unset] [(.int (8 : Int32))] := Own.bipush r at_0 rfl
  obtain ⟨h1, ⟨E1, V_b1⟩, r⟩ := Own.newArr r at_2 (hw _ (List.mem_of_getElem? (i := 0) rfl)) (by decide) (cap := 8) (by decide) (by decide) (by decide) (by decide)
  obtain ⟨b1, g1⟩ : ∃ z, z = h.size := ⟨_, rfl⟩
  rw [← g1] at V_b1 r
  have ge_b1 : n0 ≤ b1 := Nat.le_trans Zs (Nat.le_of_eq g1.symm)
  replace Zs := Nat.le_trans Zs E1.1
  replace r : A0 l Z n0 D h1 1 8 4 #[.val (.long q), .second, .val (.int sh), .unset, .unset, .unset] [(.ref b1)] := r
  replace V_b1 : Own.VA Z h1 b1 .byte [(.int (0 : Int32)), (.int (0 : Int32)), (.int (0 : Int32)), (.int (0 : Int32)), (.int (0 : Int32)), (.int (0 : Int32)), (.int (0 : Int32)), (.int (0 : Int32))] := V_b1
  replace r : A0 l Z n0 D h1 1 8 5 #[.val (.long q), .second, .val (.int sh), .val (.ref b1), .unset, .unset] [] := Own.astoreN r at_4 rfl rfl
  replace r : A0 l Z n0 D h1 1 8 6 #[.val (.long q), .second, .val (.int sh), .val (.ref b1), .unset, .unset] [(.ref b1)] := Own.aloadN r at_5 rfl rfl
  replace r : A0 l Z n0 D h1 1 8 7 #[.val (.long q), .second, .val (.int sh), .val (.ref b1), .unset, .unset] [(.int (0 : Int32)), (.ref b1)] := Own.iconst r at_6 rfl
  replace r : A0 l Z n0 D h1 1 8 8 #[.val (.long q), .second, .val (.int sh), .val (.ref b1), .unset, .unset] [(.long q), (.int (0 : Int32)), (.ref b1)] := Own.lloadN r at_7 rfl
  replace r : A0 l Z n0 D h1 1 8 9 #[.val (.long q), .second, .val (.int sh), .val (.ref b1), .unset, .unset] [(.int q.toInt32), (.int (0 : Int32)), (.ref b1)] := Own.l2i r at_8
  replace r : A0 l Z n0 D h1 1 8 10 #[.val (.long q), .second, .val (.int sh), .val (.ref b1), .unset, .unset] [(.int (Own.i2bW q.toInt32)), (.int (0 : Int32)), (.ref b1)] := Own.i2b r at_9
  obtain ⟨w2, e_w2⟩ : ∃ z : Int32, z = (Own.i2bW q.toInt32) := ⟨_, rfl⟩
  replace r : A0 l Z n0 D h1 1 8 10 #[.val (.long q), .second, .val (.int sh), .val (.ref b1), .unset, .unset] [(.int w2), (.int (0 : Int32)), (.ref b1)] := by rw [e_w2]; exact r
  obtain ⟨h4, ⟨W3, V_b1⟩, r⟩ := Own.bastore r at_10 V_b1 (by decide) (Nat.le_of_ble_eq_true rfl) ge_b1
  replace r : A0 l Z n0 D h4 1 8 11 #[.val (.long q), .second, .val (.int sh), .val (.ref b1), .unset, .unset] [] := r
  replace Zs := Nat.le_trans Zs (Nat.le_of_eq W3.size.symm)
  replace V_b1 : Own.VA Z h4 b1 .byte [(.int (nar .byte w2)), (.int (0 : Int32)), (.int (0 : Int32)), (.int (0 : Int32)), (.int (0 : Int32)), (.int (0 : Int32)), (.int (0 : Int32)), (.int (0 : Int32))] := V_b1
  replace r : A0 l Z n0 D h4 1 8 12 #[.val (.long q), .second, .val (.int sh), .val (.ref b1), .unset, .unset] [(.ref b1)] := Own.aloadN r at_11 rfl rfl
  replace r : A0 l Z n0 D h4 1 8 13 #[.val (.long q), .second, .val (.int sh), .val (.ref b1), .unset, .unset] [(.int (1 : Int32)), (.ref b1)] := Own.iconst r at_12 rfl
  replace r : A0 l Z n0 D h4 1 8 14 #[.val (.long q), .second, .val (.int sh), .val (.ref b1), .unset, .unset] [(.long q), (.int (1 : Int32)), (.ref b1)] := Own.lloadN r at_13 rfl
  replace r : A0 l Z n0 D h4 1 8 16 #[.val (.long q), .second, .val (.int sh), .val (.ref b1), .unset, .unset] [(.int (8 : Int32)), (.long q), (.int (1 : Int32)), (.ref b1)] := Own.bipush r at_14 rfl
  replace r : A0 l Z n0 D h4 1 8 17 #[.val (.long q), .second, .val (.int sh), .val (.ref b1), .unset, .unset] [(.long (Own.lushrW q (8 : Int32))), (.int (1 : Int32)), (.ref b1)] := Own.lushr r at_16
  replace r : A0 l Z n0 D h4 1 8 18 #[.val (.long q), .second, .val (.int sh), .val (.ref b1), .unset, .unset] [(.int (Own.lushrW q (8 : Int32)).toInt32), (.int (1 : Int32)), (.ref b1)] := Own.l2i r at_17
  replace r : A0 l Z n0 D h4 1 8 19 #[.val (.long q), .second, .val (.int sh), .val (.ref b1), .unset, .unset] [(.int (Own.i2bW (Own.lushrW q (8 : Int32)).toInt32)), (.int (1 : Int32)), (.ref b1)] := Own.i2b r at_18
  obtain ⟨w5, e_w5⟩ : ∃ z : Int32, z = (Own.i2bW (Own.lushrW q (8 : Int32)).toInt32) := ⟨_, rfl⟩
  replace r : A0 l Z n0 D h4 1 8 19 #[.val (.long q), .second, .val (.int sh), .val (.ref b1), .unset, .unset] [(.int w5), (.int (1 : Int32)), (.ref b1)] := by rw [e_w5]; exact r
  obtain ⟨h7, ⟨W6, V_b1⟩, r⟩ := Own.bastore r at_19 V_b1 (by decide) (Nat.le_of_ble_eq_true rfl) ge_b1
  replace r : A0 l Z n0 D h7 1 8 20 #[.val (.long q), .second, .val (.int sh), .val (.ref b1), .unset, .unset] [] := r
  replace Zs := Nat.le_trans Zs (Nat.le_of_eq W6.size.symm)
  replace V_b1 : Own.VA Z h7 b1 .byte [(.int (nar .byte w2)), (.int (nar .byte w5)), (.int (0 : Int32)), (.int (0 : Int32)), (.int (0 : Int32)), (.int (0 : Int32)), (.int (0 : Int32)), (.int (0 : Int32))] := V_b1
  replace r : A0 l Z n0 D h7 1 8 21 #[.val (.long q), .second, .val (.int sh), .val (.ref b1), .unset, .unset] [(.ref b1)] := Own.aloadN r at_20 rfl rfl
  replace r : A0 l Z n0 D h7 1 8 22 #[.val (.long q), .second, .val (.int sh), .val (.ref b1), .unset, .unset] [(.int (2 : Int32)), (.ref b1)] := Own.iconst r at_21 rfl
  replace r : A0 l Z n0 D h7 1 8 23 #[.val (.long q), .second, .val (.int sh), .val (.ref b1), .unset, .unset] [(.long q), (.int (2 : Int32)), (.ref b1)] := Own.lloadN r at_22 rfl
  replace r : A0 l Z n0 D h7 1 8 25 #[.val (.long q), .second, .val (.int sh), .val (.ref b1), .unset, .unset] [(.int (16 : Int32)), (.long q), (.int (2 : Int32)), (.ref b1)] := Own.bipush r at_23 rfl
  replace r : A0 l Z n0 D h7 1 8 26 #[.val (.long q), .second, .val (.int sh), .val (.ref b1), .unset, .unset] [(.long (Own.lushrW q (16 : Int32))), (.int (2 : Int32)), (.ref b1)] := Own.lushr r at_25
  replace r : A0 l Z n0 D h7 1 8 27 #[.val (.long q), .second, .val (.int sh), .val (.ref b1), .unset, .unset] [(.int (Own.lushrW q (16 : Int32)).toInt32), (.int (2 : Int32)), (.ref b1)] := Own.l2i r at_26
  replace r : A0 l Z n0 D h7 1 8 28 #[.val (.long q), .second, .val (.int sh), .val (.ref b1), .unset, .unset] [(.int (Own.i2bW (Own.lushrW q (16 : Int32)).toInt32)), (.int (2 : Int32)), (.ref b1)] := Own.i2b r at_27
  obtain ⟨w8, e_w8⟩ : ∃ z : Int32, z = (Own.i2bW (Own.lushrW q (16 : Int32)).toInt32) := ⟨_, rfl⟩
  replace r : A0 l Z n0 D h7 1 8 28 #[.val (.long q), .second, .val (.int sh), .val (.ref b1), .unset, .unset] [(.int w8), (.int (2 : Int32)), (.ref b1)] := by rw [e_w8]; exact r
  obtain ⟨h10, ⟨W9, V_b1⟩, r⟩ := Own.bastore r at_28 V_b1 (by decide) (Nat.le_of_ble_eq_true rfl) ge_b1
  replace r : A0 l Z n0 D h10 1 8 29 #[.val (.long q), .second, .val (.int sh), .val (.ref b1), .unset, .unset] [] := r
  replace Zs := Nat.le_trans Zs (Nat.le_of_eq W9.size.symm)
  replace V_b1 : Own.VA Z h10 b1 .byte [(.int (nar .byte w2)), (.int (nar .byte w5)), (.int (nar .byte w8)), (.int (0 : Int32)), (.int (0 : Int32)), (.int (0 : Int32)), (.int (0 : Int32)), (.int (0 : Int32))] := V_b1
  replace r : A0 l Z n0 D h10 1 8 30 #[.val (.long q), .second, .val (.int sh), .val (.ref b1), .unset, .unset] [(.ref b1)] := Own.aloadN r at_29 rfl rfl
  replace r : A0 l Z n0 D h10 1 8 31 #[.val (.long q), .second, .val (.int sh), .val (.ref b1), .unset, .unset] [(.int (3 : Int32)), (.ref b1)] := Own.iconst r at_30 rfl
  replace r : A0 l Z n0 D h10 1 8 32 #[.val (.long q), .second, .val (.int sh), .val (.ref b1), .unset, .unset] [(.long q), (.int (3 : Int32)), (.ref b1)] := Own.lloadN r at_31 rfl
  replace r : A0 l Z n0 D h10 1 8 34 #[.val (.long q), .second, .val (.int sh), .val (.ref b1), .unset, .unset] [(.int (24 : Int32)), (.long q), (.int (3 : Int32)), (.ref b1)] := Own.bipush r at_32 rfl
  replace r : A0 l Z n0 D h10 1 8 35 #[.val (.long q), .second, .val (.int sh), .val (.ref b1), .unset, .unset] [(.long (Own.lushrW q (24 : Int32))), (.int (3 : Int32)), (.ref b1)] := Own.lushr r at_34
  replace r : A0 l Z n0 D h10 1 8 36 #[.val (.long q), .second, .val (.int sh), .val (.ref b1), .unset, .unset] [(.int (Own.lushrW q (24 : Int32)).toInt32), (.int (3 : Int32)), (.ref b1)] := Own.l2i r at_35
  replace r : A0 l Z n0 D h10 1 8 37 #[.val (.long q), .second, .val (.int sh), .val (.ref b1), .unset, .unset] [(.int (Own.i2bW (Own.lushrW q (24 : Int32)).toInt32)), (.int (3 : Int32)), (.ref b1)] := Own.i2b r at_36
  obtain ⟨w11, e_w11⟩ : ∃ z : Int32, z = (Own.i2bW (Own.lushrW q (24 : Int32)).toInt32) := ⟨_, rfl⟩
  replace r : A0 l Z n0 D h10 1 8 37 #[.val (.long q), .second, .val (.int sh), .val (.ref b1), .unset, .unset] [(.int w11), (.int (3 : Int32)), (.ref b1)] := by rw [e_w11]; exact r
  obtain ⟨h13, ⟨W12, V_b1⟩, r⟩ := Own.bastore r at_37 V_b1 (by decide) (Nat.le_of_ble_eq_true rfl) ge_b1
  replace r : A0 l Z n0 D h13 1 8 38 #[.val (.long q), .second, .val (.int sh), .val (.ref b1), .unset, .unset] [] := r
  replace Zs := Nat.le_trans Zs (Nat.le_of_eq W12.size.symm)
  replace V_b1 : Own.VA Z h13 b1 .byte [(.int (nar .byte w2)), (.int (nar .byte w5)), (.int (nar .byte w8)), (.int (nar .byte w11)), (.int (0 : Int32)), (.int (0 : Int32)), (.int (0 : Int32)), (.int (0 : Int32))] := V_b1
  replace r : A0 l Z n0 D h13 1 8 39 #[.val (.long q), .second, .val (.int sh), .val (.ref b1), .unset, .unset] [(.ref b1)] := Own.aloadN r at_38 rfl rfl
  replace r : A0 l Z n0 D h13 1 8 40 #[.val (.long q), .second, .val (.int sh), .val (.ref b1), .unset, .unset] [(.int (4 : Int32)), (.ref b1)] := Own.iconst r at_39 rfl
  replace r : A0 l Z n0 D h13 1 8 41 #[.val (.long q), .second, .val (.int sh), .val (.ref b1), .unset, .unset] [(.long q), (.int (4 : Int32)), (.ref b1)] := Own.lloadN r at_40 rfl
  replace r : A0 l Z n0 D h13 1 8 43 #[.val (.long q), .second, .val (.int sh), .val (.ref b1), .unset, .unset] [(.int (32 : Int32)), (.long q), (.int (4 : Int32)), (.ref b1)] := Own.bipush r at_41 rfl
  replace r : A0 l Z n0 D h13 1 8 44 #[.val (.long q), .second, .val (.int sh), .val (.ref b1), .unset, .unset] [(.long (Own.lushrW q (32 : Int32))), (.int (4 : Int32)), (.ref b1)] := Own.lushr r at_43
  replace r : A0 l Z n0 D h13 1 8 45 #[.val (.long q), .second, .val (.int sh), .val (.ref b1), .unset, .unset] [(.int (Own.lushrW q (32 : Int32)).toInt32), (.int (4 : Int32)), (.ref b1)] := Own.l2i r at_44
  replace r : A0 l Z n0 D h13 1 8 46 #[.val (.long q), .second, .val (.int sh), .val (.ref b1), .unset, .unset] [(.int (Own.i2bW (Own.lushrW q (32 : Int32)).toInt32)), (.int (4 : Int32)), (.ref b1)] := Own.i2b r at_45
  obtain ⟨w14, e_w14⟩ : ∃ z : Int32, z = (Own.i2bW (Own.lushrW q (32 : Int32)).toInt32) := ⟨_, rfl⟩
  replace r : A0 l Z n0 D h13 1 8 46 #[.val (.long q), .second, .val (.int sh), .val (.ref b1), .unset, .unset] [(.int w14), (.int (4 : Int32)), (.ref b1)] := by rw [e_w14]; exact r
  obtain ⟨h16, ⟨W15, V_b1⟩, r⟩ := Own.bastore r at_46 V_b1 (by decide) (Nat.le_of_ble_eq_true rfl) ge_b1
  replace r : A0 l Z n0 D h16 1 8 47 #[.val (.long q), .second, .val (.int sh), .val (.ref b1), .unset, .unset] [] := r
  replace Zs := Nat.le_trans Zs (Nat.le_of_eq W15.size.symm)
  replace V_b1 : Own.VA Z h16 b1 .byte [(.int (nar .byte w2)), (.int (nar .byte w5)), (.int (nar .byte w8)), (.int (nar .byte w11)), (.int (nar .byte w14)), (.int (0 : Int32)), (.int (0 : Int32)), (.int (0 : Int32))] := V_b1
  replace r : A0 l Z n0 D h16 1 8 48 #[.val (.long q), .second, .val (.int sh), .val (.ref b1), .unset, .unset] [(.ref b1)] := Own.aloadN r at_47 rfl rfl
  replace r : A0 l Z n0 D h16 1 8 49 #[.val (.long q), .second, .val (.int sh), .val (.ref b1), .unset, .unset] [(.int (5 : Int32)), (.ref b1)] := Own.iconst r at_48 rfl
  replace r : A0 l Z n0 D h16 1 8 50 #[.val (.long q), .second, .val (.int sh), .val (.ref b1), .unset, .unset] [(.long q), (.int (5 : Int32)), (.ref b1)] := Own.lloadN r at_49 rfl
  replace r : A0 l Z n0 D h16 1 8 52 #[.val (.long q), .second, .val (.int sh), .val (.ref b1), .unset, .unset] [(.int (40 : Int32)), (.long q), (.int (5 : Int32)), (.ref b1)] := Own.bipush r at_50 rfl
  replace r : A0 l Z n0 D h16 1 8 53 #[.val (.long q), .second, .val (.int sh), .val (.ref b1), .unset, .unset] [(.long (Own.lushrW q (40 : Int32))), (.int (5 : Int32)), (.ref b1)] := Own.lushr r at_52
  replace r : A0 l Z n0 D h16 1 8 54 #[.val (.long q), .second, .val (.int sh), .val (.ref b1), .unset, .unset] [(.int (Own.lushrW q (40 : Int32)).toInt32), (.int (5 : Int32)), (.ref b1)] := Own.l2i r at_53
  replace r : A0 l Z n0 D h16 1 8 55 #[.val (.long q), .second, .val (.int sh), .val (.ref b1), .unset, .unset] [(.int (Own.i2bW (Own.lushrW q (40 : Int32)).toInt32)), (.int (5 : Int32)), (.ref b1)] := Own.i2b r at_54
  obtain ⟨w17, e_w17⟩ : ∃ z : Int32, z = (Own.i2bW (Own.lushrW q (40 : Int32)).toInt32) := ⟨_, rfl⟩
  replace r : A0 l Z n0 D h16 1 8 55 #[.val (.long q), .second, .val (.int sh), .val (.ref b1), .unset, .unset] [(.int w17), (.int (5 : Int32)), (.ref b1)] := by rw [e_w17]; exact r
  obtain ⟨h19, ⟨W18, V_b1⟩, r⟩ := Own.bastore r at_55 V_b1 (by decide) (Nat.le_of_ble_eq_true rfl) ge_b1
  replace r : A0 l Z n0 D h19 1 8 56 #[.val (.long q), .second, .val (.int sh), .val (.ref b1), .unset, .unset] [] := r
  replace Zs := Nat.le_trans Zs (Nat.le_of_eq W18.size.symm)
  replace V_b1 : Own.VA Z h19 b1 .byte [(.int (nar .byte w2)), (.int (nar .byte w5)), (.int (nar .byte w8)), (.int (nar .byte w11)), (.int (nar .byte w14)), (.int (nar .byte w17)), (.int (0 : Int32)), (.int (0 : Int32))] := V_b1
  replace r : A0 l Z n0 D h19 1 8 57 #[.val (.long q), .second, .val (.int sh), .val (.ref b1), .unset, .unset] [(.ref b1)] := Own.aloadN r at_56 rfl rfl
  replace r : A0 l Z n0 D h19 1 8 59 #[.val (.long q), .second, .val (.int sh), .val (.ref b1), .unset, .unset] [(.int (6 : Int32)), (.ref b1)] := Own.bipush r at_57 rfl
  replace r : A0 l Z n0 D h19 1 8 60 #[.val (.long q), .second, .val (.int sh), .val (.ref b1), .unset, .unset] [(.long q), (.int (6 : Int32)), (.ref b1)] := Own.lloadN r at_59 rfl
  replace r : A0 l Z n0 D h19 1 8 62 #[.val (.long q), .second, .val (.int sh), .val (.ref b1), .unset, .unset] [(.int (48 : Int32)), (.long q), (.int (6 : Int32)), (.ref b1)] := Own.bipush r at_60 rfl
  replace r : A0 l Z n0 D h19 1 8 63 #[.val (.long q), .second, .val (.int sh), .val (.ref b1), .unset, .unset] [(.long (Own.lushrW q (48 : Int32))), (.int (6 : Int32)), (.ref b1)] := Own.lushr r at_62
  replace r : A0 l Z n0 D h19 1 8 64 #[.val (.long q), .second, .val (.int sh), .val (.ref b1), .unset, .unset] [(.int (Own.lushrW q (48 : Int32)).toInt32), (.int (6 : Int32)), (.ref b1)] := Own.l2i r at_63
  replace r : A0 l Z n0 D h19 1 8 65 #[.val (.long q), .second, .val (.int sh), .val (.ref b1), .unset, .unset] [(.int (Own.i2bW (Own.lushrW q (48 : Int32)).toInt32)), (.int (6 : Int32)), (.ref b1)] := Own.i2b r at_64
  obtain ⟨w20, e_w20⟩ : ∃ z : Int32, z = (Own.i2bW (Own.lushrW q (48 : Int32)).toInt32) := ⟨_, rfl⟩
  replace r : A0 l Z n0 D h19 1 8 65 #[.val (.long q), .second, .val (.int sh), .val (.ref b1), .unset, .unset] [(.int w20), (.int (6 : Int32)), (.ref b1)] := by rw [e_w20]; exact r
  obtain ⟨h22, ⟨W21, V_b1⟩, r⟩ := Own.bastore r at_65 V_b1 (by decide) (Nat.le_of_ble_eq_true rfl) ge_b1
  replace r : A0 l Z n0 D h22 1 8 66 #[.val (.long q), .second, .val (.int sh), .val (.ref b1), .unset, .unset] [] := r
  replace Zs := Nat.le_trans Zs (Nat.le_of_eq W21.size.symm)
  replace V_b1 : Own.VA Z h22 b1 .byte [(.int (nar .byte w2)), (.int (nar .byte w5)), (.int (nar .byte w8)), (.int (nar .byte w11)), (.int (nar .byte w14)), (.int (nar .byte w17)), (.int (nar .byte w20)), (.int (0 : Int32))] := V_b1
  replace r : A0 l Z n0 D h22 1 8 67 #[.val (.long q), .second, .val (.int sh), .val (.ref b1), .unset, .unset] [(.ref b1)] := Own.aloadN r at_66 rfl rfl
  replace r : A0 l Z n0 D h22 1 8 69 #[.val (.long q), .second, .val (.int sh), .val (.ref b1), .unset, .unset] [(.int (7 : Int32)), (.ref b1)] := Own.bipush r at_67 rfl
  replace r : A0 l Z n0 D h22 1 8 70 #[.val (.long q), .second, .val (.int sh), .val (.ref b1), .unset, .unset] [(.long q), (.int (7 : Int32)), (.ref b1)] := Own.lloadN r at_69 rfl
  replace r : A0 l Z n0 D h22 1 8 72 #[.val (.long q), .second, .val (.int sh), .val (.ref b1), .unset, .unset] [(.int (56 : Int32)), (.long q), (.int (7 : Int32)), (.ref b1)] := Own.bipush r at_70 rfl
  replace r : A0 l Z n0 D h22 1 8 73 #[.val (.long q), .second, .val (.int sh), .val (.ref b1), .unset, .unset] [(.long (Own.lushrW q (56 : Int32))), (.int (7 : Int32)), (.ref b1)] := Own.lushr r at_72
  replace r : A0 l Z n0 D h22 1 8 74 #[.val (.long q), .second, .val (.int sh), .val (.ref b1), .unset, .unset] [(.int (Own.lushrW q (56 : Int32)).toInt32), (.int (7 : Int32)), (.ref b1)] := Own.l2i r at_73
  replace r : A0 l Z n0 D h22 1 8 75 #[.val (.long q), .second, .val (.int sh), .val (.ref b1), .unset, .unset] [(.int (Own.i2bW (Own.lushrW q (56 : Int32)).toInt32)), (.int (7 : Int32)), (.ref b1)] := Own.i2b r at_74
  obtain ⟨w23, e_w23⟩ : ∃ z : Int32, z = (Own.i2bW (Own.lushrW q (56 : Int32)).toInt32) := ⟨_, rfl⟩
  replace r : A0 l Z n0 D h22 1 8 75 #[.val (.long q), .second, .val (.int sh), .val (.ref b1), .unset, .unset] [(.int w23), (.int (7 : Int32)), (.ref b1)] := by rw [e_w23]; exact r
  obtain ⟨h25, ⟨W24, V_b1⟩, r⟩ := Own.bastore r at_75 V_b1 (by decide) (Nat.le_of_ble_eq_true rfl) ge_b1
  replace r : A0 l Z n0 D h25 1 8 76 #[.val (.long q), .second, .val (.int sh), .val (.ref b1), .unset, .unset] [] := r
  replace Zs := Nat.le_trans Zs (Nat.le_of_eq W24.size.symm)
  replace V_b1 : Own.VA Z h25 b1 .byte [(.int (nar .byte w2)), (.int (nar .byte w5)), (.int (nar .byte w8)), (.int (nar .byte w11)), (.int (nar .byte w14)), (.int (nar .byte w17)), (.int (nar .byte w20)), (.int (nar .byte w23))] := V_b1
  replace r : A0 l Z n0 D h25 1 8 77 #[.val (.long q), .second, .val (.int sh), .val (.ref b1), .unset, .unset] [(.int sh)] := Own.iloadN r at_76 rfl
  replace r : A0 l Z n0 D h25 1 8 79 #[.val (.long q), .second, .val (.int sh), .val (.ref b1), .unset, .unset] [(.int (7 : Int32)), (.int sh)] := Own.bipush r at_77 rfl
  replace r : A0 l Z n0 D h25 1 8 80 #[.val (.long q), .second, .val (.int sh), .val (.ref b1), .unset, .unset] [(.int (sh &&& (7 : Int32)))] := Own.iand r at_79
  obtain ⟨v4_26, e_v4_26⟩ : ∃ z : Int32, z = (sh &&& (7 : Int32)) := ⟨_, rfl⟩
  replace r : A0 l Z n0 D h25 1 8 80 #[.val (.long q), .second, .val (.int sh), .val (.ref b1), .unset, .unset] [(.int v4_26)] := by rw [e_v4_26]; exact r
  replace r : A0 l Z n0 D h25 1 8 82 #[.val (.long q), .second, .val (.int sh), .val (.ref b1), .val (.int v4_26), .unset] [] := Own.istore r at_80 rfl
  replace r : A0 l Z n0 D h25 1 8 83 #[.val (.long q), .second, .val (.int sh), .val (.ref b1), .val (.int v4_26), .unset] [(.ref b1)] := Own.aloadN r at_82 rfl rfl
  replace r : A0 l Z n0 D h25 1 8 85 #[.val (.long q), .second, .val (.int sh), .val (.ref b1), .val (.int v4_26), .unset] [(.int v4_26), (.ref b1)] := Own.iload r at_83 rfl
  obtain ⟨rv27, h28, hQ29, r⟩ := Own.callS [(.ref b1), (.int v4_26)] r at_85 (c1 l Z a0 hw n0 h25 Zs b1 v4_26 [(nar .byte w2), (nar .byte w5), (nar .byte w8), (nar .byte w11), (nar .byte w14), (nar .byte w17), (nar .byte w20), (nar .byte w23)] V_b1 rfl (own_at e_v4_26).1 (own_at e_v4_26).2) (hw _ (List.mem_of_getElem? (i := 1) rfl)) (hw _ (List.mem_of_getElem? (i := 2) rfl)) (hw _ (List.mem_of_getElem? (i := 3) rfl)) (hw _ (List.mem_of_getElem? (i := 4) rfl)) (lenOf pd_0_0 rfl) rfl rfl (W := 0) (Nat.le_of_eq rfl) rfl (by decide) (by decide) (by decide) (by decide) (by decide)
  obtain ⟨rfl, y30, rfl, e_y30⟩ := hQ29
  replace r : A0 l Z n0 D h25 1 8 88 #[.val (.long q), .second, .val (.int sh), .val (.ref b1), .val (.int v4_26), .unset] [(.int y30)] := r
  replace r : A0 l Z n0 D h25 1 8 90 #[.val (.long q), .second, .val (.int sh), .val (.ref b1), .val (.int v4_26), .val (.int y30)] [] := Own.istore r at_88 rfl
  replace r : A0 l Z n0 D h25 1 8 91 #[.val (.long q), .second, .val (.int sh), .val (.ref b1), .val (.int v4_26), .val (.int y30)] [(.ref b1)] := Own.aloadN r at_90 rfl rfl
  replace r : A0 l Z n0 D h25 1 8 93 #[.val (.long q), .second, .val (.int sh), .val (.ref b1), .val (.int v4_26), .val (.int y30)] [(.int v4_26), (.ref b1)] := Own.iload r at_91 rfl
  obtain ⟨rv31, h32, hQ33, r⟩ := Own.callS [(.ref b1), (.int v4_26)] r at_93 (c2 l Z a0 hw n0 h25 Zs b1 v4_26 [(nar .byte w2), (nar .byte w5), (nar .byte w8), (nar .byte w11), (nar .byte w14), (nar .byte w17), (nar .byte w20), (nar .byte w23)] V_b1 rfl (own_at e_v4_26).1 (own_at e_v4_26).2) (hw _ (List.mem_of_getElem? (i := 5) rfl)) (hw _ (List.mem_of_getElem? (i := 6) rfl)) (hw _ (List.mem_of_getElem? (i := 7) rfl)) (hw _ (List.mem_of_getElem? (i := 8) rfl)) (lenOf pd_0_0 rfl) rfl rfl (W := 0) (Nat.le_of_eq rfl) rfl (by decide) (by decide) (by decide) (by decide) (by decide)
  obtain ⟨rfl, y34, rfl, e_y34⟩ := hQ33
  replace r : A0 l Z n0 D h25 1 8 96 #[.val (.long q), .second, .val (.int sh), .val (.ref b1), .val (.int v4_26), .val (.int y30)] [(.int y34)] := r
  replace r : A0 l Z n0 D h25 1 8 98 #[.val (.long q), .second, .val (.int sh), .val (.ref b1), .val (.int v4_26), .val (.int y30)] [(.int y30), (.int y34)] := Own.iload r at_96 rfl
  replace r : A0 l Z n0 D h25 1 8 101 #[.val (.long q), .second, .val (.int sh), .val (.ref b1), .val (.int v4_26), .val (.int y30)] [] := Own.icmpNo r at_98 (teq (own_law (own_at e_v4_26).1 (own_at e_v4_26).2 e_y30 e_y34)).2
  replace r : A0 l Z n0 D h25 1 8 102 #[.val (.long q), .second, .val (.int sh), .val (.ref b1), .val (.int v4_26), .val (.int y30)] [(.int (1 : Int32))] := Own.iconst r at_101 rfl
  replace r : A0 l Z n0 D h25 1 8 106 #[.val (.long q), .second, .val (.int sh), .val (.ref b1), .val (.int v4_26), .val (.int y30)] [(.int (1 : Int32))] := Own.goto r at_102 (by decide) (by decide)
  exact ⟨_, _, (Own.Rch.retZ (y := x) (bytes := code) (mx := maxLocals) r at_106 (by decide)).more (by decide) (by decide), rfl⟩
set_option maxRecDepth 65536 in
set_option maxHeartbeats 40000000 in
theorem comes_1 {Post : Tables → Env → Array Value → State → Outcome → State → Prop} (hpost : ∀ tb e args s v u, (limb_1_1.after args s (.returned v) u = true ∧ limb_1_2.after args s (.returned v) u = true ∧ True) → FrameEnd s (.returned v) u (Jvm.fieldLocs frame_1_writes args s ++ Jvm.arrayLocs frame_1_arrays args s ++ Jvm.staticLocs frame_1_statics s) 16 128 → Post tb e args s (.returned v) u) :
    ArmFor flags0 classFile x code maxLocals ret World_1 tables_1 room_1 Calls_1 rest_1 Pre_1 Post := by
  intro l hfl _ _ p e ha hc hk s m args below hf hA hF happ hP
  obtain ⟨hcalls, hrest, hpre⟩ := hP
  obtain ⟨-, -, -, hnamed, -, -, -, hat⟩ := (Spec.applies_iff hf).mp happ
  obtain ⟨hg, hn⟩ := and_e (Cond.before_iff.mp (show (Jvm.Cond.and given_1 narrow_1).before args s = true from hpre))
  obtain ⟨g1, g2⟩ := and_e hg
  obtain ⟨g3, g4⟩ := and_e g2
  obtain ⟨w0, w1, rfl⟩ : ∃ w0 w1 : Value, args = #[w0, w1] := by
    have hs : args.size = 2 := by simpa [Cond.value, given_1] using g1
    obtain ⟨L⟩ := args
    match L, hs with
    | [w0, w1], _ => exact ⟨w0, w1, rfl⟩
  have hw := fun d (hd : d ∈ tables_1) => atoms_spec (ws := Jvm.Cond.code x code maxLocals ret :: tables_1) hat d (List.mem_cons_of_mem _ hd)
  have hfit : Fit s := fun {y c} hc i hi => by
    obtain ⟨ha, rfl⟩ := Array.getElem?_eq_some_iff.mp hc
    have q := List.all_eq_true.mp ((Array.all_eq_true_iff_forall_mem.mp hF) _ (Array.getElem_mem ha)) i (List.mem_range.mpr hi)
    simpa [Array.getElem?_eq_getElem hi] using q
  obtain ⟨i0, ei0⟩ := isL_v g3
  obtain rfl : w0 = (.long i0) := Option.some.inj ei0
  obtain ⟨i1, ei1⟩ := is_v g4
  obtain rfl : w1 = (.int i1) := Option.some.inj ei1
  obtain ⟨n, o, h1, h2, h3, _, L, rfl, ⟨N, rfl⟩, hq⟩ := (c0 l s _ hw s.heap.size s.heap (Nat.le_refl _) i0 i1) tables_1 p e ha hc hk s m _ below hf ((Spec.applies_iff_loose hf).mp happ).1 ⟨rfl, State.Warmed39.refl s, rfl⟩ trivial
  refine ⟨n, _, h1, h2, h3, hpost _ _ _ _ _ _ ⟨Cond.after_iff.mpr rfl, Cond.after_iff.mpr (eq_i res_at (Term.int_eval (1)) rfl), trivial⟩ ⟨hq.1, hq.2.1, (hq.2.2.sift fun y hy => Or.inr (N y hy)).mono (by decide) (by decide)⟩⟩
theorem main_1_1 : Claimed_1_1 := comes_1 fun _ _ _ _ _ _ h hF => ⟨h.1, hF⟩
theorem main_1_2 : Claimed_1_2 := comes_1 fun _ _ _ _ _ _ h hF => ⟨h.2.1, hF⟩
end Jvm.Pilot.@@N@@
namespace Jvm.Pilot.@@N@@
open Jvm Jvm.ClassFile Sem Op Lib Jvm.Free Jvm.Stand Jvm.Pilot.@@N@@.Jvm.D
/-! MADE BY PROGRAM (witnessworld.py) out of the Statement's table words and the real class files: 9 classes; the members and pool entries that the words name. The judged class is class 1, her method 1. -/
namespace start1
open Jvm.ClassFile
def u (s : String) : CpInfo := .utf8 (stringToUtf16 s)
/-- a pool by its gaps: so many unusable entries, then the entry; so many at the end -/
def gap : Nat → List CpInfo → List CpInfo
  | 0, r => r
  | n + 1, r => .unusable :: gap n r
def poolList (es : List (Nat × CpInfo)) (last : Nat) : List CpInfo := es.foldr (fun e r => gap e.1 (e.2 :: r)) (gap last [])
def pool (es : List (Nat × CpInfo)) (last : Nat) : Array CpInfo := ⟨poolList es last⟩
def fileOf (pool : Array CpInfo) (this : Nat) (attrs : Array Attribute := #[]) (ms : Array MethodInfo := #[]) (fl : Nat := 33) (sup : Nat := 0) (ifs : Array Nat := #[]) (fds : Array FieldInfo := #[]) : ClassFile where
  minorVersion := 0
  majorVersion := 65
  constantPool := pool
  accessFlags := fl
  thisClass := this
  superClass := sup
  interfaces := ifs
  fields := fds
  methods := ms
  attributes := attrs
def plain (name : String) (sup : Option ClassId) : Class where
  name := name
  kind := .ordinary
  loader := none
  accessFlags := 33
  super := sup
  interfaces := #[]
  cf := none
  fields := #[]
  methods := #[]
  instanceTypes := #[]
  staticTypes := #[]
  resolved := #[]
  callSites := []
  init := .initialized
  statics := none
  mirror := none

def pool0 : Array CpInfo := pool [(5, u "<init>"), (0, u "()V"), (1, .class_ 10), (1, u "java/lang/Object")] 113

def k0m0 : Method := { name := "<init>", desc := "()V", sig := { parameters := [], returnType := none }, accessFlags := 1, code := none }
/-- java/lang/Object -/
def k0 : Class := { plain "java/lang/Object" none with
  accessFlags := 33
  interfaces := #[]
  cf := some (fileOf pool0 8 #[] #[{ accessFlags := 1, nameIndex := 5, descriptorIndex := 6, attributes := #[] }] 33 0 #[] #[])
  fields := #[]
  methods := #[k0m0]
  instanceTypes := #[]
  staticTypes := #[]
  resolved := Array.replicate 124 none
  statics := none }

def pool1 : Array CpInfo := pool [(2, .class_ 4), (1, u "java/lang/Object"), (0, u "<init>"), (0, u "()V"), (0, .methodref 8 9), (0, .class_ 10), (0, .nameAndType 11 12), (0, u "needlework/cli/ScanSequenceLengthPinLaw"), (0, u "expected"), (0, u "([BI)I"), (0, .methodref 14 15), (0, .class_ 16), (0, .nameAndType 17 12), (0, u "needlework/cli/Scan"), (0, u "sequenceLength"), (0, .integer 65536), (0, .integer 55296), (0, .integer 57343), (0, .integer 1114111), (2, u "law"), (0, u "(JI)Z")] 5

def k1m0 : Method := { name := "<init>", desc := "()V", sig := { parameters := [], returnType := none }, accessFlags := 2, code := none }
def k1c1 : Code := { maxStack := 5, maxLocals := 6, code := code, exceptionTable := #[], attributes := #[] }
def k1m1 : Method := { name := "law", desc := "(JI)Z", sig := { parameters := [.long, .int], returnType := some .boolean }, accessFlags := 9, code := some k1c1 }
def k1c2 : Code := { maxStack := 3, maxLocals := 8, code := method_3_code, exceptionTable := #[], attributes := #[] }
def k1m2 : Method := { name := "expected", desc := "([BI)I", sig := { parameters := [(.array .byte), .int], returnType := some .int }, accessFlags := 10, code := some k1c2 }
/-- needlework/cli/ScanSequenceLengthPinLaw -/
def k1 : Class := { plain "needlework/cli/ScanSequenceLengthPinLaw" (some 0) with
  accessFlags := 49
  interfaces := #[]
  cf := some (fileOf pool1 8 #[] #[{ accessFlags := 2, nameIndex := 5, descriptorIndex := 6, attributes := #[] }, { accessFlags := 9, nameIndex := 24, descriptorIndex := 25, attributes := #[] }, { accessFlags := 10, nameIndex := 11, descriptorIndex := 12, attributes := #[] }] 49 2 #[] #[])
  fields := #[]
  methods := #[k1m0, k1m1, k1m2]
  instanceTypes := #[]
  staticTypes := #[]
  resolved := Array.replicate 31 none
  statics := none }

def pool2 : Array CpInfo := pool [(2, .class_ 4), (1, u "java/lang/Object"), (0, u "<init>"), (0, u "()V"), (1, .class_ 10), (1, u "needlework/cli/Scan"), (3, .class_ 16), (1, u "needlework/cli/Scan$Request"), (7, .class_ 26), (1, u "needlework/cli/Scan$Keywords"), (101, u "sequenceLength"), (0, u "([BI)I"), (21, .class_ 152), (0, u "needlework/cli/Scan$Lines")] 88

def k2m0 : Method := { name := "<init>", desc := "()V", sig := { parameters := [], returnType := none }, accessFlags := 2, code := none }
def k2c1 : Code := { maxStack := 3, maxLocals := 8, code := prog_43_method_6_code, exceptionTable := #[], attributes := #[] }
def k2m1 : Method := { name := "sequenceLength", desc := "([BI)I", sig := { parameters := [(.array .byte), .int], returnType := some .int }, accessFlags := 8, code := some k2c1 }
/-- needlework/cli/Scan -/
def k2 : Class := { plain "needlework/cli/Scan" (some 0) with
  accessFlags := 48
  interfaces := #[]
  cf := some (fileOf pool2 8 #[.nestMembers #[151, 24, 14]] #[{ accessFlags := 2, nameIndex := 5, descriptorIndex := 6, attributes := #[] }, { accessFlags := 8, nameIndex := 128, descriptorIndex := 129, attributes := #[] }] 48 2 #[] #[])
  fields := #[]
  methods := #[k2m0, k2m1]
  instanceTypes := #[]
  staticTypes := #[]
  resolved := Array.replicate 241 none
  statics := none }

def pool3 : Array CpInfo := pool [(1, u "java/lang/Cloneable"), (0, .class_ 1), (0, u "java/lang/Object"), (0, .class_ 3)] 3

/-- java/lang/Cloneable -/
def k3 : Class := { plain "java/lang/Cloneable" (some 0) with
  accessFlags := 1537
  interfaces := #[]
  cf := some (fileOf pool3 2 #[] #[] 1537 4 #[] #[])
  fields := #[]
  methods := #[]
  instanceTypes := #[]
  staticTypes := #[]
  resolved := Array.replicate 8 none
  statics := none }

def pool4 : Array CpInfo := pool [(1, u "java/io/Serializable"), (0, .class_ 1), (0, u "java/lang/Object"), (0, .class_ 3)] 3

/-- java/io/Serializable -/
def k4 : Class := { plain "java/io/Serializable" (some 0) with
  accessFlags := 1537
  interfaces := #[]
  cf := some (fileOf pool4 2 #[] #[] 1537 4 #[] #[])
  fields := #[]
  methods := #[]
  instanceTypes := #[]
  staticTypes := #[]
  resolved := Array.replicate 8 none
  statics := none }

/-- the primitive byte -/
def k5 : Class := { plain "byte" none with kind := .primitive 'B', accessFlags := 0x411 }
/-- [B -/
def k6 : Class := { plain "[B" (some 0) with kind := .array 5 .byte, interfaces := #[3, 4], accessFlags := 1041 }

/-- the primitive int -/
def k7 : Class := { plain "int" none with kind := .primitive 'I', accessFlags := 0x411 }
/-- [I -/
def k8 : Class := { plain "[I" (some 0) with kind := .array 7 .int, interfaces := #[3, 4], accessFlags := 1041 }

def heap : Heap := #[]
def classes : Array Class := #[k0, k1, k2, k3, k4, k5, k6, k7, k8]
def interned : List (Array UInt16 × Addr) := []
def slotsUsed : Nat := 0
def theMethod : MethodId := ⟨1, 1⟩
def args0 : Array Value := #[.long 5, .int 3]
def aboutOver (below : List Frame) : State where
  vm := { classes := classes, interned := interned.toArray }
  heap := heap
  slotsUsed := slotsUsed
  threads := #[{ frames := .invoking theMethod args0 :: below }]
def below0 : List Frame := [.native { method := ⟨0, 0⟩, args := #[] }]
def about1 : State := aboutOver below0
def p0 : Program := .bare "" "" ""
def e0 : Env := launch0.env 0 0 0
theorem w_frames : about1.frames = Frame.invoking theMethod args0 :: below0 := rfl
set_option maxRecDepth 65536 in
theorem w_args : argsFit about1.vm theMethod args0 = true := by decide +kernel
set_option maxRecDepth 65536 in
theorem w_heap : heapFits about1 = true := by decide +kernel
set_option maxRecDepth 65536 in
theorem w_runnable : about1.curStatus? = some .runnable := by decide +kernel
set_option maxRecDepth 65536 in
theorem w_alone : about1.alone = true := by decide +kernel
set_option maxRecDepth 65536 in
theorem w_named : about1.methodNamed? x = some theMethod := by decide +kernel
set_option maxRecDepth 65536 in
theorem w_hears : about1.hears theMethod below0 = true := by decide +kernel
set_option maxRecDepth 65536 in
theorem w_ripe : about1.ripe theMethod args0 below0 = true := by decide +kernel
theorem w_running : about1.status = .running := rfl
set_option maxRecDepth 65536 in
theorem w_room : about1.hasRoom e0.platform room_1 = true :=
  launch0.hasRoom_least _ room_1 (by decide +kernel) (by decide +kernel) (by decide +kernel) (by decide +kernel) (by decide +kernel) (by decide +kernel)
theorem allAtoms_all (ts : List Jvm.Cond) (a : Array Jvm.Value) (st : Jvm.State) : (allAtoms ts).before a st = ts.all (fun c => c.before a st) := by
  induction ts with
  | nil => rfl
  | cons c t ih =>
    show (Jvm.Cond.and c (allAtoms t)).before a st = _
    rw [Jvm.Cond.before_and, ih, List.all_cons]
def words1 : List Jvm.Cond := Jvm.Cond.code x code maxLocals ret :: tables_1
/-- a 'code' word, met by the world's own term for the bytes: nothing is compared byte by byte -/
theorem code_word {y : MethodName} {bytes : ByteArray} {mx : Nat} {rt : Option FieldType} {a : Array Value} {s : State} {m : MethodId} {meth : Method} {c : Code} (h1 : s.methodNamed? y = some m) (h2 : s.vm.method? m = some meth) (h3 : meth.code = some c) (h4 : c.code = bytes)
    (h5 : (c.maxLocals == mx && c.exceptionTable.isEmpty && decide (c.maxStack ≤ mostOperands) && decide (meth.sig.returnType = rt) && !meth.locks && decide (parseMethodDescriptor y.desc = some meth.sig)) = true) : (Jvm.Cond.code y bytes mx rt).before a s = true := by
  simp only [Bool.and_eq_true, beq_iff_eq, Bool.not_eq_true', decide_eq_true_eq] at h5
  obtain ⟨⟨⟨⟨⟨g1, g2⟩, g3⟩, g4⟩, g5⟩, g6⟩ := h5
  simp [Cond.before, Cond.holds, Cond.value, h1, h2, h3, h4, g1, g2, g3, g4, g5, g6]
def isCode : Jvm.Cond → Bool
  | .code _ _ _ _ => true
  | _ => false
theorem all_split {L : List Jvm.Cond} {P : Jvm.Cond → Bool} (h1 : L.all (fun c => isCode c || P c) = true) (h2 : ∀ c ∈ L.filter isCode, P c = true) : L.all P = true := by
  refine List.all_eq_true.mpr fun c hc => ?_
  have h := List.all_eq_true.mp h1 c hc
  rcases Bool.eq_false_or_eq_true (isCode c) with hi | hi
  · exact h2 c (List.mem_filter.mpr ⟨hc, hi⟩)
  · simpa [hi] using h
set_option maxRecDepth 65536 in
theorem w_c0 : (Jvm.Cond.code x code maxLocals ret).before args0 about1 = true := code_word (m := ⟨1, 1⟩) (meth := k1m1) (c := k1c1) (by decide +kernel) rfl rfl rfl (by decide +kernel)
set_option maxRecDepth 65536 in
theorem w_c1 : (Jvm.Cond.code ({ cls := "needlework/cli/ScanSequenceLengthPinLaw", name := "expected", desc := "([BI)I" } : Jvm.MethodName) method_3_code (8 : Nat) (Option.some Jvm.ClassFile.FieldType.int)).before args0 about1 = true := code_word (m := ⟨1, 2⟩) (meth := k1m2) (c := k1c2) (by decide +kernel) rfl rfl rfl (by decide +kernel)
set_option maxRecDepth 65536 in
theorem w_c2 : (Jvm.Cond.code ({ cls := "needlework/cli/Scan", name := "sequenceLength", desc := "([BI)I" } : Jvm.MethodName) prog_43_method_6_code (8 : Nat) (Option.some Jvm.ClassFile.FieldType.int)).before args0 about1 = true := code_word (m := ⟨2, 1⟩) (meth := k2m1) (c := k2c1) (by decide +kernel) rfl rfl rfl (by decide +kernel)
def codes1 : List Jvm.Cond := [Jvm.Cond.code x code maxLocals ret, Jvm.Cond.code ({ cls := "needlework/cli/ScanSequenceLengthPinLaw", name := "expected", desc := "([BI)I" } : Jvm.MethodName) method_3_code (8 : Nat) (Option.some Jvm.ClassFile.FieldType.int), Jvm.Cond.code ({ cls := "needlework/cli/Scan", name := "sequenceLength", desc := "([BI)I" } : Jvm.MethodName) prog_43_method_6_code (8 : Nat) (Option.some Jvm.ClassFile.FieldType.int)]
set_option maxRecDepth 65536 in
theorem codes_eq : words1.filter isCode = codes1 := rfl
theorem w_codes : ∀ c ∈ words1.filter isCode, c.before args0 about1 = true := by
  rw [codes_eq]
  intro c hc
  simp only [codes1, List.mem_cons, List.not_mem_nil, or_false] at hc
  rcases hc with rfl | rfl | rfl
  · exact w_c0
  · exact w_c1
  · exact w_c2
set_option maxRecDepth 65536 in
theorem w_t1 : words1.all (fun c => isCode c || c.before args0 about1) = true := by decide +kernel
theorem w_tables : (allAtoms (Jvm.Cond.code x code maxLocals ret :: tables_1)).before args0 about1 = true := by
  rw [allAtoms_all]
  show words1.all (fun c => c.before args0 about1) = true
  refine all_split ?_ w_codes
  rw [w_t1]
set_option maxRecDepth 65536 in
theorem w_case : (Jvm.Cond.and given_1 narrow_1).before args0 about1 = true := by decide +kernel
theorem w_applies : (headSpec (Jvm.Cond.code x code maxLocals ret :: tables_1) room_1).applies x e0.platform about1 = true :=
  (Spec.applies_iff w_frames).mpr ⟨w_running, w_runnable, w_alone, w_named, w_hears, w_ripe, w_room, w_tables⟩
theorem atStart : AtStart classFile x code maxLocals ret World_1 tables_1 room_1 Calls_1 rest_1 Pre_1 launch0 p0 e0 about1 theMethod args0 below0 :=
  ⟨lists_1, trivial, launch0.admits_env _ _ _, launch0.least_env, fairChoices_fair.cas, fairChoices_fair.clock, w_frames, w_args, w_heap, w_applies, trivial, trivial, w_case⟩
end start1
theorem witness_1 : WitnessClaimed_1 := ⟨start1.p0, start1.e0, start1.about1, start1.theMethod, start1.args0, start1.below0, start1.atStart⟩
end Jvm.Pilot.@@N@@
