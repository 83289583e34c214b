import JvmDerived
import JvmDerived.Pilot.@@N@@Statement
import JvmDerived.Pilot.@@N@@Code
set_option linter.unusedVariables false
set_option linter.unusedSimpArgs false
namespace Jvm.RoadKit
open Sem ClassFile Op Lib Jvm.Stand Jvm.Free Jvm.LawKit
section OwnGo
variable {p : Program} {l : Launch} {e : Env} {R : Room} {s : State} {m : MethodId} {args : Array Value} {below : List Frame} {meth : Method} {c : Code} {T : State} {locs : List Loc} {cells slots : Nat} {Z : State} {a0 : Array Value} {h : Heap} {Q : Option Value → Heap → List Loc → Prop} {P : Option Value → State → Prop} {K N : Nat} {by_ : ByteArray} {pc pc' : Nat} {Ls : Array Slot} {rest : List Value}
/-- from S the run comes to its end, and P says what it leaves -/
def Go (p : Program) (e : Env) (below : List Frame) (P : Option Value → State → Prop) (S : State) : Prop :=
  ∃ U v, Steps p.tables e below S U ∧ U.status = .running ∧ Ended U below (.returned v) ∧ P v U
/-- an end within a frame: the narrow one, and the wide one (String constants may have been interned) -/
def Nr (s : State) (Q : Option Value → Heap → List Loc → Prop) (K N : Nat) (v : Option Value) (U : State) : Prop := ∃ L, Q v U.heap L ∧ FrameEnd s (.returned v) U L K N
def Wd (s : State) (Q : Option Value → Heap → List Loc → Prop) (K N : Nat) (v : Option Value) (U : State) : Prop := ∃ L, Q v U.heap L ∧ ReturnedEndW s (.returned v) U L K N
theorem Go.st {A B : State} (f : ∀ t, Steps p.tables e below A t → Steps p.tables e below B t) (k : Go p e below P A) : Go p e below P B := by
  obtain ⟨U, v, h1, h2⟩ := k
  exact ⟨U, v, f _ h1, h2⟩
theorem Go.via {A B : State} (f : Steps p.tables e below B A) (k : Go p e below P A) : Go p e below P B := by
  obtain ⟨U, v, h1, h2⟩ := k
  exact ⟨U, v, f.trans h1, h2⟩
/-- the contract of a body -/
abbrev Con (l : Launch) (Z : State) (y : MethodName) (bytes : ByteArray) (maxL : Nat) (ret : Option FieldType) (ws : List Jvm.Cond) (rm : Room) (as : Array Value) (h : Heap) (Q : Option Value → Heap → List Loc → Prop) : Prop :=
  MetFree l y (head1 (Jvm.Cond.code y bytes maxL ret :: ws) rm) (fun a U => a = as ∧ Z.Warmed39 U.vm ∧ U.heap = h) (fun _ _ _ _ _ => True) (fun _ U o U' => ∃ v L, o = .returned v ∧ Q v U'.heap L ∧ FrameEnd U o U' L rm.cells rm.slots)
theorem Con.of {y : MethodName} {bytes : ByteArray} {maxL : Nat} {ret : Option FieldType} {ws : List Jvm.Cond} {rm : Room} {as : Array Value} (hpn : plainFor y = true)
    (body : ∀ (p : Program) (e : Env) (s : State) (m : MethodId) (below : List Frame) (meth : Method) (c : Code) (s₁ : State), p.tables.exec = Jvm.exec → c.code = bytes → c.maxLocals = maxL → s.vm.findClass y.cls = some m.cls → meth.name = y.name → meth.sig.returnType = ret → meth.locks = false → Z.Warmed39 s.vm →
      Stand p l e rm s m as below meth c s₁ [] 0 0 → s₁.heap = h → Go p e below (Nr s Q rm.cells rm.slots) (s₁.setTop (entryFrame m as maxL))) : Con l Z y bytes maxL ret ws rm as h Q := by
  refine MetFree.of_bodySF hpn hisR ?_
  intro p e s m args below meth c s₁ Bd hml0 hP hK
  obtain ⟨rfl, hZ, hh⟩ := hP
  have hown := findClass_of_methodNamed Bd.named
  have hnm := (name_of_methodNamed Bd.named Bd.method).1
  have X0 := Stand.of_body Bd
  have e0 : s₁.heap = h := by rw [← hh, Bd.state]; rfl
  obtain ⟨U, v, h1, h2, h3, L, h4, h5⟩ := body p e s m below meth c s₁ Bd.exec Bd.bytes hml0 hown hnm Bd.returns Bd.notSynchronized hZ X0 e0
  exact ⟨U, _, h1, h2, h3, v, L, rfl, h4, h5⟩
theorem Go.cast {g g' : JFrame} (q : g = g') (k : Go p e below P (T.setTop g')) : Go p e below P (T.setTop g) := q ▸ k
/-- a body that only reads numbers: what it returns, and nothing moved -/
def PQ (w : Option Value) (h0 : Heap) (v : Option Value) (h : Heap) (L : List Loc) : Prop := v = w ∧ L = [] ∧ h = h0
theorem Go.end_ {w : Option Value} {A : State} (X : Stand p l e R s m args below meth c T locs cells slots) (hlk : meth.locks = false) (hr0 : meth.sig.returnType = none → w = none) (f : ∀ fs, (∀ (f : JFrame) (acts : List Action), f.method = m → f.locked = none → f.entered = [] → (doReturn e (T.setTop f) acts w).1 = T.setFrames fs) → Steps p.tables e below A (T.setFrames fs))
    (hc : cells ≤ K) (hn : slots ≤ N) (q : Q w T.heap locs) : Go p e below (Nr s Q K N) A := by
  obtain ⟨fs, hr, hrun, hended, hW, hsame⟩ := X.leave (v := w) hr0 hlk
  exact ⟨_, _, f fs hr, hrun, hended, locs, q, ⟨_, rfl⟩, hW, hsame.mono hc hn⟩
theorem Go.ret0 (X : Stand p l e R s m args below meth c T locs cells slots) (hx : p.tables.exec = Jvm.exec) (hby : c.code = by_) (hlk : meth.locks = false) (hret : meth.sig.returnType = none) (hd : decode by_ pc = .ok (.return_, 1)) (hc : cells ≤ K) (hn : slots ≤ N) (q : Q none T.heap locs) : Go p e below (Nr s Q K N) (T.setTop (mkF m pc Ls [])) :=
  Go.end_ X hlk (fun _ => rfl) (fun fs hr => X.returnOut hx hret (hb hby hd) hr) hc hn q
theorem Go.retV {w : Value} {t : FieldType} {i : Instr} (X : Stand p l e R s m args below meth c T locs cells slots) (hx : p.tables.exec = Jvm.exec) (hby : c.code = by_) (hlk : meth.locks = false) (hret : meth.sig.returnType = some t) (hnw : narrow t w = w)
    (hi : (i = .ireturn ∧ (t = .int ∨ t = .boolean ∨ t = .byte ∨ t = .char ∨ t = .short) ∧ ∃ z, w = .int z) ∨ (i = .lreturn ∧ t = .long ∧ ∃ z, w = .long z) ∨ (i = .dreturn ∧ t = .double ∧ ∃ z, w = .double z) ∨ (i = .freturn ∧ t = .float ∧ ∃ z, w = .float z) ∨ (i = .areturn ∧ t.isReference = true ∧ w.isRef = true))
    (hd : decode by_ pc = .ok (i, 1)) (hc : cells ≤ K) (hn : slots ≤ N) (q : Q (some w) T.heap locs) : Go p e below (Nr s Q K N) (T.setTop (mkF m pc Ls (w :: rest))) :=
  Go.end_ X hlk (fun h => by rw [hret] at h; cases h) (fun fs hr => retOut X hx hret hnw hi (hb hby hd) hr) hc hn q
theorem Go.retI {z : Int32} (X : Stand p l e R s m args below meth c T locs cells slots) (hx : p.tables.exec = Jvm.exec) (hby : c.code = by_) (hlk : meth.locks = false) (hret : meth.sig.returnType = some .int) (hd : decode by_ pc = .ok (.ireturn, 1)) (hc : cells ≤ K) (hn : slots ≤ N) (q : Q (some (.int z)) T.heap locs) : Go p e below (Nr s Q K N) (T.setTop (mkF m pc Ls (.int z :: rest))) :=
  Go.retV X hx hby hlk hret rfl (Or.inl ⟨rfl, Or.inl rfl, z, rfl⟩) hd hc hn q
theorem Go.retZ {z : Int32} {t : FieldType} (X : Stand p l e R s m args below meth c T locs cells slots) (hx : p.tables.exec = Jvm.exec) (hby : c.code = by_) (hlk : meth.locks = false) (hret : meth.sig.returnType = some t) (ht : t = .boolean ∨ t = .byte ∨ t = .char ∨ t = .short) (hd : decode by_ pc = .ok (.ireturn, 1)) (hc : cells ≤ K) (hn : slots ≤ N) (q : Q (some (.int (nar t z))) T.heap locs) : Go p e below (Nr s Q K N) (T.setTop (mkF m pc Ls (.int z :: rest))) :=
  Go.end_ X hlk (fun h => by rw [hret] at h; cases h) (fun fs hr => retN X hx hret ht (hb hby hd) hr) hc hn q
theorem Go.retJ {z : Int64} (X : Stand p l e R s m args below meth c T locs cells slots) (hx : p.tables.exec = Jvm.exec) (hby : c.code = by_) (hlk : meth.locks = false) (hret : meth.sig.returnType = some .long) (hd : decode by_ pc = .ok (.lreturn, 1)) (hc : cells ≤ K) (hn : slots ≤ N) (q : Q (some (.long z)) T.heap locs) : Go p e below (Nr s Q K N) (T.setTop (mkF m pc Ls (.long z :: rest))) :=
  Go.retV X hx hby hlk hret rfl (Or.inr (Or.inl ⟨rfl, rfl, z, rfl⟩)) hd hc hn q
theorem Go.retA {w : Value} {t : FieldType} (X : Stand p l e R s m args below meth c T locs cells slots) (hx : p.tables.exec = Jvm.exec) (hby : c.code = by_) (hlk : meth.locks = false) (hret : meth.sig.returnType = some t) (hnw : narrow t w = w) (ht : t.isReference = true) (hw : w.isRef = true) (hd : decode by_ pc = .ok (.areturn, 1)) (hc : cells ≤ K) (hn : slots ≤ N) (q : Q (some w) T.heap locs) : Go p e below (Nr s Q K N) (T.setTop (mkF m pc Ls (w :: rest))) :=
  Go.retV X hx hby hlk hret hnw (Or.inr (Or.inr (Or.inr (Or.inr ⟨rfl, ht, hw⟩)))) hd hc hn q
def icP : ClassFile.Cond → Int32 → Int32 → Prop
  | .eq, x, y => x = y
  | .ne, x, y => x ≠ y
  | .lt, x, y => x < y
  | .ge, x, y => y ≤ x
  | .gt, x, y => y < x
  | .le, x, y => x ≤ y
theorem icP_iff (cd : ClassFile.Cond) (x y : Int32) : if_icmp.holds cd x y = true ↔ icP cd x y := by cases cd <;> simp [if_icmp.holds, icP]
theorem icP_not {cd : ClassFile.Cond} {x y : Int32} (q : ¬ icP cd x y) : if_icmp.holds cd x y = false := by
  cases hq : if_icmp.holds cd x y
  · rfl
  · exact absurd ((icP_iff cd x y).mp hq) q

theorem Go.iadd {x y : Int32} (X : Stand p l e R s m args below meth c T locs cells slots) (hx : p.tables.exec = Jvm.exec) (hby : c.code = by_) (hd : decode by_ pc = .ok (.iadd, 1)) (hp : pc + 1 = pc') (k : Go p e below P (T.setTop (mkF m pc' Ls (.int (x + y) :: rest)))) : Go p e below P (T.setTop (mkF m pc Ls (.int y :: .int x :: rest))) := by
  subst hp; exact Go.st (fun t k => XS.iadd X.here hx rfl (hb hby hd) rfl k) k
theorem Go.isub {x y : Int32} (X : Stand p l e R s m args below meth c T locs cells slots) (hx : p.tables.exec = Jvm.exec) (hby : c.code = by_) (hd : decode by_ pc = .ok (.isub, 1)) (hp : pc + 1 = pc') (k : Go p e below P (T.setTop (mkF m pc' Ls (.int (x - y) :: rest)))) : Go p e below P (T.setTop (mkF m pc Ls (.int y :: .int x :: rest))) := by
  subst hp; exact Go.st (fun t k => XS.isub X.here hx rfl (hb hby hd) rfl k) k
theorem Go.imul {x y : Int32} (X : Stand p l e R s m args below meth c T locs cells slots) (hx : p.tables.exec = Jvm.exec) (hby : c.code = by_) (hd : decode by_ pc = .ok (.imul, 1)) (hp : pc + 1 = pc') (k : Go p e below P (T.setTop (mkF m pc' Ls (.int (x * y) :: rest)))) : Go p e below P (T.setTop (mkF m pc Ls (.int y :: .int x :: rest))) := by
  subst hp; exact Go.st (fun t k => XS.imul X.here hx rfl (hb hby hd) rfl k) k
theorem Go.iand {x y : Int32} (X : Stand p l e R s m args below meth c T locs cells slots) (hx : p.tables.exec = Jvm.exec) (hby : c.code = by_) (hd : decode by_ pc = .ok (.iand, 1)) (hp : pc + 1 = pc') (k : Go p e below P (T.setTop (mkF m pc' Ls (.int (x &&& y) :: rest)))) : Go p e below P (T.setTop (mkF m pc Ls (.int y :: .int x :: rest))) := by
  subst hp; exact Go.st (fun t k => XS.iand X.here hx rfl (hb hby hd) rfl k) k
theorem Go.ior {x y : Int32} (X : Stand p l e R s m args below meth c T locs cells slots) (hx : p.tables.exec = Jvm.exec) (hby : c.code = by_) (hd : decode by_ pc = .ok (.ior, 1)) (hp : pc + 1 = pc') (k : Go p e below P (T.setTop (mkF m pc' Ls (.int (x ||| y) :: rest)))) : Go p e below P (T.setTop (mkF m pc Ls (.int y :: .int x :: rest))) := by
  subst hp; exact Go.st (fun t k => XS.ior X.here hx rfl (hb hby hd) rfl k) k
theorem Go.ixor {x y : Int32} (X : Stand p l e R s m args below meth c T locs cells slots) (hx : p.tables.exec = Jvm.exec) (hby : c.code = by_) (hd : decode by_ pc = .ok (.ixor, 1)) (hp : pc + 1 = pc') (k : Go p e below P (T.setTop (mkF m pc' Ls (.int (x ^^^ y) :: rest)))) : Go p e below P (T.setTop (mkF m pc Ls (.int y :: .int x :: rest))) := by
  subst hp; exact Go.st (fun t k => XS.ixor X.here hx rfl (hb hby hd) rfl k) k
theorem Go.ladd {x y : Int64} (X : Stand p l e R s m args below meth c T locs cells slots) (hx : p.tables.exec = Jvm.exec) (hby : c.code = by_) (hd : decode by_ pc = .ok (.ladd, 1)) (hp : pc + 1 = pc') (k : Go p e below P (T.setTop (mkF m pc' Ls (.long (x + y) :: rest)))) : Go p e below P (T.setTop (mkF m pc Ls (.long y :: .long x :: rest))) := by
  subst hp; exact Go.st (fun t k => XS.ladd X.here hx rfl (hb hby hd) rfl k) k
theorem Go.lsub {x y : Int64} (X : Stand p l e R s m args below meth c T locs cells slots) (hx : p.tables.exec = Jvm.exec) (hby : c.code = by_) (hd : decode by_ pc = .ok (.lsub, 1)) (hp : pc + 1 = pc') (k : Go p e below P (T.setTop (mkF m pc' Ls (.long (x - y) :: rest)))) : Go p e below P (T.setTop (mkF m pc Ls (.long y :: .long x :: rest))) := by
  subst hp; exact Go.st (fun t k => XS.lsub X.here hx rfl (hb hby hd) rfl k) k
theorem Go.lmul {x y : Int64} (X : Stand p l e R s m args below meth c T locs cells slots) (hx : p.tables.exec = Jvm.exec) (hby : c.code = by_) (hd : decode by_ pc = .ok (.lmul, 1)) (hp : pc + 1 = pc') (k : Go p e below P (T.setTop (mkF m pc' Ls (.long (x * y) :: rest)))) : Go p e below P (T.setTop (mkF m pc Ls (.long y :: .long x :: rest))) := by
  subst hp; exact Go.st (fun t k => XS.lmul X.here hx rfl (hb hby hd) rfl k) k
theorem Go.land {x y : Int64} (X : Stand p l e R s m args below meth c T locs cells slots) (hx : p.tables.exec = Jvm.exec) (hby : c.code = by_) (hd : decode by_ pc = .ok (.land, 1)) (hp : pc + 1 = pc') (k : Go p e below P (T.setTop (mkF m pc' Ls (.long (x &&& y) :: rest)))) : Go p e below P (T.setTop (mkF m pc Ls (.long y :: .long x :: rest))) := by
  subst hp; exact Go.st (fun t k => XS.land X.here hx rfl (hb hby hd) rfl k) k
theorem Go.lor {x y : Int64} (X : Stand p l e R s m args below meth c T locs cells slots) (hx : p.tables.exec = Jvm.exec) (hby : c.code = by_) (hd : decode by_ pc = .ok (.lor, 1)) (hp : pc + 1 = pc') (k : Go p e below P (T.setTop (mkF m pc' Ls (.long (x ||| y) :: rest)))) : Go p e below P (T.setTop (mkF m pc Ls (.long y :: .long x :: rest))) := by
  subst hp; exact Go.st (fun t k => XS.lor X.here hx rfl (hb hby hd) rfl k) k
theorem Go.lxor {x y : Int64} (X : Stand p l e R s m args below meth c T locs cells slots) (hx : p.tables.exec = Jvm.exec) (hby : c.code = by_) (hd : decode by_ pc = .ok (.lxor, 1)) (hp : pc + 1 = pc') (k : Go p e below P (T.setTop (mkF m pc' Ls (.long (x ^^^ y) :: rest)))) : Go p e below P (T.setTop (mkF m pc Ls (.long y :: .long x :: rest))) := by
  subst hp; exact Go.st (fun t k => XS.lxor X.here hx rfl (hb hby hd) rfl k) k
theorem Go.ishl {x y : Int32} (X : Stand p l e R s m args below meth c T locs cells slots) (hx : p.tables.exec = Jvm.exec) (hby : c.code = by_) (hd : decode by_ pc = .ok (.ishl, 1)) (hp : pc + 1 = pc') (k : Go p e below P (T.setTop (mkF m pc' Ls (.int (x <<< (y &&& 31)) :: rest)))) : Go p e below P (T.setTop (mkF m pc Ls (.int y :: .int x :: rest))) := by
  subst hp; exact Go.st (fun t k => XS.ishl X.here hx rfl (hb hby hd) rfl k) k
theorem Go.ishr {x y : Int32} (X : Stand p l e R s m args below meth c T locs cells slots) (hx : p.tables.exec = Jvm.exec) (hby : c.code = by_) (hd : decode by_ pc = .ok (.ishr, 1)) (hp : pc + 1 = pc') (k : Go p e below P (T.setTop (mkF m pc' Ls (.int (x >>> (y &&& 31)) :: rest)))) : Go p e below P (T.setTop (mkF m pc Ls (.int y :: .int x :: rest))) := by
  subst hp; exact Go.st (fun t k => XS.ishr X.here hx rfl (hb hby hd) rfl k) k
theorem Go.iushr {x y : Int32} (X : Stand p l e R s m args below meth c T locs cells slots) (hx : p.tables.exec = Jvm.exec) (hby : c.code = by_) (hd : decode by_ pc = .ok (.iushr, 1)) (hp : pc + 1 = pc') (k : Go p e below P (T.setTop (mkF m pc' Ls (.int ((x.toUInt32 >>> (y &&& 31).toUInt32).toInt32) :: rest)))) : Go p e below P (T.setTop (mkF m pc Ls (.int y :: .int x :: rest))) := by
  subst hp; exact Go.st (fun t k => XS.iushr X.here hx rfl (hb hby hd) rfl k) k
theorem Go.lshl {x : Int64} {y : Int32} (X : Stand p l e R s m args below meth c T locs cells slots) (hx : p.tables.exec = Jvm.exec) (hby : c.code = by_) (hd : decode by_ pc = .ok (.lshl, 1)) (hp : pc + 1 = pc') (k : Go p e below P (T.setTop (mkF m pc' Ls (.long (x <<< (y &&& 0x3f).toInt64) :: rest)))) : Go p e below P (T.setTop (mkF m pc Ls (.int y :: .long x :: rest))) := by
  subst hp; exact Go.st (fun t k => XS.lshl X.here hx rfl (hb hby hd) rfl k) k
theorem Go.lshr {x : Int64} {y : Int32} (X : Stand p l e R s m args below meth c T locs cells slots) (hx : p.tables.exec = Jvm.exec) (hby : c.code = by_) (hd : decode by_ pc = .ok (.lshr, 1)) (hp : pc + 1 = pc') (k : Go p e below P (T.setTop (mkF m pc' Ls (.long (x >>> (y &&& 0x3f).toInt64) :: rest)))) : Go p e below P (T.setTop (mkF m pc Ls (.int y :: .long x :: rest))) := by
  subst hp; exact Go.st (fun t k => XS.lshr X.here hx rfl (hb hby hd) rfl k) k
theorem Go.lushr {x : Int64} {y : Int32} (X : Stand p l e R s m args below meth c T locs cells slots) (hx : p.tables.exec = Jvm.exec) (hby : c.code = by_) (hd : decode by_ pc = .ok (.lushr, 1)) (hp : pc + 1 = pc') (k : Go p e below P (T.setTop (mkF m pc' Ls (.long ((x.toUInt64 >>> (y &&& 0x3f).toInt64.toUInt64).toInt64) :: rest)))) : Go p e below P (T.setTop (mkF m pc Ls (.int y :: .long x :: rest))) := by
  subst hp; exact Go.st (fun t k => XS.lushr X.here hx rfl (hb hby hd) rfl k) k
theorem Go.ineg {x : Int32} (X : Stand p l e R s m args below meth c T locs cells slots) (hx : p.tables.exec = Jvm.exec) (hby : c.code = by_) (hd : decode by_ pc = .ok (.ineg, 1)) (hp : pc + 1 = pc') (k : Go p e below P (T.setTop (mkF m pc' Ls (.int (-x) :: rest)))) : Go p e below P (T.setTop (mkF m pc Ls (.int x :: rest))) := by
  subst hp; exact Go.st (fun t k => XS.ineg X.here hx rfl (hb hby hd) rfl k) k
theorem Go.lneg {x : Int64} (X : Stand p l e R s m args below meth c T locs cells slots) (hx : p.tables.exec = Jvm.exec) (hby : c.code = by_) (hd : decode by_ pc = .ok (.lneg, 1)) (hp : pc + 1 = pc') (k : Go p e below P (T.setTop (mkF m pc' Ls (.long (-x) :: rest)))) : Go p e below P (T.setTop (mkF m pc Ls (.long x :: rest))) := by
  subst hp; exact Go.st (fun t k => XS.lneg X.here hx rfl (hb hby hd) rfl k) k
theorem Go.i2b {x : Int32} (X : Stand p l e R s m args below meth c T locs cells slots) (hx : p.tables.exec = Jvm.exec) (hby : c.code = by_) (hd : decode by_ pc = .ok (.i2b, 1)) (hp : pc + 1 = pc') (k : Go p e below P (T.setTop (mkF m pc' Ls (.int (x.toInt8.toInt32) :: rest)))) : Go p e below P (T.setTop (mkF m pc Ls (.int x :: rest))) := by
  subst hp; exact Go.st (fun t k => XS.i2b X.here hx rfl (hb hby hd) rfl k) k
theorem Go.i2c {x : Int32} (X : Stand p l e R s m args below meth c T locs cells slots) (hx : p.tables.exec = Jvm.exec) (hby : c.code = by_) (hd : decode by_ pc = .ok (.i2c, 1)) (hp : pc + 1 = pc') (k : Go p e below P (T.setTop (mkF m pc' Ls (.int (x.toUInt32.toUInt16.toUInt32.toInt32) :: rest)))) : Go p e below P (T.setTop (mkF m pc Ls (.int x :: rest))) := by
  subst hp; exact Go.st (fun t k => XS.i2c X.here hx rfl (hb hby hd) rfl k) k
theorem Go.i2s {x : Int32} (X : Stand p l e R s m args below meth c T locs cells slots) (hx : p.tables.exec = Jvm.exec) (hby : c.code = by_) (hd : decode by_ pc = .ok (.i2s, 1)) (hp : pc + 1 = pc') (k : Go p e below P (T.setTop (mkF m pc' Ls (.int (x.toInt16.toInt32) :: rest)))) : Go p e below P (T.setTop (mkF m pc Ls (.int x :: rest))) := by
  subst hp; exact Go.st (fun t k => XS.i2s X.here hx rfl (hb hby hd) rfl k) k
theorem Go.i2l {x : Int32} (X : Stand p l e R s m args below meth c T locs cells slots) (hx : p.tables.exec = Jvm.exec) (hby : c.code = by_) (hd : decode by_ pc = .ok (.i2l, 1)) (hp : pc + 1 = pc') (k : Go p e below P (T.setTop (mkF m pc' Ls (.long (x.toInt64) :: rest)))) : Go p e below P (T.setTop (mkF m pc Ls (.int x :: rest))) := by
  subst hp; exact Go.st (fun t k => XS.i2l X.here hx rfl (hb hby hd) rfl k) k
theorem Go.l2i {x : Int64} (X : Stand p l e R s m args below meth c T locs cells slots) (hx : p.tables.exec = Jvm.exec) (hby : c.code = by_) (hd : decode by_ pc = .ok (.l2i, 1)) (hp : pc + 1 = pc') (k : Go p e below P (T.setTop (mkF m pc' Ls (.int (x.toInt32) :: rest)))) : Go p e below P (T.setTop (mkF m pc Ls (.long x :: rest))) := by
  subst hp; exact Go.st (fun t k => XS.l2i X.here hx rfl (hb hby hd) rfl k) k
theorem Go.lcmp {x y : Int64} (X : Stand p l e R s m args below meth c T locs cells slots) (hx : p.tables.exec = Jvm.exec) (hby : c.code = by_) (hd : decode by_ pc = .ok (.lcmp, 1)) (hp : pc + 1 = pc') (k : Go p e below P (T.setTop (mkF m pc' Ls (.int (lcmpW x y) :: rest)))) : Go p e below P (T.setTop (mkF m pc Ls (.long y :: .long x :: rest))) := by
  subst hp; exact Go.st (fun t k => XS.lcmp X.here hx rfl (hb hby hd) rfl k) k
theorem Go.idiv {x y : Int32} (X : Stand p l e R s m args below meth c T locs cells slots) (hx : p.tables.exec = Jvm.exec) (hby : c.code = by_) (hd : decode by_ pc = .ok (.idiv, 1)) (hp : pc + 1 = pc') (hy : y ≠ 0) (k : Go p e below P (T.setTop (mkF m pc' Ls (.int (x / y) :: rest)))) : Go p e below P (T.setTop (mkF m pc Ls (.int y :: .int x :: rest))) := by
  subst hp; exact Go.st (fun t k => XS.idiv X.here hx rfl (hb hby hd) rfl hy k) k
theorem Go.irem {x y : Int32} (X : Stand p l e R s m args below meth c T locs cells slots) (hx : p.tables.exec = Jvm.exec) (hby : c.code = by_) (hd : decode by_ pc = .ok (.irem, 1)) (hp : pc + 1 = pc') (hy : y ≠ 0) (k : Go p e below P (T.setTop (mkF m pc' Ls (.int (x % y) :: rest)))) : Go p e below P (T.setTop (mkF m pc Ls (.int y :: .int x :: rest))) := by
  subst hp; exact Go.st (fun t k => iremM X hx rfl (hb hby hd) rfl hy k) k
theorem Go.ldiv {x y : Int64} (X : Stand p l e R s m args below meth c T locs cells slots) (hx : p.tables.exec = Jvm.exec) (hby : c.code = by_) (hd : decode by_ pc = .ok (.ldiv, 1)) (hp : pc + 1 = pc') (hy : y ≠ 0) (k : Go p e below P (T.setTop (mkF m pc' Ls (.long (x / y) :: rest)))) : Go p e below P (T.setTop (mkF m pc Ls (.long y :: .long x :: rest))) := by
  subst hp; exact Go.st (fun t k => XS.ldiv X.here hx rfl (hb hby hd) rfl hy k) k
theorem Go.lrem {x y : Int64} (X : Stand p l e R s m args below meth c T locs cells slots) (hx : p.tables.exec = Jvm.exec) (hby : c.code = by_) (hd : decode by_ pc = .ok (.lrem, 1)) (hp : pc + 1 = pc') (hy : y ≠ 0) (k : Go p e below P (T.setTop (mkF m pc' Ls (.long (x - (x / y) * y) :: rest)))) : Go p e below P (T.setTop (mkF m pc Ls (.long y :: .long x :: rest))) := by
  subst hp; exact Go.st (fun t k => XS.lrem X.here hx rfl (hb hby hd) rfl hy k) k
theorem Go.dup {w : Value} (X : Stand p l e R s m args below meth c T locs cells slots) (hx : p.tables.exec = Jvm.exec) (hby : c.code = by_) (hd : decode by_ pc = .ok (.dup, 1)) (hp : pc + 1 = pc') (hc : w.category = 1) (k : Go p e below P (T.setTop (mkF m pc' Ls (w :: w :: rest)))) : Go p e below P (T.setTop (mkF m pc Ls (w :: rest))) := by
  subst hp; exact Go.st (fun t k => XS.dup X.here hx rfl (hb hby hd) rfl hc k) k
theorem Go.pop {w : Value} (X : Stand p l e R s m args below meth c T locs cells slots) (hx : p.tables.exec = Jvm.exec) (hby : c.code = by_) (hd : decode by_ pc = .ok (.pop, 1)) (hp : pc + 1 = pc') (hc : w.category = 1) (k : Go p e below P (T.setTop (mkF m pc' Ls rest))) : Go p e below P (T.setTop (mkF m pc Ls (w :: rest))) := by
  subst hp; exact Go.st (fun t k => XS.pop X.here hx rfl (hb hby hd) rfl hc k) k
theorem Go.dupX1 {w u : Value} (X : Stand p l e R s m args below meth c T locs cells slots) (hx : p.tables.exec = Jvm.exec) (hby : c.code = by_) (hd : decode by_ pc = .ok (.dup_x1, 1)) (hp : pc + 1 = pc') (hc : w.category = 1) (hc2 : u.category = 1) (k : Go p e below P (T.setTop (mkF m pc' Ls (w :: u :: w :: rest)))) : Go p e below P (T.setTop (mkF m pc Ls (w :: u :: rest))) := by
  subst hp; exact Go.st (fun t k => XS.dupX1 X.here hx rfl (hb hby hd) rfl hc hc2 k) k
theorem Go.dup2 {w u : Value} (X : Stand p l e R s m args below meth c T locs cells slots) (hx : p.tables.exec = Jvm.exec) (hby : c.code = by_) (hd : decode by_ pc = .ok (.dup2, 1)) (hp : pc + 1 = pc') (hc : w.category = 1) (hc2 : u.category = 1) (k : Go p e below P (T.setTop (mkF m pc' Ls (w :: u :: w :: u :: rest)))) : Go p e below P (T.setTop (mkF m pc Ls (w :: u :: rest))) := by
  subst hp; exact Go.st (fun t k => XT.dup2 X.here hx rfl (hb hby hd) rfl hc hc2 k) k
theorem Go.iconst {i : Int} {v : Int32} (X : Stand p l e R s m args below meth c T locs cells slots) (hx : p.tables.exec = Jvm.exec) (hby : c.code = by_) (hd : decode by_ pc = .ok (.iconst i, 1)) (hp : pc + 1 = pc') (hv : Int32.ofInt i = v) (k : Go p e below P (T.setTop (mkF m pc' Ls (.int v :: rest)))) : Go p e below P (T.setTop (mkF m pc Ls rest)) := by
  subst hp; exact Go.st (fun t k => XS.iconst X.here hx rfl (hb hby hd) (by rw [hv]; exact k)) k
theorem Go.bipush {i : Int} {v : Int32} (X : Stand p l e R s m args below meth c T locs cells slots) (hx : p.tables.exec = Jvm.exec) (hby : c.code = by_) (hd : decode by_ pc = .ok (.bipush i, 2)) (hp : pc + 2 = pc') (hv : (Int8.ofInt i).toInt32 = v) (k : Go p e below P (T.setTop (mkF m pc' Ls (.int v :: rest)))) : Go p e below P (T.setTop (mkF m pc Ls rest)) := by
  subst hp; exact Go.st (fun t k => XS.bipush X.here hx rfl (hb hby hd) (by rw [hv]; exact k)) k
theorem Go.sipush {i : Int} {v : Int32} (X : Stand p l e R s m args below meth c T locs cells slots) (hx : p.tables.exec = Jvm.exec) (hby : c.code = by_) (hd : decode by_ pc = .ok (.sipush i, 3)) (hp : pc + 3 = pc') (hv : (Int16.ofInt i).toInt32 = v) (k : Go p e below P (T.setTop (mkF m pc' Ls (.int v :: rest)))) : Go p e below P (T.setTop (mkF m pc Ls rest)) := by
  subst hp; exact Go.st (fun t k => XS.sipush X.here hx rfl (hb hby hd) (by rw [hv]; exact k)) k
theorem Go.lconst {i : Fin 2} {v : Int64} (X : Stand p l e R s m args below meth c T locs cells slots) (hx : p.tables.exec = Jvm.exec) (hby : c.code = by_) (hd : decode by_ pc = .ok (.lconst i, 1)) (hp : pc + 1 = pc') (hv : Int64.ofNat i = v) (k : Go p e below P (T.setTop (mkF m pc' Ls (.long v :: rest)))) : Go p e below P (T.setTop (mkF m pc Ls rest)) := by
  subst hp; exact Go.st (fun t k => XS.lconst X.here hx rfl (hb hby hd) (by rw [hv]; exact k)) k
theorem Go.aconstNull  (X : Stand p l e R s m args below meth c T locs cells slots) (hx : p.tables.exec = Jvm.exec) (hby : c.code = by_) (hd : decode by_ pc = .ok (.aconst_null, 1)) (hp : pc + 1 = pc') (k : Go p e below P (T.setTop (mkF m pc' Ls (.null :: rest)))) : Go p e below P (T.setTop (mkF m pc Ls rest)) := by
  subst hp; exact Go.st (fun t k => XS.aconstNull X.here hx rfl (hb hby hd) k) k
theorem Go.iloadN {i : Fin 4} {v : Int32} (X : Stand p l e R s m args below meth c T locs cells slots) (hx : p.tables.exec = Jvm.exec) (hby : c.code = by_) (hd : decode by_ pc = .ok (.iload_n i, 1)) (hp : pc + 1 = pc') (hl : Ls[i.val]? = some (.val (.int v))) (k : Go p e below P (T.setTop (mkF m pc' Ls (.int v :: rest)))) : Go p e below P (T.setTop (mkF m pc Ls rest)) := by
  subst hp; exact Go.st (fun t k => XS.iloadN X.here hx rfl (hb hby hd) hl k) k
theorem Go.iload {i : Nat} {v : Int32} (X : Stand p l e R s m args below meth c T locs cells slots) (hx : p.tables.exec = Jvm.exec) (hby : c.code = by_) (hd : decode by_ pc = .ok (.iload i, 2)) (hp : pc + 2 = pc') (hl : Ls[i]? = some (.val (.int v))) (k : Go p e below P (T.setTop (mkF m pc' Ls (.int v :: rest)))) : Go p e below P (T.setTop (mkF m pc Ls rest)) := by
  subst hp; exact Go.st (fun t k => XS.iload X.here hx rfl (hb hby hd) hl k) k
theorem Go.lloadN {i : Fin 4} {v : Int64} (X : Stand p l e R s m args below meth c T locs cells slots) (hx : p.tables.exec = Jvm.exec) (hby : c.code = by_) (hd : decode by_ pc = .ok (.lload_n i, 1)) (hp : pc + 1 = pc') (hl : Ls[i.val]? = some (.val (.long v))) (k : Go p e below P (T.setTop (mkF m pc' Ls (.long v :: rest)))) : Go p e below P (T.setTop (mkF m pc Ls rest)) := by
  subst hp; exact Go.st (fun t k => XS.lloadN X.here hx rfl (hb hby hd) hl k) k
theorem Go.lload {i : Nat} {v : Int64} (X : Stand p l e R s m args below meth c T locs cells slots) (hx : p.tables.exec = Jvm.exec) (hby : c.code = by_) (hd : decode by_ pc = .ok (.lload i, 2)) (hp : pc + 2 = pc') (hl : Ls[i]? = some (.val (.long v))) (k : Go p e below P (T.setTop (mkF m pc' Ls (.long v :: rest)))) : Go p e below P (T.setTop (mkF m pc Ls rest)) := by
  subst hp; exact Go.st (fun t k => XS.lload X.here hx rfl (hb hby hd) hl k) k
theorem Go.aloadN {i : Fin 4} {v : Value} (X : Stand p l e R s m args below meth c T locs cells slots) (hx : p.tables.exec = Jvm.exec) (hby : c.code = by_) (hd : decode by_ pc = .ok (.aload_n i, 1)) (hp : pc + 1 = pc') (hl : Ls[i.val]? = some (.val v)) (hv : v.isRef = true) (k : Go p e below P (T.setTop (mkF m pc' Ls (v :: rest)))) : Go p e below P (T.setTop (mkF m pc Ls rest)) := by
  subst hp; exact Go.st (fun t k => XS.aloadN X.here hx rfl (hb hby hd) hl hv k) k
theorem Go.aload {i : Nat} {v : Value} (X : Stand p l e R s m args below meth c T locs cells slots) (hx : p.tables.exec = Jvm.exec) (hby : c.code = by_) (hd : decode by_ pc = .ok (.aload i, 2)) (hp : pc + 2 = pc') (hl : Ls[i]? = some (.val v)) (hv : v.isRef = true) (k : Go p e below P (T.setTop (mkF m pc' Ls (v :: rest)))) : Go p e below P (T.setTop (mkF m pc Ls rest)) := by
  subst hp; exact Go.st (fun t k => XS.aload X.here hx rfl (hb hby hd) hl hv k) k
theorem Go.ldcI {own : String} {index : Nat} {v : Int32} (X : Stand p l e R s m args below meth c T locs cells slots) (hx : p.tables.exec = Jvm.exec) (hby : c.code = by_) (hd : decode by_ pc = .ok (.ldc index, 2)) (hp : pc + 2 = pc') (hown : s.vm.findClass own = some m.cls) (hk : (Jvm.Cond.constant own index v).before args s = true) (k : Go p e below P (T.setTop (mkF m pc' Ls (.int v :: rest)))) : Go p e below P (T.setTop (mkF m pc Ls rest)) := by
  subst hp; exact Go.st (fun t k => X.ldcI hx hown hk rfl (hb hby hd) k) k
theorem Go.ldcWI {own : String} {index : Nat} {v : Int32} (X : Stand p l e R s m args below meth c T locs cells slots) (hx : p.tables.exec = Jvm.exec) (hby : c.code = by_) (hd : decode by_ pc = .ok (.ldc_w index, 3)) (hp : pc + 3 = pc') (hown : s.vm.findClass own = some m.cls) (hk : (Jvm.Cond.constant own index v).before args s = true) (k : Go p e below P (T.setTop (mkF m pc' Ls (.int v :: rest)))) : Go p e below P (T.setTop (mkF m pc Ls rest)) := by
  subst hp; exact Go.st (fun t k => X.ldcWI hx hown hk rfl (hb hby hd) k) k
theorem Go.ldc2J {own : String} {index : Nat} {v : Int64} (X : Stand p l e R s m args below meth c T locs cells slots) (hx : p.tables.exec = Jvm.exec) (hby : c.code = by_) (hd : decode by_ pc = .ok (.ldc2_w index, 3)) (hp : pc + 3 = pc') (hown : s.vm.findClass own = some m.cls) (hk : (Jvm.Cond.constantLong own index v).before args s = true) (k : Go p e below P (T.setTop (mkF m pc' Ls (.long v :: rest)))) : Go p e below P (T.setTop (mkF m pc Ls rest)) := by
  subst hp; exact Go.st (fun t k => X.ldc2J hx hown hk rfl (hb hby hd) k) k
theorem Go.istoreN {i : Fin 4} {v : Int32} {Ls' : Array Slot} (X : Stand p l e R s m args below meth c T locs cells slots) (hx : p.tables.exec = Jvm.exec) (hby : c.code = by_) (hd : decode by_ pc = .ok (.istore_n i, 1)) (hp : pc + 1 = pc') (hl : storeLocals Ls i.val (.int v) = some Ls') (k : Go p e below P (T.setTop (mkF m pc' Ls' rest))) : Go p e below P (T.setTop (mkF m pc Ls (.int v :: rest))) := by
  subst hp; exact Go.st (fun t k => XS.istoreN X.here hx rfl (hb hby hd) rfl hl k) k
theorem Go.istore {i : Nat} {v : Int32} {Ls' : Array Slot} (X : Stand p l e R s m args below meth c T locs cells slots) (hx : p.tables.exec = Jvm.exec) (hby : c.code = by_) (hd : decode by_ pc = .ok (.istore i, 2)) (hp : pc + 2 = pc') (hl : storeLocals Ls i (.int v) = some Ls') (k : Go p e below P (T.setTop (mkF m pc' Ls' rest))) : Go p e below P (T.setTop (mkF m pc Ls (.int v :: rest))) := by
  subst hp; exact Go.st (fun t k => XS.istore X.here hx rfl (hb hby hd) rfl hl k) k
theorem Go.lstoreN {i : Fin 4} {v : Int64} {Ls' : Array Slot} (X : Stand p l e R s m args below meth c T locs cells slots) (hx : p.tables.exec = Jvm.exec) (hby : c.code = by_) (hd : decode by_ pc = .ok (.lstore_n i, 1)) (hp : pc + 1 = pc') (hl : storeLocals Ls i.val (.long v) = some Ls') (k : Go p e below P (T.setTop (mkF m pc' Ls' rest))) : Go p e below P (T.setTop (mkF m pc Ls (.long v :: rest))) := by
  subst hp; exact Go.st (fun t k => XS.lstoreN X.here hx rfl (hb hby hd) rfl hl k) k
theorem Go.lstore {i : Nat} {v : Int64} {Ls' : Array Slot} (X : Stand p l e R s m args below meth c T locs cells slots) (hx : p.tables.exec = Jvm.exec) (hby : c.code = by_) (hd : decode by_ pc = .ok (.lstore i, 2)) (hp : pc + 2 = pc') (hl : storeLocals Ls i (.long v) = some Ls') (k : Go p e below P (T.setTop (mkF m pc' Ls' rest))) : Go p e below P (T.setTop (mkF m pc Ls (.long v :: rest))) := by
  subst hp; exact Go.st (fun t k => XS.lstore X.here hx rfl (hb hby hd) rfl hl k) k
theorem Go.astoreN {i : Fin 4} {v : Value} {Ls' : Array Slot} (X : Stand p l e R s m args below meth c T locs cells slots) (hx : p.tables.exec = Jvm.exec) (hby : c.code = by_) (hd : decode by_ pc = .ok (.astore_n i, 1)) (hp : pc + 1 = pc') (hv : v.isRef = true) (hl : storeLocals Ls i.val v = some Ls') (k : Go p e below P (T.setTop (mkF m pc' Ls' rest))) : Go p e below P (T.setTop (mkF m pc Ls (v :: rest))) := by
  subst hp; exact Go.st (fun t k => XS.astoreN X.here hx rfl (hb hby hd) rfl hv hl k) k
theorem Go.astore {i : Nat} {v : Value} {Ls' : Array Slot} (X : Stand p l e R s m args below meth c T locs cells slots) (hx : p.tables.exec = Jvm.exec) (hby : c.code = by_) (hd : decode by_ pc = .ok (.astore i, 2)) (hp : pc + 2 = pc') (hv : v.isRef = true) (hl : storeLocals Ls i v = some Ls') (k : Go p e below P (T.setTop (mkF m pc' Ls' rest))) : Go p e below P (T.setTop (mkF m pc Ls (v :: rest))) := by
  subst hp; exact Go.st (fun t k => XS.astore X.here hx rfl (hb hby hd) rfl hv hl k) k
theorem Go.iinc {i : Nat} {cst : Int} {v w : Int32} {Ls' : Array Slot} (X : Stand p l e R s m args below meth c T locs cells slots) (hx : p.tables.exec = Jvm.exec) (hby : c.code = by_) (hd : decode by_ pc = .ok (.iinc i cst, 3)) (hp : pc + 3 = pc') (hl : Ls[i]? = some (.val (.int v))) (hv : v + Int32.ofInt cst = w) (hl' : storeLocals Ls i (.int w) = some Ls') (k : Go p e below P (T.setTop (mkF m pc' Ls' rest))) : Go p e below P (T.setTop (mkF m pc Ls rest)) := by
  subst hp hv; exact Go.st (fun t k => XS.iinc X.here hx rfl (hb hby hd) hl hl' k) k
theorem Go.goto {o : Int} (X : Stand p l e R s m args below meth c T locs cells slots) (hx : p.tables.exec = Jvm.exec) (hby : c.code = by_) (hd : decode by_ pc = .ok (.goto o, 3)) (ho : 0 ≤ (pc : Int) + o) (hp : ((pc : Int) + o).toNat = pc') (k : Go p e below P (T.setTop (mkF m pc' Ls rest))) : Go p e below P (T.setTop (mkF m pc Ls rest)) :=
  Go.st (fun t k => XS.goto X.here hx rfl rfl (hb hby hd) ho hp k) k
theorem Go.icmpY {cd : ClassFile.Cond} {o : Int} {x y : Int32} (X : Stand p l e R s m args below meth c T locs cells slots) (hx : p.tables.exec = Jvm.exec) (hby : c.code = by_) (hd : decode by_ pc = .ok (.if_icmp cd o, 3)) (ho : 0 ≤ (pc : Int) + o) (hp : ((pc : Int) + o).toNat = pc') (q : icP cd x y) (k : Go p e below P (T.setTop (mkF m pc' Ls rest))) : Go p e below P (T.setTop (mkF m pc Ls (.int y :: .int x :: rest))) :=
  Go.st (fun t k => XS.icmpYes X.here hx rfl rfl (hb hby hd) rfl ((icP_iff cd x y).mpr q) ho hp k) k
theorem Go.icmpN {cd : ClassFile.Cond} {o : Int} {x y : Int32} (X : Stand p l e R s m args below meth c T locs cells slots) (hx : p.tables.exec = Jvm.exec) (hby : c.code = by_) (hd : decode by_ pc = .ok (.if_icmp cd o, 3)) (hp : pc + 3 = pc') (q : ¬ icP cd x y) (k : Go p e below P (T.setTop (mkF m pc' Ls rest))) : Go p e below P (T.setTop (mkF m pc Ls (.int y :: .int x :: rest))) := by
  subst hp; exact Go.st (fun t k => XS.icmpNo X.here hx rfl (hb hby hd) rfl (icP_not q) k) k
theorem Go.icmp {cd : ClassFile.Cond} {o : Int} {x y : Int32} {pn : Nat} (X : Stand p l e R s m args below meth c T locs cells slots) (hx : p.tables.exec = Jvm.exec) (hby : c.code = by_) (hd : decode by_ pc = .ok (.if_icmp cd o, 3)) (ho : 0 ≤ (pc : Int) + o) (hp : ((pc : Int) + o).toNat = pc') (hp2 : pc + 3 = pn) (k : icP cd x y → Go p e below P (T.setTop (mkF m pc' Ls rest))) (k2 : ¬ icP cd x y → Go p e below P (T.setTop (mkF m pn Ls rest))) : Go p e below P (T.setTop (mkF m pc Ls (.int y :: .int x :: rest))) := by
  by_cases q : icP cd x y
  · exact Go.icmpY X hx hby hd ho hp q (k q)
  · exact Go.icmpN X hx hby hd hp2 q (k2 q)
theorem Go.ifY {cd : ClassFile.Cond} {o : Int} {x : Int32} (X : Stand p l e R s m args below meth c T locs cells slots) (hx : p.tables.exec = Jvm.exec) (hby : c.code = by_) (hd : decode by_ pc = .ok (.ifCond cd o, 3)) (ho : 0 ≤ (pc : Int) + o) (hp : ((pc : Int) + o).toNat = pc') (q : icP cd x 0) (k : Go p e below P (T.setTop (mkF m pc' Ls rest))) : Go p e below P (T.setTop (mkF m pc Ls (.int x :: rest))) :=
  Go.st (fun t k => XS.ifYes X.here hx rfl rfl (hb hby hd) rfl (by rw [if0]; exact (icP_iff cd x 0).mpr q) ho hp k) k
theorem Go.ifN {cd : ClassFile.Cond} {o : Int} {x : Int32} (X : Stand p l e R s m args below meth c T locs cells slots) (hx : p.tables.exec = Jvm.exec) (hby : c.code = by_) (hd : decode by_ pc = .ok (.ifCond cd o, 3)) (hp : pc + 3 = pc') (q : ¬ icP cd x 0) (k : Go p e below P (T.setTop (mkF m pc' Ls rest))) : Go p e below P (T.setTop (mkF m pc Ls (.int x :: rest))) := by
  subst hp; exact Go.st (fun t k => XS.ifNo X.here hx rfl (hb hby hd) rfl (by rw [if0]; exact icP_not q) k) k
theorem Go.if_ {cd : ClassFile.Cond} {o : Int} {x : Int32} {pn : Nat} (X : Stand p l e R s m args below meth c T locs cells slots) (hx : p.tables.exec = Jvm.exec) (hby : c.code = by_) (hd : decode by_ pc = .ok (.ifCond cd o, 3)) (ho : 0 ≤ (pc : Int) + o) (hp : ((pc : Int) + o).toNat = pc') (hp2 : pc + 3 = pn) (k : icP cd x 0 → Go p e below P (T.setTop (mkF m pc' Ls rest))) (k2 : ¬ icP cd x 0 → Go p e below P (T.setTop (mkF m pn Ls rest))) : Go p e below P (T.setTop (mkF m pc Ls (.int x :: rest))) := by
  by_cases q : icP cd x 0
  · exact Go.ifY X hx hby hd ho hp q (k q)
  · exact Go.ifN X hx hby hd hp2 q (k2 q)
theorem Go.ifnullY {o : Int} (X : Stand p l e R s m args below meth c T locs cells slots) (hx : p.tables.exec = Jvm.exec) (hby : c.code = by_) (hd : decode by_ pc = .ok (.ifnull o, 3)) (ho : 0 ≤ (pc : Int) + o) (hp : ((pc : Int) + o).toNat = pc') (k : Go p e below P (T.setTop (mkF m pc' Ls rest))) : Go p e below P (T.setTop (mkF m pc Ls (.null :: rest))) :=
  Go.st (fun t k => XS.ifnullYes X.here hx rfl rfl (hb hby hd) rfl ho hp k) k
theorem Go.ifnullN {o : Int} {b : Addr} (X : Stand p l e R s m args below meth c T locs cells slots) (hx : p.tables.exec = Jvm.exec) (hby : c.code = by_) (hd : decode by_ pc = .ok (.ifnull o, 3)) (hp : pc + 3 = pc') (k : Go p e below P (T.setTop (mkF m pc' Ls rest))) : Go p e below P (T.setTop (mkF m pc Ls (.ref b :: rest))) := by
  subst hp; exact Go.st (fun t k => XS.ifnullNo X.here hx rfl (hb hby hd) rfl k) k
theorem Go.ifnonnullY {o : Int} {b : Addr} (X : Stand p l e R s m args below meth c T locs cells slots) (hx : p.tables.exec = Jvm.exec) (hby : c.code = by_) (hd : decode by_ pc = .ok (.ifnonnull o, 3)) (ho : 0 ≤ (pc : Int) + o) (hp : ((pc : Int) + o).toNat = pc') (k : Go p e below P (T.setTop (mkF m pc' Ls rest))) : Go p e below P (T.setTop (mkF m pc Ls (.ref b :: rest))) :=
  Go.st (fun t k => XS.ifnonnullYes X.here hx rfl rfl (hb hby hd) rfl ho hp k) k
theorem Go.ifnonnullN {o : Int} (X : Stand p l e R s m args below meth c T locs cells slots) (hx : p.tables.exec = Jvm.exec) (hby : c.code = by_) (hd : decode by_ pc = .ok (.ifnonnull o, 3)) (hp : pc + 3 = pc') (k : Go p e below P (T.setTop (mkF m pc' Ls rest))) : Go p e below P (T.setTop (mkF m pc Ls (.null :: rest))) := by
  subst hp; exact Go.st (fun t k => XS.ifnonnullNo X.here hx rfl (hb hby hd) rfl k) k
theorem Go.acmpEq {o : Int} {b : Addr} (X : Stand p l e R s m args below meth c T locs cells slots) (hx : p.tables.exec = Jvm.exec) (hby : c.code = by_) (hd : decode by_ pc = .ok (.if_acmp .eq o, 3)) (ho : 0 ≤ (pc : Int) + o) (hp : ((pc : Int) + o).toNat = pc') (k : Go p e below P (T.setTop (mkF m pc' Ls rest))) : Go p e below P (T.setTop (mkF m pc Ls (.ref b :: .ref b :: rest))) :=
  Go.st (fun t k => acmp X hx rfl (x := .ref b) (y := .ref b) rfl rfl rfl (hb hby hd) rfl (same := true) (by simp) ho (hp.symm.trans (if_pos rfl).symm) k) k
theorem Go.callS {own : String} {index : Nat} {y : MethodName} {bytes : ByteArray} {maxL : Nat} {ret : Option FieldType} {rm : Room} {W : Nat} {as : Array Value} {Qc : Option Value → Heap → List Loc → Prop} {argsL st : List Value} {ps : List FieldType} {rt : Option FieldType} (X : Stand p l e R s m args below meth c T locs cells slots) (hx : p.tables.exec = Jvm.exec) (hby : c.code = by_) (hZ : Z.Warmed39 s.vm) (hown : s.vm.findClass own = some m.cls)
    (w1 : (Jvm.Cond.methodLink own index y).before a0 Z = true) (w2 : (Jvm.Cond.static y).before a0 Z = true) (w3 : (Jvm.Cond.initialized y.cls).before a0 Z = true) (w4 : (Jvm.Cond.code y bytes maxL ret).before a0 Z = true) (hy : y.cls ≠ "java/lang/invoke/MethodHandle" ∧ y.cls ≠ "java/lang/invoke/VarHandle")
    (hM : Con l Z y bytes maxL ret [] rm as h Qc) (eT : T.heap = h) (hf : rm.frames + 1 ≤ R.frames) (hl : W + (maxL + 11) + rm.locals ≤ R.locals) (hsize : Ls.size = c.maxLocals) (hpd : parseMethodDescriptor y.desc = some ⟨ps, rt⟩) (hlen : argsL.length = ps.length) (hst : st = argsL.reverse ++ rest) (has : argsL.toArray = as) (hW : 0 + (rest.map fun v => v.category).sum ≤ W)
    (hd : decode by_ pc = .ok (.invokestatic index, 3)) (hp : pc + 3 = pc') (hc : cells + rm.cells ≤ R.cells) (hs : slots + rm.slots ≤ R.slots)
    (k : ∀ (v : Option Value) (T' : State) (L : List Loc), Stand p l e R s m args below meth c T' (locs ++ L) (cells + rm.cells) (slots + rm.slots) → Qc v T'.heap L → Go p e below P (T'.setTop (mkF m pc' Ls (v.toList ++ rest)))) : Go p e below P (T.setTop (mkF m pc Ls st)) := by
  subst hp
  obtain ⟨v, _, ⟨T3, L3, k3, n3⟩, -, X3, ⟨Lc3, hQ3, l3, y3, z3⟩, st3⟩ := Jvm.LawKit.callS X hx (y := y) hown (mvT hZ w1) (mvT hZ w2) (mvT hZ w3) (mvT hZ w4) hy (backOf (W := W) hM hZ w4 w3 hf hl) (g := mkF m pc Ls st) rfl hsize (argsL := argsL) (rest := rest) (lenOf hpd hlen) hst hW (hb hby hd) (fun _ _ => ⟨has, eT, hc, hs⟩)
  dsimp only [Pt.U, Pt.locs, Pt.cells, Pt.slots] at X3 l3 y3 z3 st3 hQ3
  subst l3 y3 z3
  exact Go.st st3 (k v T3 Lc3 X3 hQ3)
theorem Go.callI {own : String} {index : Nat} {y : MethodName} {bytes : ByteArray} {maxL : Nat} {rm : Room} {W : Nat} {as : Array Value} {Qc : Option Value → Heap → List Loc → Prop} {argsL st : List Value} {ps : List FieldType} {rt : Option FieldType} {a : Addr} (X : Stand p l e R s m args below meth c T locs cells slots) (hx : p.tables.exec = Jvm.exec) (hby : c.code = by_) (hy1 : y.name = "<init>") (hZ : Z.Warmed39 s.vm) (hown : s.vm.findClass own = some m.cls)
    (w1 : (Jvm.Cond.methodLink own index y).before a0 Z = true) (w2 : (Jvm.Cond.instanceMethod y).before a0 Z = true) (w3 : (Jvm.Cond.initialized y.cls).before a0 Z = true) (w4 : (Jvm.Cond.code y bytes maxL none).before a0 Z = true) (hy : y.cls ≠ "java/lang/invoke/MethodHandle" ∧ y.cls ≠ "java/lang/invoke/VarHandle")
    (hM : Con l Z y bytes maxL none [] rm as h Qc) (eT : T.heap = h) (hf : rm.frames + 1 ≤ R.frames) (hl : W + (maxL + 11) + rm.locals ≤ R.locals) (hsize : Ls.size = c.maxLocals) (hpd : parseMethodDescriptor y.desc = some ⟨ps, rt⟩) (hlen : argsL.length = ps.length) (hst : st = argsL.reverse ++ .ref a :: rest) (has : (.ref a :: argsL).toArray = as) (hW : 0 + (rest.map fun v => v.category).sum ≤ W)
    (hd : decode by_ pc = .ok (.invokespecial index, 3)) (hp : pc + 3 = pc') (hc : cells + rm.cells ≤ R.cells) (hs : slots + rm.slots ≤ R.slots)
    (k : ∀ (v : Option Value) (T' : State) (L : List Loc), Stand p l e R s m args below meth c T' (locs ++ L) (cells + rm.cells) (slots + rm.slots) → Qc v T'.heap L → Go p e below P (T'.setTop (mkF m pc' Ls (v.toList ++ rest)))) : Go p e below P (T.setTop (mkF m pc Ls st)) := by
  subst hp
  obtain ⟨v, _, ⟨T3, L3, k3, n3⟩, -, X3, ⟨Lc3, hQ3, l3, y3, z3⟩, st3⟩ := X.specialBack hx (y := y) hy1 hown (mvT hZ w1) (mvT hZ w2) (mvT hZ w4) hy (backOf (W := W) hM hZ w4 w3 hf hl) (g := mkF m pc Ls st) rfl hsize (Steps.refl _) (a := a) (argsL := argsL) (rest := rest) (lenOf hpd hlen) hst hW (hb hby hd) (fun _ _ => ⟨has, eT, hc, hs⟩)
  dsimp only [Pt.U, Pt.locs, Pt.cells, Pt.slots] at X3 l3 y3 z3 st3 hQ3
  subst l3 y3 z3
  exact Go.via st3 (k v T3 Lc3 X3 hQ3)
theorem Go.callV {own C : String} {index : Nat} {y z : MethodName} {bytes : ByteArray} {maxL : Nat} {ret : Option FieldType} {rm : Room} {W : Nat} {as : Array Value} {Qc : Option Value → Heap → List Loc → Prop} {argsL st : List Value} {ps : List FieldType} {rt : Option FieldType} {a : Addr} (X : Stand p l e R s m args below meth c T locs cells slots) (hx : p.tables.exec = Jvm.exec) (hby : c.code = by_) (hZ : Z.Warmed39 s.vm) (hown : s.vm.findClass own = some m.cls)
    (w1 : (Jvm.Cond.methodLink own index y).before a0 Z = true) (w2 : (Jvm.Cond.declares y).before a0 Z = true) (hnf : NotFace s y) (w5 : (Jvm.Cond.selects C y z).before a0 Z = true) (w6 : (Jvm.Cond.instanceMethod z).before a0 Z = true) (w3 : (Jvm.Cond.initialized z.cls).before a0 Z = true) (w4 : (Jvm.Cond.code z bytes maxL ret).before a0 Z = true) (hy : y.cls ≠ "java/lang/invoke/MethodHandle" ∧ y.cls ≠ "java/lang/invoke/VarHandle")
    (hM : Con l Z z bytes maxL ret [] rm as h Qc) (eT : T.heap = h) (hE : Exa Z h a C) (hf : rm.frames + 1 ≤ R.frames) (hl : W + (maxL + 11) + rm.locals ≤ R.locals) (hsize : Ls.size = c.maxLocals) (hpd : parseMethodDescriptor y.desc = some ⟨ps, rt⟩) (hlen : argsL.length = ps.length) (hst : st = argsL.reverse ++ .ref a :: rest) (has : (.ref a :: argsL).toArray = as) (hW : 0 + (rest.map fun v => v.category).sum ≤ W)
    (hd : decode by_ pc = .ok (.invokevirtual index, 3)) (hp : pc + 3 = pc') (hc : cells + rm.cells ≤ R.cells) (hs : slots + rm.slots ≤ R.slots)
    (k : ∀ (v : Option Value) (T' : State) (L : List Loc), Stand p l e R s m args below meth c T' (locs ++ L) (cells + rm.cells) (slots + rm.slots) → Qc v T'.heap L → Go p e below P (T'.setTop (mkF m pc' Ls (v.toList ++ rest)))) : Go p e below P (T.setTop (mkF m pc Ls st)) := by
  subst hp
  obtain ⟨cq, kq, q4a, q4b, q4c⟩ := isOf (T := T) hZ eT hE
  obtain ⟨v, _, ⟨T3, L3, k3, n3⟩, -, X3, ⟨Lc3, hQ3, l3, y3, z3⟩, st3⟩ := X.virtualBack hx (y := y) (z := z) hown (mvT hZ w1) (mvT hZ w2) hnf (mvT hZ w5) (mvT hZ w6) hy (backOf (W := W) hM hZ w4 w3 hf hl) q4a q4c (g := mkF m pc Ls st) rfl hsize (Steps.refl _) (argsL := argsL) (rest := rest) (lenOf hpd hlen) hst hW (hb hby hd) (fun _ _ => ⟨has, eT, hc, hs⟩)
  dsimp only [Pt.U, Pt.locs, Pt.cells, Pt.slots] at X3 l3 y3 z3 st3 hQ3
  subst l3 y3 z3
  exact Go.via st3 (k v T3 Lc3 X3 hQ3)

theorem Go.nmI {x : Int32} (k : ∀ v : Int32, v = x → Go p e below P (T.setTop (mkF m pc Ls (.int v :: rest)))) : Go p e below P (T.setTop (mkF m pc Ls (.int x :: rest))) := k _ rfl
theorem Go.nmJ {x : Int64} (k : ∀ v : Int64, v = x → Go p e below P (T.setTop (mkF m pc Ls (.long v :: rest)))) : Go p e below P (T.setTop (mkF m pc Ls (.long x :: rest))) := k _ rfl
theorem Go.cut {α : Type} {F : α → State} {x : α} {S : State} (k : Go p e below P (F x)) (k2 : (∀ b, b = x → Go p e below P (F b)) → Go p e below P S) : Go p e below P S := k2 (fun b hb => hb ▸ k)
theorem Go.cutAll {α : Type} {F : α → State} {S : State} (k : ∀ b, Go p e below P (F b)) (k2 : (∀ b, Go p e below P (F b)) → Go p e below P S) : Go p e below P S := k2 k
theorem Go.loop {α : Type} {F : α → State} {I : α → Prop} {μ : α → Nat} (step : ∀ x, I x → (∀ y, I y → μ y < μ x → Go p e below P (F y)) → Go p e below P (F x)) (x : α) (hx : I x) : Go p e below P (F x) := by
  have key : ∀ (n : Nat) (x : α), μ x < n → I x → Go p e below P (F x) := by
    intro n
    induction n with
    | zero => intro x hn; exact absurd hn (Nat.not_lt_zero _)
    | succ n ih => intro x hn hi; exact step x hi (fun y hy hlt => ih y (by omega) hy)
  exact key _ x (Nat.lt_succ_self _) hx
/-- what a law leaves: true, and nothing that stood is written -/
def LQ (n0 : Nat) (v : Option Value) (h : Heap) (L : List Loc) : Prop := v = some (.int 1) ∧ Fr n0 L
end OwnGo
section OwnHeap
variable {p : Program} {l : Launch} {e : Env} {R : Room} {s : State} {m : MethodId} {args : Array Value} {below : List Frame} {meth : Method} {c : Code} {T : State} {locs : List Loc} {cells slots : Nat} {Z : State} {a0 : Array Value} {h h' : Heap} {Q : Option Value → Heap → List Loc → Prop} {P : Option Value → State → Prop} {K N : Nat} {by_ : ByteArray} {pc pc' : Nat} {Ls : Array Slot} {rest : List Value} {a b : Addr} {ty : FieldType} {z i : Int} {f g : Int → Value} {sl : Nat} {v : Value} {ws : List Addr}
/-- an array: its length z, what place i holds -/
def Ar (Z : State) (h : Heap) (a : Addr) (ty : FieldType) (z : Int) (f : Int → Value) : Prop := ∃ cl : Cell, Arr Z h a cl ty ∧ (cl.slots.size : Int) = z ∧ z < 2147483648 ∧ ∀ i : Nat, (i : Int) < z → cl.slots[i]? = some (f i)
theorem Ar.ext (F : Ar Z h a ty z f) (E : Ext h h') : Ar Z h' a ty z f := by obtain ⟨cl, A, r⟩ := F; exact ⟨cl, A.ext E, r⟩
theorem Ar.other (F : Ar Z h a ty z f) (W : Wr h h' b sl v) (q : a ≠ b) : Ar Z h' a ty z f := by obtain ⟨cl, A, r⟩ := F; exact ⟨cl, A.other W q, r⟩
theorem Ar.keep (F : Ar Z h a ty z f) (K : Keep h h' ws) (q : a ∉ ws) : Ar Z h' a ty z f := by obtain ⟨cl, A, r⟩ := F; exact ⟨cl, ⟨K.2.1 a cl A.1 q, A.2⟩, r⟩
theorem Ar.lt (F : Ar Z h a ty z f) : a < h.size := by obtain ⟨cl, A, -⟩ := F; exact A.lt
theorem Ar.congr (F : Ar Z h a ty z f) (q : ∀ i, 0 ≤ i → i < z → f i = g i) : Ar Z h a ty z g := by
  obtain ⟨cl, A, r1, r2, r3⟩ := F
  exact ⟨cl, A, r1, r2, fun i hi => by rw [r3 i hi, q i (by omega) hi]⟩
theorem Ar.bound (F : Ar Z h a ty z f) : 0 ≤ z ∧ z < 2147483648 := by obtain ⟨cl, A, r1, r2, -⟩ := F; omega
theorem Ar.set (F : Ar Z h a ty z f) (W : Wr h h' a i.toNat v) (hi : 0 ≤ i) : Ar Z h' a ty z (fun q => if q = i then v else f q) := by
  obtain ⟨cl, A, r1, r2, r3⟩ := F
  obtain ⟨cl2, w1, w2, w3, w4⟩ := W
  cases w1.symm.trans A.1
  refine ⟨_, A.same ⟨cl, A.1, w2, w3, w4⟩, by rw [sz_set]; exact r1, r2, fun k hk => ?_⟩
  by_cases e : (k : Int) = i
  · have e' : k = i.toNat := by omega
    subst e'
    simp only [Cell.setSlot, if_pos e]
    rw [Array.getElem?_setIfInBounds_self_of_lt w3]
  · show _ = some (if (k : Int) = i then v else f k)
    rw [if_neg e]
    simp only [Cell.setSlot]
    rw [Array.getElem?_setIfInBounds_ne (by omega)]
    exact r3 k hk
theorem Ar.new {cA : ClassId} {n : Int32} (A : Arr Z h a (newA cA ty n) ty) (q : n.toInt = z) (q0 : 0 ≤ z) : Ar Z h a ty z (fun _ => defaultValue ty) := by
  have hs : ((newA cA ty n).slots.size : Int) = z := by rw [sz_new]; simp only [Int32.toNatClampNeg]; omega
  refine ⟨_, A, hs, by have := n.toInt_lt; omega, fun i hi => ?_⟩
  have hlt : i < n.toNatClampNeg := by rw [sz_new] at hs; omega
  simp [newA, Array.getElem?_replicate, hlt]
theorem in_of {cl : Cell} {j : Int32} (r1 : (cl.slots.size : Int) = z) (hj : j.toInt = i) (h0 : 0 ≤ i) (h1 : i < z) : ¬ (j < 0 ∨ cl.slots.size ≤ j.toNatClampNeg) ∧ j.toNatClampNeg = i.toNat := by
  have e : j.toNatClampNeg = i.toNat := by simp only [Int32.toNatClampNeg, hj]
  refine ⟨fun q => ?_, e⟩
  rcases q with q | q
  · rw [Int32.lt_iff_toInt_lt, hj, show (0 : Int32).toInt = 0 from by decide] at q; omega
  · rw [e] at q; omega
theorem Go.alen {zv : Int32} (X : Stand p l e R s m args below meth c T locs cells slots) (hx : p.tables.exec = Jvm.exec) (hby : c.code = by_) (hZ : Z.Warmed39 s.vm) (eT : T.heap = h) (A : Ar Z h a ty z f) (hd : decode by_ pc = .ok (.arraylength, 1)) (hp : pc + 1 = pc') (hz : zv.toInt = z) (k : Go p e below P (T.setTop (mkF m pc' Ls (.int zv :: rest)))) : Go p e below P (T.setTop (mkF m pc Ls (.ref a :: rest))) := by
  subst hp
  obtain ⟨cl, A, r1, r2, -⟩ := A
  have e1 : cl.slots.size.toInt32 = zv := Int32.toInt_inj.mp (by rw [len_toInt (by omega), hz]; exact r1)
  exact Go.st (fun t k => X.arraylength hx (cell := cl) (by rw [eT]; exact A.1) (State.isArrayOf_alike hZ.alike A.2.1) (g := mkF m pc Ls (.ref a :: rest)) rfl rfl (hb hby hd) _ (by rw [e1]; exact k)) k
theorem Go.iaload {j : Int32} (X : Stand p l e R s m args below meth c T locs cells slots) (hx : p.tables.exec = Jvm.exec) (hby : c.code = by_) (hZ : Z.Warmed39 s.vm) (eT : T.heap = h) (A : Ar Z h a .int z f) (hd : decode by_ pc = .ok (.iaload, 1)) (hp : pc + 1 = pc') (hj : j.toInt = i) (h0 : 0 ≤ i) (h1 : i < z) (hv : f i = v) (k : Go p e below P (T.setTop (mkF m pc' Ls (v :: rest)))) : Go p e below P (T.setTop (mkF m pc Ls (.int j :: .ref a :: rest))) := by
  subst hp hv
  obtain ⟨cl, A, r1, r2, r3⟩ := A
  obtain ⟨q1, q2⟩ := in_of r1 hj h0 h1
  exact Go.st (fun t k => X.iaload hx (j := j) (v := f i) (by rw [eT]; exact A.1) (State.isArrayOf_alike hZ.alike A.2.1) A.2.2 q1 (by rw [q2, r3 _ (by omega)]; congr 2; omega) (g := mkF m pc Ls (.int j :: .ref a :: rest)) rfl rfl (hb hby hd) _ k) k
theorem Go.caload {j : Int32} (X : Stand p l e R s m args below meth c T locs cells slots) (hx : p.tables.exec = Jvm.exec) (hby : c.code = by_) (hZ : Z.Warmed39 s.vm) (eT : T.heap = h) (A : Ar Z h a .char z f) (hd : decode by_ pc = .ok (.caload, 1)) (hp : pc + 1 = pc') (hj : j.toInt = i) (h0 : 0 ≤ i) (h1 : i < z) (hv : f i = v) (k : Go p e below P (T.setTop (mkF m pc' Ls (v :: rest)))) : Go p e below P (T.setTop (mkF m pc Ls (.int j :: .ref a :: rest))) := by
  subst hp hv
  obtain ⟨cl, A, r1, r2, r3⟩ := A
  obtain ⟨q1, q2⟩ := in_of r1 hj h0 h1
  exact Go.st (fun t k => X.caload hx (j := j) (v := f i) (by rw [eT]; exact A.1) (State.isArrayOf_alike hZ.alike A.2.1) A.2.2 q1 (by rw [q2, r3 _ (by omega)]; congr 2; omega) (g := mkF m pc Ls (.int j :: .ref a :: rest)) rfl rfl (hb hby hd) _ k) k
theorem Go.baload {j : Int32} (X : Stand p l e R s m args below meth c T locs cells slots) (hx : p.tables.exec = Jvm.exec) (hby : c.code = by_) (hZ : Z.Warmed39 s.vm) (eT : T.heap = h) (A : Ar Z h a .byte z f) (hd : decode by_ pc = .ok (.baload, 1)) (hp : pc + 1 = pc') (hj : j.toInt = i) (h0 : 0 ≤ i) (h1 : i < z) (hv : f i = v) (k : Go p e below P (T.setTop (mkF m pc' Ls (v :: rest)))) : Go p e below P (T.setTop (mkF m pc Ls (.int j :: .ref a :: rest))) := by
  subst hp hv
  obtain ⟨cl, A, r1, r2, r3⟩ := A
  obtain ⟨q1, q2⟩ := in_of r1 hj h0 h1
  exact Go.st (fun t k => X.baloadBytes hx (j := j) (v := f i) (by rw [eT]; exact A.1) (State.isArrayOf_alike hZ.alike A.2.1) A.2.2 q1 (by rw [q2, r3 _ (by omega)]; congr 2; omega) (g := mkF m pc Ls (.int j :: .ref a :: rest)) rfl rfl (hb hby hd) _ k) k
theorem Go.laload {j : Int32} (X : Stand p l e R s m args below meth c T locs cells slots) (hx : p.tables.exec = Jvm.exec) (hby : c.code = by_) (hZ : Z.Warmed39 s.vm) (eT : T.heap = h) (A : Ar Z h a .long z f) (hd : decode by_ pc = .ok (.laload, 1)) (hp : pc + 1 = pc') (hj : j.toInt = i) (h0 : 0 ≤ i) (h1 : i < z) (hv : f i = v) (k : Go p e below P (T.setTop (mkF m pc' Ls (v :: rest)))) : Go p e below P (T.setTop (mkF m pc Ls (.int j :: .ref a :: rest))) := by
  subst hp hv
  obtain ⟨cl, A, r1, r2, r3⟩ := A
  obtain ⟨q1, q2⟩ := in_of r1 hj h0 h1
  exact Go.st (fun t k => X.laload hx (j := j) (v := f i) (by rw [eT]; exact A.1) (State.isArrayOf_alike hZ.alike A.2.1) A.2.2 q1 (by rw [q2, r3 _ (by omega)]; congr 2; omega) (g := mkF m pc Ls (.int j :: .ref a :: rest)) rfl rfl (hb hby hd) _ k) k
theorem Go.saload {j : Int32} (X : Stand p l e R s m args below meth c T locs cells slots) (hx : p.tables.exec = Jvm.exec) (hby : c.code = by_) (hZ : Z.Warmed39 s.vm) (eT : T.heap = h) (A : Ar Z h a .short z f) (hd : decode by_ pc = .ok (.saload, 1)) (hp : pc + 1 = pc') (hj : j.toInt = i) (h0 : 0 ≤ i) (h1 : i < z) (hv : f i = v) (k : Go p e below P (T.setTop (mkF m pc' Ls (v :: rest)))) : Go p e below P (T.setTop (mkF m pc Ls (.int j :: .ref a :: rest))) := by
  subst hp hv
  obtain ⟨cl, A, r1, r2, r3⟩ := A
  obtain ⟨q1, q2⟩ := in_of r1 hj h0 h1
  exact Go.st (fun t k => X.saload hx (j := j) (v := f i) (by rw [eT]; exact A.1) (State.isArrayOf_alike hZ.alike A.2.1) A.2.2 q1 (by rw [q2, r3 _ (by omega)]; congr 2; omega) (g := mkF m pc Ls (.int j :: .ref a :: rest)) rfl rfl (hb hby hd) _ k) k
theorem Go.aaload {j : Int32} (X : Stand p l e R s m args below meth c T locs cells slots) (hx : p.tables.exec = Jvm.exec) (hby : c.code = by_) (hZ : Z.Warmed39 s.vm) (eT : T.heap = h) (A : Ar Z h a ty z f) (hty : ty.isReference = true) (hd : decode by_ pc = .ok (.aaload, 1)) (hp : pc + 1 = pc') (hj : j.toInt = i) (h0 : 0 ≤ i) (h1 : i < z) (hv : f i = v) (k : Go p e below P (T.setTop (mkF m pc' Ls (v :: rest)))) : Go p e below P (T.setTop (mkF m pc Ls (.int j :: .ref a :: rest))) := by
  subst hp hv
  obtain ⟨cl, A, r1, r2, r3⟩ := A
  obtain ⟨q1, q2⟩ := in_of r1 hj h0 h1
  exact Go.st (fun t k => X.aaload hx (j := j) (v := f i) (by rw [eT]; exact A.1) (State.isArrayOf_alike hZ.alike A.2.1) hty A.2.2 q1 (by rw [q2, r3 _ (by omega)]; congr 2; omega) (g := mkF m pc Ls (.int j :: .ref a :: rest)) rfl rfl (hb hby hd) _ k) k
theorem Go.iastore {j : Int32} {x : Int32} (X : Stand p l e R s m args below meth c T locs cells slots) (hx : p.tables.exec = Jvm.exec) (hby : c.code = by_) (hZ : Z.Warmed39 s.vm) (eT : T.heap = h) (A : Ar Z h a .int z f) (hd : decode by_ pc = .ok (.iastore, 1)) (hp : pc + 1 = pc') (hj : j.toInt = i) (h0 : 0 ≤ i) (h1 : i < z)
    (k : ∀ (T' : State) (h' : Heap), Stand p l e R s m args below meth c T' (locs ++ [⟨a, i.toNat⟩]) cells slots → T'.heap = h' → Wr h h' a i.toNat (.int x) → Ar Z h' a .int z (fun q => if q = i then (.int x) else f q) → Go p e below P (T'.setTop (mkF m pc' Ls rest))) : Go p e below P (T.setTop (mkF m pc Ls (.int x :: .int j :: .ref a :: rest))) := by
  subst hp
  have A0 := A
  obtain ⟨cl, A, r1, r2, r3⟩ := A
  obtain ⟨q1, q2⟩ := in_of r1 hj h0 h1
  obtain ⟨T', h', X', e', W', st⟩ := stI X hx hZ eT A (j := j) q1 (g := mkF m pc Ls (.int x :: .int j :: .ref a :: rest)) rfl rfl (hb hby hd)
  rw [q2] at X' W'
  exact Go.st st (k T' h' X' e' W' (A0.set W' h0))
theorem Go.castore {j : Int32} {x : Int32} (X : Stand p l e R s m args below meth c T locs cells slots) (hx : p.tables.exec = Jvm.exec) (hby : c.code = by_) (hZ : Z.Warmed39 s.vm) (eT : T.heap = h) (A : Ar Z h a .char z f) (hd : decode by_ pc = .ok (.castore, 1)) (hp : pc + 1 = pc') (hj : j.toInt = i) (h0 : 0 ≤ i) (h1 : i < z)
    (k : ∀ (T' : State) (h' : Heap), Stand p l e R s m args below meth c T' (locs ++ [⟨a, i.toNat⟩]) cells slots → T'.heap = h' → Wr h h' a i.toNat (.int (nar .char x)) → Ar Z h' a .char z (fun q => if q = i then (.int (nar .char x)) else f q) → Go p e below P (T'.setTop (mkF m pc' Ls rest))) : Go p e below P (T.setTop (mkF m pc Ls (.int x :: .int j :: .ref a :: rest))) := by
  subst hp
  have A0 := A
  obtain ⟨cl, A, r1, r2, r3⟩ := A
  obtain ⟨q1, q2⟩ := in_of r1 hj h0 h1
  obtain ⟨T', h', X', e', W', st⟩ := stC X hx hZ eT A (j := j) q1 (g := mkF m pc Ls (.int x :: .int j :: .ref a :: rest)) rfl rfl (hb hby hd)
  rw [q2] at X' W'
  exact Go.st st (k T' h' X' e' W' (A0.set W' h0))
theorem Go.bastore {j : Int32} {x : Int32} (X : Stand p l e R s m args below meth c T locs cells slots) (hx : p.tables.exec = Jvm.exec) (hby : c.code = by_) (hZ : Z.Warmed39 s.vm) (eT : T.heap = h) (A : Ar Z h a .byte z f) (hd : decode by_ pc = .ok (.bastore, 1)) (hp : pc + 1 = pc') (hj : j.toInt = i) (h0 : 0 ≤ i) (h1 : i < z)
    (k : ∀ (T' : State) (h' : Heap), Stand p l e R s m args below meth c T' (locs ++ [⟨a, i.toNat⟩]) cells slots → T'.heap = h' → Wr h h' a i.toNat (.int (nar .byte x)) → Ar Z h' a .byte z (fun q => if q = i then (.int (nar .byte x)) else f q) → Go p e below P (T'.setTop (mkF m pc' Ls rest))) : Go p e below P (T.setTop (mkF m pc Ls (.int x :: .int j :: .ref a :: rest))) := by
  subst hp
  have A0 := A
  obtain ⟨cl, A, r1, r2, r3⟩ := A
  obtain ⟨q1, q2⟩ := in_of r1 hj h0 h1
  obtain ⟨T', h', X', e', W', st⟩ := stB X hx hZ eT A (j := j) q1 (g := mkF m pc Ls (.int x :: .int j :: .ref a :: rest)) rfl rfl (hb hby hd)
  rw [q2] at X' W'
  exact Go.st st (k T' h' X' e' W' (A0.set W' h0))
theorem Go.lastore {j : Int32} {x : Int64} (X : Stand p l e R s m args below meth c T locs cells slots) (hx : p.tables.exec = Jvm.exec) (hby : c.code = by_) (hZ : Z.Warmed39 s.vm) (eT : T.heap = h) (A : Ar Z h a .long z f) (hd : decode by_ pc = .ok (.lastore, 1)) (hp : pc + 1 = pc') (hj : j.toInt = i) (h0 : 0 ≤ i) (h1 : i < z)
    (k : ∀ (T' : State) (h' : Heap), Stand p l e R s m args below meth c T' (locs ++ [⟨a, i.toNat⟩]) cells slots → T'.heap = h' → Wr h h' a i.toNat (.long x) → Ar Z h' a .long z (fun q => if q = i then (.long x) else f q) → Go p e below P (T'.setTop (mkF m pc' Ls rest))) : Go p e below P (T.setTop (mkF m pc Ls (.long x :: .int j :: .ref a :: rest))) := by
  subst hp
  have A0 := A
  obtain ⟨cl, A, r1, r2, r3⟩ := A
  obtain ⟨q1, q2⟩ := in_of r1 hj h0 h1
  obtain ⟨T', h', X', e', W', st⟩ := stJ X hx hZ eT A (j := j) q1 (g := mkF m pc Ls (.long x :: .int j :: .ref a :: rest)) rfl rfl (hb hby hd)
  rw [q2] at X' W'
  exact Go.st st (k T' h' X' e' W' (A0.set W' h0))
theorem Go.aastore {j : Int32} (X : Stand p l e R s m args below meth c T locs cells slots) (hx : p.tables.exec = Jvm.exec) (hby : c.code = by_) (hZ : Z.Warmed39 s.vm) (eT : T.heap = h) (A : Ar Z h a ty z f) (hty : ty.isReference = true) (F : Sto Z h a v) (hd : decode by_ pc = .ok (.aastore, 1)) (hp : pc + 1 = pc') (hj : j.toInt = i) (h0 : 0 ≤ i) (h1 : i < z)
    (k : ∀ (T' : State) (h' : Heap), Stand p l e R s m args below meth c T' (locs ++ [⟨a, i.toNat⟩]) cells slots → T'.heap = h' → Wr h h' a i.toNat v → Ar Z h' a ty z (fun q => if q = i then v else f q) → Go p e below P (T'.setTop (mkF m pc' Ls rest))) : Go p e below P (T.setTop (mkF m pc Ls (v :: .int j :: .ref a :: rest))) := by
  subst hp
  have A0 := A
  obtain ⟨cl, A, r1, r2, r3⟩ := A
  obtain ⟨q1, q2⟩ := in_of r1 hj h0 h1
  obtain ⟨T', h', X', e', W', st⟩ := stR X hx hZ eT A (j := j) q1 hty F (g := mkF m pc Ls (v :: .int j :: .ref a :: rest)) rfl rfl (hb hby hd)
  rw [q2] at X' W'
  exact Go.st st (k T' h' X' e' W' (A0.set W' h0))
theorem Go.newarr {aty : ArrayType} {n : Int32} {cap : Nat} (X : Stand p l e R s m args below meth c T locs cells slots) (hx : p.tables.exec = Jvm.exec) (hby : c.code = by_) (hZ : Z.Warmed39 s.vm) (w : (Jvm.Cond.arrayClass (newarray.typeOf aty)).before a0 Z = true) (eT : T.heap = h) (hd : decode by_ pc = .ok (.newarray aty, 2)) (hp : pc + 2 = pc') (hz : n.toInt = z) (h0 : 0 ≤ z) (hcap : z ≤ cap) (hb0 : cap * 8 ≤ 536870912) (hc : cells + 1 ≤ R.cells) (hl : slots + cap ≤ R.slots)
    (k : ∀ (b : Addr) (T' : State) (h' : Heap), b = h.size → Stand p l e R s m args below meth c T' locs (cells + 1) (slots + cap) → T'.heap = h' → Ext h h' → Ar Z h' b (newarray.typeOf aty) z (fun _ => defaultValue (newarray.typeOf aty)) → Go p e below P (T'.setTop (mkF m pc' Ls (.ref b :: rest)))) : Go p e below P (T.setTop (mkF m pc Ls (.int n :: rest))) := by
  subst hp
  obtain ⟨T', h', cA, X', e', E', A', st⟩ := newP X hx hZ w eT (g := mkF m pc Ls (.int n :: rest)) rfl (hb hby hd) rfl (by rw [Int32.lt_iff_toInt_lt, hz, show (0 : Int32).toInt = 0 from by decide]; omega) (cap := cap) (by simp only [Int32.toNatClampNeg, hz]; omega) hb0 hc hl
  exact Go.st st (k _ T' h' rfl X' e' E' (Ar.new A' hz h0))
theorem Go.new_ {own C : String} {index n : Nat} (X : Stand p l e R s m args below meth c T locs cells slots) (hx : p.tables.exec = Jvm.exec) (hby : c.code = by_) (hZ : Z.Warmed39 s.vm) (hown : s.vm.findClass own = some m.cls) (w : (Jvm.Cond.classLink own index C).before a0 Z = true) (wi : (Jvm.Cond.instantiable C n).before a0 Z = true) (wz : (Jvm.Cond.initialized C).before a0 Z = true) (eT : T.heap = h) (hd : decode by_ pc = .ok (.new index, 3)) (hp : pc + 3 = pc') (hc : cells + 1 ≤ R.cells) (hl : slots + n ≤ R.slots)
    (k : ∀ (b : Addr) (T' : State) (h' : Heap), b = h.size → Stand p l e R s m args below meth c T' locs (cells + 1) (slots + n) → T'.heap = h' → Ext h h' → Exa Z h' b C → (∀ {O nm d : String} {ty : FieldType}, Laid Z a0 C O nm d → parseFieldDescriptor d = some ty → Fld Z h' b O nm d (defaultValue ty)) → Go p e below P (T'.setTop (mkF m pc' Ls (.ref b :: rest)))) : Go p e below P (T.setTop (mkF m pc Ls rest)) := by
  subst hp
  obtain ⟨T', h', X', e', E', A', D', -, st⟩ := newO X hx hZ hown w wi wz eT (g := mkF m pc Ls rest) rfl (hb hby hd) hc hl
  exact Go.st st (k _ T' h' rfl X' e' E' A' D')
theorem Go.getF {own R0 O n d : String} {index : Nat} (X : Stand p l e R s m args below meth c T locs cells slots) (hx : p.tables.exec = Jvm.exec) (hby : c.code = by_) (hZ : Z.Warmed39 s.vm) (hown : s.vm.findClass own = some m.cls) (w : (Jvm.Cond.fieldLink own index R0 n d).before a0 Z = true) (via : Via Z R0 O n d) (eT : T.heap = h) (F : Fld Z h a O n d v) (hd : decode by_ pc = .ok (.getfield index, 3)) (hp : pc + 3 = pc')
    (k : ∀ T' : State, Stand p l e R s m args below meth c T' locs cells slots → T'.heap = h → Go p e below P (T'.setTop (mkF m pc' Ls (v :: rest)))) : Go p e below P (T.setTop (mkF m pc Ls (.ref a :: rest))) := by
  subst hp
  obtain ⟨T', X', e', st⟩ := Jvm.RoadKit.getF X hx hZ hown (host := "") (Or.inl w) via eT F (g := mkF m pc Ls (.ref a :: rest)) rfl rfl (hb hby hd)
  exact Go.st st (k T' X' e')
theorem Go.getSt {own R0 O n d : String} {index : Nat} (X : Stand p l e R s m args below meth c T locs cells slots) (hx : p.tables.exec = Jvm.exec) (hby : c.code = by_) (hZ : Z.Warmed39 s.vm) (hown : s.vm.findClass own = some m.cls) (w : (Jvm.Cond.fieldLink own index R0 n d).before a0 Z = true) (via : Via Z R0 O n d) (eT : T.heap = h) (F : Sta Z h O n d v) (hd : decode by_ pc = .ok (.getstatic index, 3)) (hp : pc + 3 = pc')
    (k : ∀ T' : State, Stand p l e R s m args below meth c T' locs cells slots → T'.heap = h → Go p e below P (T'.setTop (mkF m pc' Ls (v :: rest)))) : Go p e below P (T.setTop (mkF m pc Ls rest)) := by
  subst hp
  obtain ⟨T', X', e', st⟩ := Jvm.RoadKit.getS X hx hZ (host := "") hown w via eT F (g := mkF m pc Ls rest) rfl (hb hby hd)
  exact Go.st st (k T' X' e')
theorem Go.putF {own R0 O n d C : String} {index kk : Nat} {old : Value} (X : Stand p l e R s m args below meth c T locs cells slots) (hx : p.tables.exec = Jvm.exec) (hby : c.code = by_) (hZ : Z.Warmed39 s.vm) (hown : s.vm.findClass own = some m.cls) (w : (Jvm.Cond.fieldLink own index R0 n d).before a0 Z = true) (via : Via Z R0 O n d) (eT : T.heap = h) (F : Fld Z h a O n d old) (E : Exa Z h a C) (L : (Jvm.Cond.lays C O n d).before a0 Z = true ∨ ((Jvm.Cond.laysFinal C O n d).before a0 Z = true ∧ own = O ∧ meth.name = "<init>")) (wi : (Jvm.Cond.instantiable C kk).before a0 Z = true)
    (hty : parseFieldDescriptor d = some ty) (hn : narrow ty v = v) (hf : fits ty v = true) (hd : decode by_ pc = .ok (.putfield index, 3)) (hp : pc + 3 = pc')
    (k : ∀ (T' : State) (h' : Heap), Stand p l e R s m args below meth c T' (locs ++ [⟨a, slotOf Z O n d⟩]) cells slots → T'.heap = h' → Wr h h' a (slotOf Z O n d) v → Go p e below P (T'.setTop (mkF m pc' Ls rest))) : Go p e below P (T.setTop (mkF m pc Ls (v :: .ref a :: rest))) := by
  subst hp
  obtain ⟨T', h', X', e', W', st⟩ := Jvm.RoadKit.putF X hx hZ hown (host := "") (Or.inl w) via eT F E L wi hty hn hf (g := mkF m pc Ls (v :: .ref a :: rest)) rfl rfl (hb hby hd)
  exact Go.st st (k T' h' X' e' W')
theorem Go.initO {own : String} {idx W : Nat} (X : Stand p l e R s m args below meth c T locs cells slots) (hx : p.tables.exec = Jvm.exec) (hby : c.code = by_) (hZ : Z.Warmed39 s.vm) (hown : s.vm.findClass own = some m.cls) (w1 : (Jvm.Cond.methodLink own idx Lib.objectInit).before a0 Z = true) (w2 : (Jvm.Cond.instanceMethod Lib.objectInit).before a0 Z = true) (w3 : (Jvm.Cond.code Lib.objectInit ⟨#[0xb1]⟩ 1 none).before a0 Z = true) (eT : T.heap = h) (hsize : Ls.size = c.maxLocals) (hd : decode by_ pc = .ok (.invokespecial idx, 3)) (hp : pc + 3 = pc') (hf : 1 ≤ R.frames) (hW : 0 + (rest.map fun v => v.category).sum ≤ W) (hl : W + 12 ≤ R.locals)
    (k : ∀ T' : State, Stand p l e R s m args below meth c T' locs cells slots → T'.heap = h → Go p e below P (T'.setTop (mkF m pc' Ls rest))) : Go p e below P (T.setTop (mkF m pc Ls (.ref a :: rest))) := by
  subst hp
  obtain ⟨T', X', e', st⟩ := Jvm.RoadKit.initO X hx hZ hown w1 w2 w3 eT (g := mkF m pc Ls (.ref a :: rest)) rfl hsize rfl (hb hby hd) hf (W := W) hW hl
  exact Go.st st (k T' X' e')
theorem Fr.one {n : Nat} (q : n ≤ a) : Fr n [⟨a, sl⟩] := fun y hy => by cases List.mem_singleton.mp hy; exact q
end OwnHeap

end Jvm.RoadKit
namespace Jvm.Pilot.@@N@@
open Jvm Jvm.ClassFile Sem Op Lib Jvm.Free Jvm.Stand Jvm.LawKit Jvm.RoadKit Bundle Jvm.Pilot.@@N@@.Jvm.D
abbrev own_us (x k : Int32) : Int32 := (x.toUInt32 >>> (k &&& 31).toUInt32).toInt32
def own_dr (x : Int32) : Int32 := if x &&& 256 ≠ 0 then (if own_us x 9 &&& 7 ≠ 0 then (if own_us x 9 &&& 7 ≠ 1 then (if own_us x 9 &&& 7 ≠ 2 then (if own_us x 9 &&& 7 ≠ 3 then (if own_us x 9 &&& 7 ≠ 4 then (if own_us x 9 &&& 7 ≠ 5 then (if own_us x 9 &&& 7 ≠ 6 then 35 else 45) else 43) else 9) else 10) else 13) else 34) else 44) else x.toInt8.toInt32
theorem own_b8 (x : Int32) : nar .byte (x.toInt8.toInt32) = x.toInt8.toInt32 := by
  show (x.toInt8.toInt32).toInt8.toInt32 = _
  rw [Int8.toInt8_toInt32]
theorem own_nd (x : Int32) : nar .byte (own_dr x) = own_dr x := by
  unfold own_dr
  repeat' split
  all_goals first | exact own_b8 x | rfl
def own_sp (b : Int32) : Int32 := if b = 44 then 1 else if b = 34 then 1 else if b = 13 then 1 else if b ≠ 10 then 0 else 1
theorem own_ns (x : Int32) : nar .boolean (own_sp x) = own_sp x := by unfold own_sp; repeat' split
                                                                      all_goals rfl
def own_g (a b c d : Int32) (q : Int) : Int32 := if q = 0 then a else if q = 1 then b else if q = 2 then c else d
theorem own_n5 (x : Int32) : ((x &&& 2147483647) % 5) = 0 ∨ ((x &&& 2147483647) % 5) = 1 ∨ ((x &&& 2147483647) % 5) = 2 ∨ ((x &&& 2147483647) % 5) = 3 ∨ ((x &&& 2147483647) % 5) = 4 := by
  have e := c_mask x 2147483647 31 (by decide) (by decide)
  have q := (c_irem (x &&& 2147483647) 5 5 (by decide)).1 (by omega)
  have r : ((x &&& 2147483647) % 5).toInt = 0 ∨ ((x &&& 2147483647) % 5).toInt = 1 ∨ ((x &&& 2147483647) % 5).toInt = 2 ∨ ((x &&& 2147483647) % 5).toInt = 3 ∨ ((x &&& 2147483647) % 5).toInt = 4 := by omega
  rcases r with r | r | r | r | r
  · exact Or.inl (Int32.toInt_inj.mp (by rw [r]; decide))
  · exact Or.inr (Or.inl (Int32.toInt_inj.mp (by rw [r]; decide)))
  · exact Or.inr (Or.inr (Or.inl (Int32.toInt_inj.mp (by rw [r]; decide))))
  · exact Or.inr (Or.inr (Or.inr (Or.inl (Int32.toInt_inj.mp (by rw [r]; decide)))))
  · exact Or.inr (Or.inr (Or.inr (Or.inr (Int32.toInt_inj.mp (by rw [r]; decide)))))
/-- what needsQuotes answers over the values g of the first z places -/
def own_ans (g : Int → Int32) (z : Int) (r : Int32) : Prop := (r = 1 ∧ ∃ j, 0 ≤ j ∧ j < z ∧ own_sp (g j) ≠ 0) ∨ (r = 0 ∧ ∀ j, 0 ≤ j → j < z → own_sp (g j) = 0)
theorem own_yes {g : Int → Int32} {z : Int} {r : Int32} (A : own_ans g z r) (j : Int) (h0 : 0 ≤ j) (h1 : j < z) (h : own_sp (g j) ≠ 0) : r = 1 := by
  rcases A with ⟨q, -⟩ | ⟨-, q⟩
  · exact q
  · exact absurd (q j h0 h1) h
theorem own_no {g : Int → Int32} {z : Int} {r : Int32} (A : own_ans g z r) (h : ∀ j, 0 ≤ j → j < z → own_sp (g j) = 0) : r = 0 := by
  rcases A with ⟨-, j, h0, h1, h2⟩ | ⟨q, -⟩
  · exact absurd (h j h0 h1) h2
  · exact q
theorem d1_0 : decode method_3_code 0 = .ok (.iload_n 0, 1) := by decide +kernel
theorem d1_1 : decode method_3_code 1 = .ok (.sipush 256, 3) := by decide +kernel
theorem d1_4 : decode method_3_code 4 = .ok (.iand, 1) := by decide +kernel
theorem d1_5 : decode method_3_code 5 = .ok (.ifCond .ne 6, 3) := by decide +kernel
theorem d1_8 : decode method_3_code 8 = .ok (.iload_n 0, 1) := by decide +kernel
theorem d1_9 : decode method_3_code 9 = .ok (.i2b, 1) := by decide +kernel
theorem d1_10 : decode method_3_code 10 = .ok (.ireturn, 1) := by decide +kernel
theorem d1_11 : decode method_3_code 11 = .ok (.iload_n 0, 1) := by decide +kernel
theorem d1_12 : decode method_3_code 12 = .ok (.bipush 9, 2) := by decide +kernel
theorem d1_14 : decode method_3_code 14 = .ok (.iushr, 1) := by decide +kernel
theorem d1_15 : decode method_3_code 15 = .ok (.bipush 7, 2) := by decide +kernel
theorem d1_17 : decode method_3_code 17 = .ok (.iand, 1) := by decide +kernel
theorem d1_18 : decode method_3_code 18 = .ok (.istore_n 1, 1) := by decide +kernel
theorem d1_19 : decode method_3_code 19 = .ok (.iload_n 1, 1) := by decide +kernel
theorem d1_20 : decode method_3_code 20 = .ok (.ifCond .ne 6, 3) := by decide +kernel
theorem d1_23 : decode method_3_code 23 = .ok (.bipush 44, 2) := by decide +kernel
theorem d1_25 : decode method_3_code 25 = .ok (.ireturn, 1) := by decide +kernel
theorem d1_26 : decode method_3_code 26 = .ok (.iload_n 1, 1) := by decide +kernel
theorem d1_27 : decode method_3_code 27 = .ok (.iconst 1, 1) := by decide +kernel
theorem d1_28 : decode method_3_code 28 = .ok (.if_icmp .ne 6, 3) := by decide +kernel
theorem d1_31 : decode method_3_code 31 = .ok (.bipush 34, 2) := by decide +kernel
theorem d1_33 : decode method_3_code 33 = .ok (.ireturn, 1) := by decide +kernel
theorem d1_34 : decode method_3_code 34 = .ok (.iload_n 1, 1) := by decide +kernel
theorem d1_35 : decode method_3_code 35 = .ok (.iconst 2, 1) := by decide +kernel
theorem d1_36 : decode method_3_code 36 = .ok (.if_icmp .ne 6, 3) := by decide +kernel
theorem d1_39 : decode method_3_code 39 = .ok (.bipush 13, 2) := by decide +kernel
theorem d1_41 : decode method_3_code 41 = .ok (.ireturn, 1) := by decide +kernel
theorem d1_42 : decode method_3_code 42 = .ok (.iload_n 1, 1) := by decide +kernel
theorem d1_43 : decode method_3_code 43 = .ok (.iconst 3, 1) := by decide +kernel
theorem d1_44 : decode method_3_code 44 = .ok (.if_icmp .ne 6, 3) := by decide +kernel
theorem d1_47 : decode method_3_code 47 = .ok (.bipush 10, 2) := by decide +kernel
theorem d1_49 : decode method_3_code 49 = .ok (.ireturn, 1) := by decide +kernel
theorem d1_50 : decode method_3_code 50 = .ok (.iload_n 1, 1) := by decide +kernel
theorem d1_51 : decode method_3_code 51 = .ok (.iconst 4, 1) := by decide +kernel
theorem d1_52 : decode method_3_code 52 = .ok (.if_icmp .ne 6, 3) := by decide +kernel
theorem d1_55 : decode method_3_code 55 = .ok (.bipush 9, 2) := by decide +kernel
theorem d1_57 : decode method_3_code 57 = .ok (.ireturn, 1) := by decide +kernel
theorem d1_58 : decode method_3_code 58 = .ok (.iload_n 1, 1) := by decide +kernel
theorem d1_59 : decode method_3_code 59 = .ok (.iconst 5, 1) := by decide +kernel
theorem d1_60 : decode method_3_code 60 = .ok (.if_icmp .ne 6, 3) := by decide +kernel
theorem d1_63 : decode method_3_code 63 = .ok (.bipush 43, 2) := by decide +kernel
theorem d1_65 : decode method_3_code 65 = .ok (.ireturn, 1) := by decide +kernel
theorem d1_66 : decode method_3_code 66 = .ok (.iload_n 1, 1) := by decide +kernel
theorem d1_67 : decode method_3_code 67 = .ok (.bipush 6, 2) := by decide +kernel
theorem d1_69 : decode method_3_code 69 = .ok (.if_icmp .ne 6, 3) := by decide +kernel
theorem d1_72 : decode method_3_code 72 = .ok (.bipush 45, 2) := by decide +kernel
theorem d1_74 : decode method_3_code 74 = .ok (.ireturn, 1) := by decide +kernel
theorem d1_75 : decode method_3_code 75 = .ok (.bipush 35, 2) := by decide +kernel
theorem d1_77 : decode method_3_code 77 = .ok (.ireturn, 1) := by decide +kernel
theorem ef_1 (m : MethodId) (x0 : Int32) : entryFrame m #[(.int x0)] 2 = mkF m 0 #[.val (.int x0), .unset] [] := by first | (simp [entryFrame, mkF, argsToLocals, Value.category]; done) | rfl
theorem pn_CsvRecordsNeedsQuotesPinLaw : plainName "com/example/tame_recursion/tamerecursion/io/CsvRecordsNeedsQuotesPinLaw" = true := by first | (simp [plainName, overriddenIn]; done) | decide +kernel
set_option maxRecDepth 65536 in
set_option maxHeartbeats 40000000 in
theorem rmD (l : Launch) (Z : State) (a0 : Array Value) (hw : ∀ d ∈ tables_1, d.before a0 Z = true) (x0 : Int32) (h0 : Heap) :
    Con l Z (⟨"com/example/tame_recursion/tamerecursion/io/CsvRecordsNeedsQuotesPinLaw", "draw", "(I)B"⟩ : MethodName) method_3_code 2 (some .byte) [] ({ frames := 0, cells := 0, slots := 0, locals := 0 } : Room) #[(.int x0)] h0 (PQ (some (.int (own_dr x0))) h0) := by
  refine Con.of (plainFor_of_name pn_CsvRecordsNeedsQuotesPinLaw) ?_
  intro p e s m below meth c s₁ hx hby hml hown hnm hret hlk hZ X0 e0
  refine Go.cast (ef_1 m x0) ?_
  replace hown : s.vm.findClass "com/example/tame_recursion/tamerecursion/io/CsvRecordsNeedsQuotesPinLaw" = some m.cls := hown
  refine Go.iloadN (pc' := 1) X0 hx hby d1_0 rfl rfl ?_
  refine Go.sipush (pc' := 4) X0 hx hby d1_1 rfl (v := (256 : Int32)) (by decide) ?_
  refine Go.iand (pc' := 5) X0 hx hby d1_4 rfl ?_
  refine Go.if_ (pc' := 11) (pn := 8) X0 hx hby d1_5 (by decide) (by decide) rfl (fun (c1 : (x0 &&& (256 : Int32)) ≠ 0) => ?_) (fun (c1 : ¬ ((x0 &&& (256 : Int32)) ≠ 0)) => ?_)
  ·
    refine Go.iloadN (pc' := 12) X0 hx hby d1_11 rfl rfl ?_
    refine Go.bipush (pc' := 14) X0 hx hby d1_12 rfl (v := (9 : Int32)) (by decide) ?_
    refine Go.iushr (pc' := 15) X0 hx hby d1_14 rfl ?_
    refine Go.bipush (pc' := 17) X0 hx hby d1_15 rfl (v := (7 : Int32)) (by decide) ?_
    refine Go.iand (pc' := 18) X0 hx hby d1_17 rfl ?_
    refine Go.istoreN (Ls' := #[.val (.int x0), .val (.int (((x0.toUInt32 >>> ((9 : Int32) &&& 31).toUInt32).toInt32) &&& (7 : Int32)))]) (pc' := 19) X0 hx hby d1_18 rfl rfl ?_
    refine Go.iloadN (pc' := 20) X0 hx hby d1_19 rfl rfl ?_
    refine Go.if_ (pc' := 26) (pn := 23) X0 hx hby d1_20 (by decide) (by decide) rfl (fun (c2 : (((x0.toUInt32 >>> ((9 : Int32) &&& 31).toUInt32).toInt32) &&& (7 : Int32)) ≠ 0) => ?_) (fun (c2 : ¬ ((((x0.toUInt32 >>> ((9 : Int32) &&& 31).toUInt32).toInt32) &&& (7 : Int32)) ≠ 0)) => ?_)
    ·
      refine Go.iloadN (pc' := 27) X0 hx hby d1_26 rfl rfl ?_
      refine Go.iconst (pc' := 28) X0 hx hby d1_27 rfl (v := (1 : Int32)) (by decide) ?_
      refine Go.icmp (pc' := 34) (pn := 31) X0 hx hby d1_28 (by decide) (by decide) rfl (fun (c3 : (((x0.toUInt32 >>> ((9 : Int32) &&& 31).toUInt32).toInt32) &&& (7 : Int32)) ≠ (1 : Int32)) => ?_) (fun (c3 : ¬ ((((x0.toUInt32 >>> ((9 : Int32) &&& 31).toUInt32).toInt32) &&& (7 : Int32)) ≠ (1 : Int32))) => ?_)
      ·
        refine Go.iloadN (pc' := 35) X0 hx hby d1_34 rfl rfl ?_
        refine Go.iconst (pc' := 36) X0 hx hby d1_35 rfl (v := (2 : Int32)) (by decide) ?_
        refine Go.icmp (pc' := 42) (pn := 39) X0 hx hby d1_36 (by decide) (by decide) rfl (fun (c4 : (((x0.toUInt32 >>> ((9 : Int32) &&& 31).toUInt32).toInt32) &&& (7 : Int32)) ≠ (2 : Int32)) => ?_) (fun (c4 : ¬ ((((x0.toUInt32 >>> ((9 : Int32) &&& 31).toUInt32).toInt32) &&& (7 : Int32)) ≠ (2 : Int32))) => ?_)
        ·
          refine Go.iloadN (pc' := 43) X0 hx hby d1_42 rfl rfl ?_
          refine Go.iconst (pc' := 44) X0 hx hby d1_43 rfl (v := (3 : Int32)) (by decide) ?_
          refine Go.icmp (pc' := 50) (pn := 47) X0 hx hby d1_44 (by decide) (by decide) rfl (fun (c5 : (((x0.toUInt32 >>> ((9 : Int32) &&& 31).toUInt32).toInt32) &&& (7 : Int32)) ≠ (3 : Int32)) => ?_) (fun (c5 : ¬ ((((x0.toUInt32 >>> ((9 : Int32) &&& 31).toUInt32).toInt32) &&& (7 : Int32)) ≠ (3 : Int32))) => ?_)
          ·
            refine Go.iloadN (pc' := 51) X0 hx hby d1_50 rfl rfl ?_
            refine Go.iconst (pc' := 52) X0 hx hby d1_51 rfl (v := (4 : Int32)) (by decide) ?_
            refine Go.icmp (pc' := 58) (pn := 55) X0 hx hby d1_52 (by decide) (by decide) rfl (fun (c6 : (((x0.toUInt32 >>> ((9 : Int32) &&& 31).toUInt32).toInt32) &&& (7 : Int32)) ≠ (4 : Int32)) => ?_) (fun (c6 : ¬ ((((x0.toUInt32 >>> ((9 : Int32) &&& 31).toUInt32).toInt32) &&& (7 : Int32)) ≠ (4 : Int32))) => ?_)
            ·
              refine Go.iloadN (pc' := 59) X0 hx hby d1_58 rfl rfl ?_
              refine Go.iconst (pc' := 60) X0 hx hby d1_59 rfl (v := (5 : Int32)) (by decide) ?_
              refine Go.icmp (pc' := 66) (pn := 63) X0 hx hby d1_60 (by decide) (by decide) rfl (fun (c7 : (((x0.toUInt32 >>> ((9 : Int32) &&& 31).toUInt32).toInt32) &&& (7 : Int32)) ≠ (5 : Int32)) => ?_) (fun (c7 : ¬ ((((x0.toUInt32 >>> ((9 : Int32) &&& 31).toUInt32).toInt32) &&& (7 : Int32)) ≠ (5 : Int32))) => ?_)
              ·
                refine Go.iloadN (pc' := 67) X0 hx hby d1_66 rfl rfl ?_
                refine Go.bipush (pc' := 69) X0 hx hby d1_67 rfl (v := (6 : Int32)) (by decide) ?_
                refine Go.icmp (pc' := 75) (pn := 72) X0 hx hby d1_69 (by decide) (by decide) rfl (fun (c8 : (((x0.toUInt32 >>> ((9 : Int32) &&& 31).toUInt32).toInt32) &&& (7 : Int32)) ≠ (6 : Int32)) => ?_) (fun (c8 : ¬ ((((x0.toUInt32 >>> ((9 : Int32) &&& 31).toUInt32).toInt32) &&& (7 : Int32)) ≠ (6 : Int32))) => ?_)
                ·
                  refine Go.bipush (pc' := 77) X0 hx hby d1_75 rfl (v := (35 : Int32)) (by decide) ?_
                  have g : own_dr x0 = (35 : Int32) := by simp only [own_dr]; rw [if_pos c1, if_pos c2, if_pos c3, if_pos c4, if_pos c5, if_pos c6, if_pos c7, if_pos c8]
                  exact Go.retZ X0 hx hby hlk hret (by simp) d1_77 (by decide) (by decide) ⟨by rw [← g, own_nd], rfl, e0⟩
                ·
                  refine Go.bipush (pc' := 74) X0 hx hby d1_72 rfl (v := (45 : Int32)) (by decide) ?_
                  have g : own_dr x0 = (45 : Int32) := by simp only [own_dr]; rw [if_pos c1, if_pos c2, if_pos c3, if_pos c4, if_pos c5, if_pos c6, if_pos c7, if_neg c8]
                  exact Go.retZ X0 hx hby hlk hret (by simp) d1_74 (by decide) (by decide) ⟨by rw [← g, own_nd], rfl, e0⟩
              ·
                refine Go.bipush (pc' := 65) X0 hx hby d1_63 rfl (v := (43 : Int32)) (by decide) ?_
                have g : own_dr x0 = (43 : Int32) := by simp only [own_dr]; rw [if_pos c1, if_pos c2, if_pos c3, if_pos c4, if_pos c5, if_pos c6, if_neg c7]
                exact Go.retZ X0 hx hby hlk hret (by simp) d1_65 (by decide) (by decide) ⟨by rw [← g, own_nd], rfl, e0⟩
            ·
              refine Go.bipush (pc' := 57) X0 hx hby d1_55 rfl (v := (9 : Int32)) (by decide) ?_
              have g : own_dr x0 = (9 : Int32) := by simp only [own_dr]; rw [if_pos c1, if_pos c2, if_pos c3, if_pos c4, if_pos c5, if_neg c6]
              exact Go.retZ X0 hx hby hlk hret (by simp) d1_57 (by decide) (by decide) ⟨by rw [← g, own_nd], rfl, e0⟩
          ·
            refine Go.bipush (pc' := 49) X0 hx hby d1_47 rfl (v := (10 : Int32)) (by decide) ?_
            have g : own_dr x0 = (10 : Int32) := by simp only [own_dr]; rw [if_pos c1, if_pos c2, if_pos c3, if_pos c4, if_neg c5]
            exact Go.retZ X0 hx hby hlk hret (by simp) d1_49 (by decide) (by decide) ⟨by rw [← g, own_nd], rfl, e0⟩
        ·
          refine Go.bipush (pc' := 41) X0 hx hby d1_39 rfl (v := (13 : Int32)) (by decide) ?_
          have g : own_dr x0 = (13 : Int32) := by simp only [own_dr]; rw [if_pos c1, if_pos c2, if_pos c3, if_neg c4]
          exact Go.retZ X0 hx hby hlk hret (by simp) d1_41 (by decide) (by decide) ⟨by rw [← g, own_nd], rfl, e0⟩
      ·
        refine Go.bipush (pc' := 33) X0 hx hby d1_31 rfl (v := (34 : Int32)) (by decide) ?_
        have g : own_dr x0 = (34 : Int32) := by simp only [own_dr]; rw [if_pos c1, if_pos c2, if_neg c3]
        exact Go.retZ X0 hx hby hlk hret (by simp) d1_33 (by decide) (by decide) ⟨by rw [← g, own_nd], rfl, e0⟩
    ·
      refine Go.bipush (pc' := 25) X0 hx hby d1_23 rfl (v := (44 : Int32)) (by decide) ?_
      have g : own_dr x0 = (44 : Int32) := by simp only [own_dr]; rw [if_pos c1, if_neg c2]
      exact Go.retZ X0 hx hby hlk hret (by simp) d1_25 (by decide) (by decide) ⟨by rw [← g, own_nd], rfl, e0⟩
  ·
    refine Go.iloadN (pc' := 9) X0 hx hby d1_8 rfl rfl ?_
    refine Go.i2b (pc' := 10) X0 hx hby d1_9 rfl ?_
    have g : own_dr x0 = x0.toInt8.toInt32 := by simp only [own_dr]; rw [if_neg c1]
    exact Go.retZ X0 hx hby hlk hret (by simp) d1_10 (by decide) (by decide) ⟨by rw [← g, own_nd], rfl, e0⟩
theorem d3_0 : decode method_4_code 0 = .ok (.iload_n 0, 1) := by decide +kernel
theorem d3_1 : decode method_4_code 1 = .ok (.bipush 44, 2) := by decide +kernel
theorem d3_3 : decode method_4_code 3 = .ok (.if_icmp .eq 21, 3) := by decide +kernel
theorem d3_6 : decode method_4_code 6 = .ok (.iload_n 0, 1) := by decide +kernel
theorem d3_7 : decode method_4_code 7 = .ok (.bipush 34, 2) := by decide +kernel
theorem d3_9 : decode method_4_code 9 = .ok (.if_icmp .eq 15, 3) := by decide +kernel
theorem d3_12 : decode method_4_code 12 = .ok (.iload_n 0, 1) := by decide +kernel
theorem d3_13 : decode method_4_code 13 = .ok (.bipush 13, 2) := by decide +kernel
theorem d3_15 : decode method_4_code 15 = .ok (.if_icmp .eq 9, 3) := by decide +kernel
theorem d3_18 : decode method_4_code 18 = .ok (.iload_n 0, 1) := by decide +kernel
theorem d3_19 : decode method_4_code 19 = .ok (.bipush 10, 2) := by decide +kernel
theorem d3_21 : decode method_4_code 21 = .ok (.if_icmp .ne 7, 3) := by decide +kernel
theorem d3_24 : decode method_4_code 24 = .ok (.iconst 1, 1) := by decide +kernel
theorem d3_25 : decode method_4_code 25 = .ok (.goto 4, 3) := by decide +kernel
theorem d3_28 : decode method_4_code 28 = .ok (.iconst 0, 1) := by decide +kernel
theorem d3_29 : decode method_4_code 29 = .ok (.ireturn, 1) := by decide +kernel
theorem ef_3 (m : MethodId) (x0 : Int32) : entryFrame m #[(.int x0)] 1 = mkF m 0 #[.val (.int x0)] [] := by first | (simp [entryFrame, mkF, argsToLocals, Value.category]; done) | rfl
set_option maxRecDepth 65536 in
set_option maxHeartbeats 40000000 in
theorem rmS (l : Launch) (Z : State) (a0 : Array Value) (hw : ∀ d ∈ tables_1, d.before a0 Z = true) (x0 : Int32) (h0 : Heap) :
    Con l Z (⟨"com/example/tame_recursion/tamerecursion/io/CsvRecordsNeedsQuotesPinLaw", "special", "(B)Z"⟩ : MethodName) method_4_code 1 (some .boolean) [] ({ frames := 0, cells := 0, slots := 0, locals := 0 } : Room) #[(.int x0)] h0 (PQ (some (.int (own_sp x0))) h0) := by
  refine Con.of (plainFor_of_name pn_CsvRecordsNeedsQuotesPinLaw) ?_
  intro p e s m below meth c s₁ hx hby hml hown hnm hret hlk hZ X0 e0
  refine Go.cast (ef_3 m x0) ?_
  replace hown : s.vm.findClass "com/example/tame_recursion/tamerecursion/io/CsvRecordsNeedsQuotesPinLaw" = some m.cls := hown
  refine Go.iloadN (pc' := 1) X0 hx hby d3_0 rfl rfl ?_
  refine Go.bipush (pc' := 3) X0 hx hby d3_1 rfl (v := (44 : Int32)) (by decide) ?_
  refine Go.icmp (pc' := 24) (pn := 6) X0 hx hby d3_3 (by decide) (by decide) rfl (fun (c1 : x0 = (44 : Int32)) => ?_) (fun (c1 : ¬ (x0 = (44 : Int32))) => ?_)
  ·
    refine Go.iconst (pc' := 25) X0 hx hby d3_24 rfl (v := (1 : Int32)) (by decide) ?_
    refine Go.goto (pc' := 29) X0 hx hby d3_25 (by decide) (by decide) ?_
    have g : own_sp x0 = (1 : Int32) := by simp [own_sp, c1]
    exact Go.retZ X0 hx hby hlk hret (by simp) d3_29 (by decide) (by decide) ⟨by rw [← g, own_ns], rfl, e0⟩
  ·
    refine Go.iloadN (pc' := 7) X0 hx hby d3_6 rfl rfl ?_
    refine Go.bipush (pc' := 9) X0 hx hby d3_7 rfl (v := (34 : Int32)) (by decide) ?_
    refine Go.icmp (pc' := 24) (pn := 12) X0 hx hby d3_9 (by decide) (by decide) rfl (fun (c2 : x0 = (34 : Int32)) => ?_) (fun (c2 : ¬ (x0 = (34 : Int32))) => ?_)
    ·
      refine Go.iconst (pc' := 25) X0 hx hby d3_24 rfl (v := (1 : Int32)) (by decide) ?_
      refine Go.goto (pc' := 29) X0 hx hby d3_25 (by decide) (by decide) ?_
      have g : own_sp x0 = (1 : Int32) := by simp [own_sp, c1, c2]
      exact Go.retZ X0 hx hby hlk hret (by simp) d3_29 (by decide) (by decide) ⟨by rw [← g, own_ns], rfl, e0⟩
    ·
      refine Go.iloadN (pc' := 13) X0 hx hby d3_12 rfl rfl ?_
      refine Go.bipush (pc' := 15) X0 hx hby d3_13 rfl (v := (13 : Int32)) (by decide) ?_
      refine Go.icmp (pc' := 24) (pn := 18) X0 hx hby d3_15 (by decide) (by decide) rfl (fun (c3 : x0 = (13 : Int32)) => ?_) (fun (c3 : ¬ (x0 = (13 : Int32))) => ?_)
      ·
        refine Go.iconst (pc' := 25) X0 hx hby d3_24 rfl (v := (1 : Int32)) (by decide) ?_
        refine Go.goto (pc' := 29) X0 hx hby d3_25 (by decide) (by decide) ?_
        have g : own_sp x0 = (1 : Int32) := by simp [own_sp, c1, c2, c3]
        exact Go.retZ X0 hx hby hlk hret (by simp) d3_29 (by decide) (by decide) ⟨by rw [← g, own_ns], rfl, e0⟩
      ·
        refine Go.iloadN (pc' := 19) X0 hx hby d3_18 rfl rfl ?_
        refine Go.bipush (pc' := 21) X0 hx hby d3_19 rfl (v := (10 : Int32)) (by decide) ?_
        refine Go.icmp (pc' := 28) (pn := 24) X0 hx hby d3_21 (by decide) (by decide) rfl (fun (c4 : x0 ≠ (10 : Int32)) => ?_) (fun (c4 : ¬ (x0 ≠ (10 : Int32))) => ?_)
        ·
          refine Go.iconst (pc' := 29) X0 hx hby d3_28 rfl (v := (0 : Int32)) (by decide) ?_
          have g : own_sp x0 = (0 : Int32) := by simp [own_sp, c1, c2, c3, c4]
          exact Go.retZ X0 hx hby hlk hret (by simp) d3_29 (by decide) (by decide) ⟨by rw [← g, own_ns], rfl, e0⟩
        ·
          refine Go.iconst (pc' := 25) X0 hx hby d3_24 rfl (v := (1 : Int32)) (by decide) ?_
          refine Go.goto (pc' := 29) X0 hx hby d3_25 (by decide) (by decide) ?_
          have g : own_sp x0 = (1 : Int32) := by simp [own_sp, c1, c2, c3, c4]
          exact Go.retZ X0 hx hby hlk hret (by simp) d3_29 (by decide) (by decide) ⟨by rw [← g, own_ns], rfl, e0⟩
theorem d2_0 : decode prog_41_method_3_code 0 = .ok (.aload_n 0, 1) := by decide +kernel
theorem d2_1 : decode prog_41_method_3_code 1 = .ok (.astore_n 1, 1) := by decide +kernel
theorem d2_2 : decode prog_41_method_3_code 2 = .ok (.aload_n 1, 1) := by decide +kernel
theorem d2_3 : decode prog_41_method_3_code 3 = .ok (.arraylength, 1) := by decide +kernel
theorem d2_4 : decode prog_41_method_3_code 4 = .ok (.istore_n 2, 1) := by decide +kernel
theorem d2_5 : decode prog_41_method_3_code 5 = .ok (.iconst 0, 1) := by decide +kernel
theorem d2_6 : decode prog_41_method_3_code 6 = .ok (.istore_n 3, 1) := by decide +kernel
theorem d2_7 : decode prog_41_method_3_code 7 = .ok (.iload_n 3, 1) := by decide +kernel
theorem d2_8 : decode prog_41_method_3_code 8 = .ok (.iload_n 2, 1) := by decide +kernel
theorem d2_9 : decode prog_41_method_3_code 9 = .ok (.if_icmp .ge 44, 3) := by decide +kernel
theorem d2_12 : decode prog_41_method_3_code 12 = .ok (.aload_n 1, 1) := by decide +kernel
theorem d2_13 : decode prog_41_method_3_code 13 = .ok (.iload_n 3, 1) := by decide +kernel
theorem d2_14 : decode prog_41_method_3_code 14 = .ok (.baload, 1) := by decide +kernel
theorem d2_15 : decode prog_41_method_3_code 15 = .ok (.istore 4, 2) := by decide +kernel
theorem d2_17 : decode prog_41_method_3_code 17 = .ok (.iload 4, 2) := by decide +kernel
theorem d2_19 : decode prog_41_method_3_code 19 = .ok (.bipush 44, 2) := by decide +kernel
theorem d2_21 : decode prog_41_method_3_code 21 = .ok (.if_icmp .eq 24, 3) := by decide +kernel
theorem d2_24 : decode prog_41_method_3_code 24 = .ok (.iload 4, 2) := by decide +kernel
theorem d2_26 : decode prog_41_method_3_code 26 = .ok (.bipush 34, 2) := by decide +kernel
theorem d2_28 : decode prog_41_method_3_code 28 = .ok (.if_icmp .eq 17, 3) := by decide +kernel
theorem d2_31 : decode prog_41_method_3_code 31 = .ok (.iload 4, 2) := by decide +kernel
theorem d2_33 : decode prog_41_method_3_code 33 = .ok (.bipush 13, 2) := by decide +kernel
theorem d2_35 : decode prog_41_method_3_code 35 = .ok (.if_icmp .eq 10, 3) := by decide +kernel
theorem d2_38 : decode prog_41_method_3_code 38 = .ok (.iload 4, 2) := by decide +kernel
theorem d2_40 : decode prog_41_method_3_code 40 = .ok (.bipush 10, 2) := by decide +kernel
theorem d2_42 : decode prog_41_method_3_code 42 = .ok (.if_icmp .ne 5, 3) := by decide +kernel
theorem d2_45 : decode prog_41_method_3_code 45 = .ok (.iconst 1, 1) := by decide +kernel
theorem d2_46 : decode prog_41_method_3_code 46 = .ok (.ireturn, 1) := by decide +kernel
theorem d2_47 : decode prog_41_method_3_code 47 = .ok (.iinc 3 1, 3) := by decide +kernel
theorem d2_50 : decode prog_41_method_3_code 50 = .ok (.goto (-43), 3) := by decide +kernel
theorem d2_53 : decode prog_41_method_3_code 53 = .ok (.iconst 0, 1) := by decide +kernel
theorem d2_54 : decode prog_41_method_3_code 54 = .ok (.ireturn, 1) := by decide +kernel
theorem ef_2 (m : MethodId) (x0 : Addr) : entryFrame m #[(.ref x0)] 5 = mkF m 0 #[.val (.ref x0), .unset, .unset, .unset, .unset] [] := by first | (simp [entryFrame, mkF, argsToLocals, Value.category]; done) | rfl
theorem pn_CsvRecords : plainName "com/example/tame_recursion/tamerecursion/io/CsvRecords" = true := by first | (simp [plainName, overriddenIn]; done) | decide +kernel
set_option maxRecDepth 65536 in
set_option maxHeartbeats 40000000 in
theorem rmN (l : Launch) (Z : State) (a0 : Array Value) (hw : ∀ d ∈ tables_1, d.before a0 Z = true) (a : Addr) (h0 : Heap) (z : Int32) (g : Int → Int32) (A0 : Ar Z h0 a .byte z.toInt (fun q => .int (g q))) :
    Con l Z (⟨"com/example/tame_recursion/tamerecursion/io/CsvRecords", "needsQuotes", "([B)Z"⟩ : MethodName) prog_41_method_3_code 5 (some .boolean) [] ({ frames := 0, cells := 0, slots := 0, locals := 0 } : Room) #[(.ref a)] h0 (fun v h L => ∃ r, v = some (.int r) ∧ own_ans g z.toInt r ∧ L = [] ∧ h = h0) := by
  refine Con.of (plainFor_of_name pn_CsvRecords) ?_
  intro p e s m below meth c s₁ hx hby hml hown hnm hret hlk hZ X0 e0
  refine Go.cast (ef_2 m a) ?_
  replace hown : s.vm.findClass "com/example/tame_recursion/tamerecursion/io/CsvRecords" = some m.cls := hown
  refine Go.aloadN (pc' := 1) X0 hx hby d2_0 rfl rfl rfl ?_
  refine Go.astoreN (Ls' := #[.val (.ref a), .val (.ref a), .unset, .unset, .unset]) (pc' := 2) X0 hx hby d2_1 rfl rfl rfl ?_
  refine Go.aloadN (pc' := 3) X0 hx hby d2_2 rfl rfl rfl ?_
  refine Go.alen (pc' := 4) (zv := z) X0 hx hby hZ e0 A0 d2_3 rfl rfl ?_
  refine Go.istoreN (Ls' := #[.val (.ref a), .val (.ref a), .val (.int z), .unset, .unset]) (pc' := 5) X0 hx hby d2_4 rfl rfl ?_
  refine Go.iconst (pc' := 6) X0 hx hby d2_5 rfl (v := (0 : Int32)) (by decide) ?_
  refine Go.istoreN (Ls' := #[.val (.ref a), .val (.ref a), .val (.int z), .val (.int (0 : Int32)), .unset]) (pc' := 7) X0 hx hby d2_6 rfl rfl ?_
  have hz := A0.bound
  refine Go.loop (α := Int32 × Slot) (F := fun y => s₁.setTop (mkF m 7 #[.val (.ref a), .val (.ref a), .val (.int z), .val (.int y.1), y.2] [])) (I := fun y => 0 ≤ y.1.toInt ∧ One y.2 ∧ ∀ j, 0 ≤ j → j < y.1.toInt → own_sp (g j) = 0) (μ := fun y => (z.toInt - y.1.toInt).toNat) ?_ (0, .unset) ⟨by decide, One.u, fun j h1 h2 => absurd (Int.lt_of_le_of_lt h1 h2) (by decide)⟩
  rintro ⟨i, s4⟩ ⟨hi, o4, hs⟩ ih
  dsimp only at hi o4 hs ih
  show Go p e below _ (s₁.setTop (mkF m 7 #[.val (.ref a), .val (.ref a), .val (.int z), .val (.int i), s4] []))
  refine Go.iloadN (pc' := 8) X0 hx hby d2_7 rfl rfl ?_
  refine Go.iloadN (pc' := 9) X0 hx hby d2_8 rfl rfl ?_
  refine Go.icmp (pc' := 53) (pn := 12) X0 hx hby d2_9 (by decide) (by decide) rfl (fun (cz : z ≤ i) => ?_) (fun (cz : ¬ (z ≤ i)) => ?_)
  ·
    rw [Int32.le_iff_toInt_le] at cz
    refine Go.iconst (pc' := 54) X0 hx hby d2_53 rfl (v := (0 : Int32)) (by decide) ?_
    exact Go.retZ X0 hx hby hlk hret (by simp) d2_54 (by decide) (by decide) ⟨0, rfl, Or.inr ⟨rfl, fun j h1 h2 => hs j h1 (by omega)⟩, rfl, e0⟩
  ·
    rw [Int32.le_iff_toInt_le] at cz
    refine Go.aloadN (pc' := 13) X0 hx hby d2_12 rfl rfl rfl ?_
    refine Go.iloadN (pc' := 14) X0 hx hby d2_13 rfl rfl ?_
    refine Go.baload (pc' := 15) (i := i.toInt) (v := (.int (g i.toInt))) X0 hx hby hZ e0 A0 d2_14 rfl rfl hi (by omega) rfl ?_
    refine Go.istore (Ls' := #[.val (.ref a), .val (.ref a), .val (.int z), .val (.int i), .val (.int (g i.toInt))]) (pc' := 17) X0 hx hby d2_15 rfl (XS.store1 rfl o4 rfl) ?_
    refine Go.iload (pc' := 19) X0 hx hby d2_17 rfl rfl ?_
    refine Go.bipush (pc' := 21) X0 hx hby d2_19 rfl (v := (44 : Int32)) (by decide) ?_
    refine Go.icmp (pc' := 45) (pn := 24) X0 hx hby d2_21 (by decide) (by decide) rfl (fun (c1 : (g i.toInt) = (44 : Int32)) => ?_) (fun (c1 : ¬ ((g i.toInt) = (44 : Int32))) => ?_)
    ·
      refine Go.iconst (pc' := 46) X0 hx hby d2_45 rfl (v := (1 : Int32)) (by decide) ?_
      have q : own_sp (g i.toInt) ≠ 0 := by simp [own_sp, c1]
      exact Go.retZ X0 hx hby hlk hret (by simp) d2_46 (by decide) (by decide) ⟨1, rfl, Or.inl ⟨rfl, i.toInt, hi, by omega, q⟩, rfl, e0⟩
    ·
      refine Go.iload (pc' := 26) X0 hx hby d2_24 rfl rfl ?_
      refine Go.bipush (pc' := 28) X0 hx hby d2_26 rfl (v := (34 : Int32)) (by decide) ?_
      refine Go.icmp (pc' := 45) (pn := 31) X0 hx hby d2_28 (by decide) (by decide) rfl (fun (c2 : (g i.toInt) = (34 : Int32)) => ?_) (fun (c2 : ¬ ((g i.toInt) = (34 : Int32))) => ?_)
      ·
        refine Go.iconst (pc' := 46) X0 hx hby d2_45 rfl (v := (1 : Int32)) (by decide) ?_
        have q : own_sp (g i.toInt) ≠ 0 := by simp [own_sp, c1, c2]
        exact Go.retZ X0 hx hby hlk hret (by simp) d2_46 (by decide) (by decide) ⟨1, rfl, Or.inl ⟨rfl, i.toInt, hi, by omega, q⟩, rfl, e0⟩
      ·
        refine Go.iload (pc' := 33) X0 hx hby d2_31 rfl rfl ?_
        refine Go.bipush (pc' := 35) X0 hx hby d2_33 rfl (v := (13 : Int32)) (by decide) ?_
        refine Go.icmp (pc' := 45) (pn := 38) X0 hx hby d2_35 (by decide) (by decide) rfl (fun (c3 : (g i.toInt) = (13 : Int32)) => ?_) (fun (c3 : ¬ ((g i.toInt) = (13 : Int32))) => ?_)
        ·
          refine Go.iconst (pc' := 46) X0 hx hby d2_45 rfl (v := (1 : Int32)) (by decide) ?_
          have q : own_sp (g i.toInt) ≠ 0 := by simp [own_sp, c1, c2, c3]
          exact Go.retZ X0 hx hby hlk hret (by simp) d2_46 (by decide) (by decide) ⟨1, rfl, Or.inl ⟨rfl, i.toInt, hi, by omega, q⟩, rfl, e0⟩
        ·
          refine Go.iload (pc' := 40) X0 hx hby d2_38 rfl rfl ?_
          refine Go.bipush (pc' := 42) X0 hx hby d2_40 rfl (v := (10 : Int32)) (by decide) ?_
          refine Go.icmp (pc' := 47) (pn := 45) X0 hx hby d2_42 (by decide) (by decide) rfl (fun (c4 : (g i.toInt) ≠ (10 : Int32)) => ?_) (fun (c4 : ¬ ((g i.toInt) ≠ (10 : Int32))) => ?_)
          ·
            refine Go.iinc (w := i + (1 : Int32)) (Ls' := #[.val (.ref a), .val (.ref a), .val (.int z), .val (.int (i + (1 : Int32))), .val (.int (g i.toInt))]) (pc' := 50) X0 hx hby d2_47 rfl rfl rfl rfl ?_
            refine Go.goto (pc' := 7) X0 hx hby d2_50 (by decide) (by decide) ?_
            have q : own_sp (g i.toInt) = 0 := by simp [own_sp, c1, c2, c3, c4]
            have e1 : (i + 1).toInt = i.toInt + 1 := by have q1 := c_iadd i 1; have q2 := rng32 (i + 1); rw [show (1 : Int32).toInt = 1 by decide] at q1; omega
            refine ih (i + 1, .val (.int (g i.toInt))) ⟨by dsimp only; omega, One.val rfl, fun j h1 h2 => ?_⟩ (by dsimp only; omega)
            dsimp only at h2
            by_cases hj : j = i.toInt
            · rw [hj]; exact q
            · exact hs j h1 (by omega)
          ·
            refine Go.iconst (pc' := 46) X0 hx hby d2_45 rfl (v := (1 : Int32)) (by decide) ?_
            have q : own_sp (g i.toInt) ≠ 0 := by simp [own_sp, c1, c2, c3, c4]
            exact Go.retZ X0 hx hby hlk hret (by simp) d2_46 (by decide) (by decide) ⟨1, rfl, Or.inl ⟨rfl, i.toInt, hi, by omega, q⟩, rfl, e0⟩
theorem pd_0 : parseMethodDescriptor "(I)B" = some ⟨[.int], some .byte⟩ := by decide +kernel
theorem pd_1 : parseMethodDescriptor "(B)Z" = some ⟨[.byte], some .boolean⟩ := by decide +kernel
theorem pd_2 : parseMethodDescriptor "([B)Z" = some ⟨[(.array .byte)], some .boolean⟩ := by decide +kernel
theorem ef_0 (m : MethodId) (x0 : Int32) (x1 : Int32) (x2 : Int32) (x3 : Int32) (x4 : Int32) : entryFrame m #[(.int x0), (.int x1), (.int x2), (.int x3), (.int x4)] maxLocals = mkF m 0 #[.val (.int x0), .val (.int x1), .val (.int x2), .val (.int x3), .val (.int x4), .unset, .unset, .unset, .unset, .unset, .unset, .unset] [] := by first | (simp [entryFrame, mkF, argsToLocals, Value.category, maxLocals]; done) | rfl
set_option maxRecDepth 65536 in
set_option maxHeartbeats 40000000 in
theorem rm0 (l : Launch) (Z : State) (a0 : Array Value) (hw : ∀ d ∈ tables_1, d.before a0 Z = true) (x0 : Int32) (x1 : Int32) (x2 : Int32) (x3 : Int32) (x4 : Int32) (h0 : Heap) :
    Con l Z x code maxLocals ret tables_1 room_1 #[(.int x0), (.int x1), (.int x2), (.int x3), (.int x4)] h0 (LQ h0.size) := by
  refine Con.of (plainFor_of_name pn_CsvRecordsNeedsQuotesPinLaw) ?_
  intro p e s m below meth c s₁ hx hby hml hown hnm hret hlk hZ X0 e0
  refine Go.cast (ef_0 m x0 x1 x2 x3 x4) ?_
  change c.maxLocals = 12 at hml
  replace hown : s.vm.findClass "com/example/tame_recursion/tamerecursion/io/CsvRecordsNeedsQuotesPinLaw" = some m.cls := hown
  refine Go.iloadN (pc' := 1) X0 hx hby at_0 rfl rfl ?_
  refine Go.ldcI (pc' := 3) X0 hx hby at_1 rfl hown (mvT hZ (hw _ (List.mem_of_getElem? (i := 0) rfl))) ?_
  refine Go.iand (pc' := 4) X0 hx hby at_3 rfl ?_
  refine Go.iconst (pc' := 5) X0 hx hby at_4 rfl (v := (5 : Int32)) (by decide) ?_
  refine Go.irem (pc' := 6) X0 hx hby at_5 rfl (by decide) ?_
  refine Go.nmI (fun (n : Int32) (hn : n = (x0 &&& (2147483647 : Int32)) % (5 : Int32)) => ?_)
  refine Go.istore (Ls' := #[.val (.int x0), .val (.int x1), .val (.int x2), .val (.int x3), .val (.int x4), .val (.int n), .unset, .unset, .unset, .unset, .unset, .unset]) (pc' := 8) X0 hx hby at_6 rfl rfl ?_
  refine Go.iloadN (pc' := 9) X0 hx hby at_8 rfl rfl ?_
  refine Go.callS (pc' := 12) (W := 0) (argsL := [(.int x1)]) (rest := []) X0 hx hby hZ hown (hw _ (List.mem_of_getElem? (i := 1) rfl)) (hw _ (List.mem_of_getElem? (i := 2) rfl)) (hw _ (List.mem_of_getElem? (i := 3) rfl)) (hw _ (List.mem_of_getElem? (i := 4) rfl)) (by decide) (rmD l Z a0 hw x1 h0) e0 (by decide) (by decide) (by rw [hml]; rfl) pd_0 rfl rfl rfl (Nat.le_of_eq rfl) at_9 rfl (by decide) (by decide) ?_
  rintro r1 T2 L3 X4 ⟨rfl, rfl, e6⟩
  rw [List.append_nil] at X4
  show Go p e below _ (T2.setTop (mkF m 12 #[.val (.int x0), .val (.int x1), .val (.int x2), .val (.int x3), .val (.int x4), .val (.int n), .unset, .unset, .unset, .unset, .unset, .unset] [(.int (own_dr x1))]))
  refine Go.istore (Ls' := #[.val (.int x0), .val (.int x1), .val (.int x2), .val (.int x3), .val (.int x4), .val (.int n), .val (.int (own_dr x1)), .unset, .unset, .unset, .unset, .unset]) (pc' := 14) X4 hx hby at_12 rfl rfl ?_
  refine Go.iloadN (pc' := 15) X4 hx hby at_14 rfl rfl ?_
  refine Go.callS (pc' := 18) (W := 0) (argsL := [(.int x2)]) (rest := []) X4 hx hby hZ hown (hw _ (List.mem_of_getElem? (i := 1) rfl)) (hw _ (List.mem_of_getElem? (i := 2) rfl)) (hw _ (List.mem_of_getElem? (i := 3) rfl)) (hw _ (List.mem_of_getElem? (i := 4) rfl)) (by decide) (rmD l Z a0 hw x2 h0) e6 (by decide) (by decide) (by rw [hml]; rfl) pd_0 rfl rfl rfl (Nat.le_of_eq rfl) at_15 rfl (by decide) (by decide) ?_
  rintro r7 T8 L9 X10 ⟨rfl, rfl, e12⟩
  rw [List.append_nil] at X10
  show Go p e below _ (T8.setTop (mkF m 18 #[.val (.int x0), .val (.int x1), .val (.int x2), .val (.int x3), .val (.int x4), .val (.int n), .val (.int (own_dr x1)), .unset, .unset, .unset, .unset, .unset] [(.int (own_dr x2))]))
  refine Go.istore (Ls' := #[.val (.int x0), .val (.int x1), .val (.int x2), .val (.int x3), .val (.int x4), .val (.int n), .val (.int (own_dr x1)), .val (.int (own_dr x2)), .unset, .unset, .unset, .unset]) (pc' := 20) X10 hx hby at_18 rfl rfl ?_
  refine Go.iloadN (pc' := 21) X10 hx hby at_20 rfl rfl ?_
  refine Go.callS (pc' := 24) (W := 0) (argsL := [(.int x3)]) (rest := []) X10 hx hby hZ hown (hw _ (List.mem_of_getElem? (i := 1) rfl)) (hw _ (List.mem_of_getElem? (i := 2) rfl)) (hw _ (List.mem_of_getElem? (i := 3) rfl)) (hw _ (List.mem_of_getElem? (i := 4) rfl)) (by decide) (rmD l Z a0 hw x3 h0) e12 (by decide) (by decide) (by rw [hml]; rfl) pd_0 rfl rfl rfl (Nat.le_of_eq rfl) at_21 rfl (by decide) (by decide) ?_
  rintro r13 T14 L15 X16 ⟨rfl, rfl, e18⟩
  rw [List.append_nil] at X16
  show Go p e below _ (T14.setTop (mkF m 24 #[.val (.int x0), .val (.int x1), .val (.int x2), .val (.int x3), .val (.int x4), .val (.int n), .val (.int (own_dr x1)), .val (.int (own_dr x2)), .unset, .unset, .unset, .unset] [(.int (own_dr x3))]))
  refine Go.istore (Ls' := #[.val (.int x0), .val (.int x1), .val (.int x2), .val (.int x3), .val (.int x4), .val (.int n), .val (.int (own_dr x1)), .val (.int (own_dr x2)), .val (.int (own_dr x3)), .unset, .unset, .unset]) (pc' := 26) X16 hx hby at_24 rfl rfl ?_
  refine Go.iload (pc' := 28) X16 hx hby at_26 rfl rfl ?_
  refine Go.callS (pc' := 31) (W := 0) (argsL := [(.int x4)]) (rest := []) X16 hx hby hZ hown (hw _ (List.mem_of_getElem? (i := 1) rfl)) (hw _ (List.mem_of_getElem? (i := 2) rfl)) (hw _ (List.mem_of_getElem? (i := 3) rfl)) (hw _ (List.mem_of_getElem? (i := 4) rfl)) (by decide) (rmD l Z a0 hw x4 h0) e18 (by decide) (by decide) (by rw [hml]; rfl) pd_0 rfl rfl rfl (Nat.le_of_eq rfl) at_28 rfl (by decide) (by decide) ?_
  rintro r19 T20 L21 X22 ⟨rfl, rfl, e24⟩
  rw [List.append_nil] at X22
  show Go p e below _ (T20.setTop (mkF m 31 #[.val (.int x0), .val (.int x1), .val (.int x2), .val (.int x3), .val (.int x4), .val (.int n), .val (.int (own_dr x1)), .val (.int (own_dr x2)), .val (.int (own_dr x3)), .unset, .unset, .unset] [(.int (own_dr x4))]))
  refine Go.istore (Ls' := #[.val (.int x0), .val (.int x1), .val (.int x2), .val (.int x3), .val (.int x4), .val (.int n), .val (.int (own_dr x1)), .val (.int (own_dr x2)), .val (.int (own_dr x3)), .val (.int (own_dr x4)), .unset, .unset]) (pc' := 33) X22 hx hby at_31 rfl rfl ?_
  have n5 := own_n5 x0
  rw [← hn] at n5
  clear hn
  have nd0 := own_nd x1
  generalize own_dr x1 = d0 at *
  have nd1 := own_nd x2
  generalize own_dr x2 = d1 at *
  have nd2 := own_nd x3
  generalize own_dr x3 = d2 at *
  have nd3 := own_nd x4
  generalize own_dr x4 = d3 at *
  rcases n5 with rfl | rfl | rfl | rfl | rfl
  ·
    show Go p e below _ (T20.setTop (mkF m 33 #[.val (.int x0), .val (.int x1), .val (.int x2), .val (.int x3), .val (.int x4), .val (.int (0 : Int32)), .val (.int d0), .val (.int d1), .val (.int d2), .val (.int d3), .unset, .unset] []))
    refine Go.iload (pc' := 35) X22 hx hby at_33 rfl rfl ?_
    refine Go.newarr (pc' := 37) (cap := 0) (z := 0) X22 hx hby hZ (hw _ (List.mem_of_getElem? (i := 5) rfl)) e24 at_35 rfl (by decide) (by decide) (by decide) (by decide) (by decide) (by decide) ?_
    intro b25 T26 h27 g28 X29 e30 E31 A32
    have g33 : h0.size ≤ b25 := by rw [g28]; exact (Nat.le_refl _)
    have z34 : h0.size ≤ h27.size := Nat.le_trans (Nat.le_refl _) E31.1
    have f35 : Ar Z h27 b25 .byte 0 (fun _ => (.int 0)) := A32
    show Go p e below _ (T26.setTop (mkF m 37 #[.val (.int x0), .val (.int x1), .val (.int x2), .val (.int x3), .val (.int x4), .val (.int (0 : Int32)), .val (.int d0), .val (.int d1), .val (.int d2), .val (.int d3), .unset, .unset] [(.ref b25)]))
    refine Go.astore (Ls' := #[.val (.int x0), .val (.int x1), .val (.int x2), .val (.int x3), .val (.int x4), .val (.int (0 : Int32)), .val (.int d0), .val (.int d1), .val (.int d2), .val (.int d3), .val (.ref b25), .unset]) (pc' := 39) X29 hx hby at_37 rfl rfl rfl ?_
    refine Go.iload (pc' := 41) X29 hx hby at_39 rfl rfl ?_
    refine Go.ifY (pc' := 50) X29 hx hby at_41 (by decide) (by decide) (show (0 : Int32) ≤ 0 from by decide) ?_
    refine Go.iload (pc' := 52) X29 hx hby at_50 rfl rfl ?_
    refine Go.iconst (pc' := 53) X29 hx hby at_52 rfl (v := (1 : Int32)) (by decide) ?_
    refine Go.icmpY (pc' := 62) X29 hx hby at_53 (by decide) (by decide) (show (0 : Int32) ≤ (1 : Int32) from by decide) ?_
    refine Go.iload (pc' := 64) X29 hx hby at_62 rfl rfl ?_
    refine Go.iconst (pc' := 65) X29 hx hby at_64 rfl (v := (2 : Int32)) (by decide) ?_
    refine Go.icmpY (pc' := 74) X29 hx hby at_65 (by decide) (by decide) (show (0 : Int32) ≤ (2 : Int32) from by decide) ?_
    refine Go.iload (pc' := 76) X29 hx hby at_74 rfl rfl ?_
    refine Go.iconst (pc' := 77) X29 hx hby at_76 rfl (v := (3 : Int32)) (by decide) ?_
    refine Go.icmpY (pc' := 86) X29 hx hby at_77 (by decide) (by decide) (show (0 : Int32) ≤ (3 : Int32) from by decide) ?_
    refine Go.iload (pc' := 88) X29 hx hby at_86 rfl rfl ?_
    have f36 : Ar Z h27 b25 .byte 0 (fun q => .int (own_g d0 d1 d2 d3 q)) := f35.congr (by intro i h0 h1; simp only [own_g, nd0, nd1, nd2, nd3]; (repeat' split) <;> first | rfl | omega)
    refine Go.ifY (pc' := 99) X29 hx hby at_88 (by decide) (by decide) (show (0 : Int32) ≤ 0 from by decide) ?_
    refine Go.iload (pc' := 101) X29 hx hby at_99 rfl rfl ?_
    refine Go.iconst (pc' := 102) X29 hx hby at_101 rfl (v := (1 : Int32)) (by decide) ?_
    refine Go.icmpY (pc' := 113) X29 hx hby at_102 (by decide) (by decide) (show (0 : Int32) ≤ (1 : Int32) from by decide) ?_
    refine Go.iload (pc' := 115) X29 hx hby at_113 rfl rfl ?_
    refine Go.iconst (pc' := 116) X29 hx hby at_115 rfl (v := (2 : Int32)) (by decide) ?_
    refine Go.icmpY (pc' := 127) X29 hx hby at_116 (by decide) (by decide) (show (0 : Int32) ≤ (2 : Int32) from by decide) ?_
    refine Go.iload (pc' := 129) X29 hx hby at_127 rfl rfl ?_
    refine Go.iconst (pc' := 130) X29 hx hby at_129 rfl (v := (3 : Int32)) (by decide) ?_
    refine Go.icmpY (pc' := 145) X29 hx hby at_130 (by decide) (by decide) (show (0 : Int32) ≤ (3 : Int32) from by decide) ?_
    refine Go.iconst (pc' := 146) X29 hx hby at_145 rfl (v := (0 : Int32)) (by decide) ?_
    refine Go.istore (Ls' := #[.val (.int x0), .val (.int x1), .val (.int x2), .val (.int x3), .val (.int x4), .val (.int (0 : Int32)), .val (.int d0), .val (.int d1), .val (.int d2), .val (.int d3), .val (.ref b25), .val (.int (0 : Int32))]) (pc' := 148) X29 hx hby at_146 rfl rfl ?_
    refine Go.aload (pc' := 150) X29 hx hby at_148 rfl rfl rfl ?_
    refine Go.callS (pc' := 153) (W := 0) (argsL := [(.ref b25)]) (rest := []) X29 hx hby hZ hown (hw _ (List.mem_of_getElem? (i := 6) rfl)) (hw _ (List.mem_of_getElem? (i := 7) rfl)) (hw _ (List.mem_of_getElem? (i := 8) rfl)) (hw _ (List.mem_of_getElem? (i := 9) rfl)) (by decide) (rmN l Z a0 hw b25 h27 (0) (own_g d0 d1 d2 d3) f36) e30 (by decide) (by decide) (by rw [hml]; rfl) pd_2 rfl rfl rfl (Nat.le_of_eq rfl) at_150 rfl (by decide) (by decide) ?_
    rintro r40 T41 L42 X43 ⟨r37, rfl, A38, rfl, e39⟩
    rw [List.append_nil] at X43
    show Go p e below _ (T41.setTop (mkF m 153 #[.val (.int x0), .val (.int x1), .val (.int x2), .val (.int x3), .val (.int x4), .val (.int (0 : Int32)), .val (.int d0), .val (.int d1), .val (.int d2), .val (.int d3), .val (.ref b25), .val (.int (0 : Int32))] [(.int r37)]))
    obtain rfl : r37 = (0 : Int32) := by
      change own_ans _ 0 _ at A38
      refine own_no A38 (fun j h1 h2 => ?_)
      have hj : j = 0 ∨ j = 1 ∨ j = 2 ∨ j = 3 := by omega
      rcases hj with rfl | rfl | rfl | rfl <;> first | (exact Classical.not_not.mp (by assumption)) | (simp only [own_g]; simp_all; done) | omega
    refine Go.iload (pc' := 155) X43 hx hby at_153 rfl rfl ?_
    refine Go.icmpN (pc' := 158) X43 hx hby at_155 rfl (show ¬ ((0 : Int32) ≠ (0 : Int32)) from fun q => q rfl) ?_
    refine Go.iconst (pc' := 159) X43 hx hby at_158 rfl (v := (1 : Int32)) (by decide) ?_
    refine Go.goto (pc' := 163) X43 hx hby at_159 (by decide) (by decide) ?_
    exact Go.retZ X43 hx hby hlk hret (by simp) at_163 (by decide) (by decide) ⟨rfl, (Fr.nil _)⟩
  ·
    show Go p e below _ (T20.setTop (mkF m 33 #[.val (.int x0), .val (.int x1), .val (.int x2), .val (.int x3), .val (.int x4), .val (.int (1 : Int32)), .val (.int d0), .val (.int d1), .val (.int d2), .val (.int d3), .unset, .unset] []))
    refine Go.iload (pc' := 35) X22 hx hby at_33 rfl rfl ?_
    refine Go.newarr (pc' := 37) (cap := 1) (z := 1) X22 hx hby hZ (hw _ (List.mem_of_getElem? (i := 5) rfl)) e24 at_35 rfl (by decide) (by decide) (by decide) (by decide) (by decide) (by decide) ?_
    intro b44 T45 h46 g47 X48 e49 E50 A51
    have g52 : h0.size ≤ b44 := by rw [g47]; exact (Nat.le_refl _)
    have z53 : h0.size ≤ h46.size := Nat.le_trans (Nat.le_refl _) E50.1
    have f54 : Ar Z h46 b44 .byte 1 (fun _ => (.int 0)) := A51
    show Go p e below _ (T45.setTop (mkF m 37 #[.val (.int x0), .val (.int x1), .val (.int x2), .val (.int x3), .val (.int x4), .val (.int (1 : Int32)), .val (.int d0), .val (.int d1), .val (.int d2), .val (.int d3), .unset, .unset] [(.ref b44)]))
    refine Go.astore (Ls' := #[.val (.int x0), .val (.int x1), .val (.int x2), .val (.int x3), .val (.int x4), .val (.int (1 : Int32)), .val (.int d0), .val (.int d1), .val (.int d2), .val (.int d3), .val (.ref b44), .unset]) (pc' := 39) X48 hx hby at_37 rfl rfl rfl ?_
    refine Go.iload (pc' := 41) X48 hx hby at_39 rfl rfl ?_
    refine Go.ifN (pc' := 44) X48 hx hby at_41 rfl (show ¬ ((1 : Int32) ≤ 0) from by decide) ?_
    refine Go.aload (pc' := 46) X48 hx hby at_44 rfl rfl rfl ?_
    refine Go.iconst (pc' := 47) X48 hx hby at_46 rfl (v := (0 : Int32)) (by decide) ?_
    refine Go.iload (pc' := 49) X48 hx hby at_47 rfl rfl ?_
    refine Go.bastore (pc' := 50) (i := 0) X48 hx hby hZ e49 f54 at_49 rfl (by decide) (by decide) (by decide) ?_
    intro T55 h56 X57 e58 W59 A60
    have z61 : h0.size ≤ h56.size := by rw [Wr.size W59]; exact z53
    have f62 : Ar Z h56 b44 .byte 1 (fun q => if q = 0 then (.int (nar .byte d0)) else (.int 0)) := A60
    have N63 : Fr h0.size _ := Fr.snoc X57 (Fr.nil _) g52
    show Go p e below _ (T55.setTop (mkF m 50 #[.val (.int x0), .val (.int x1), .val (.int x2), .val (.int x3), .val (.int x4), .val (.int (1 : Int32)), .val (.int d0), .val (.int d1), .val (.int d2), .val (.int d3), .val (.ref b44), .unset] []))
    refine Go.iload (pc' := 52) X57 hx hby at_50 rfl rfl ?_
    refine Go.iconst (pc' := 53) X57 hx hby at_52 rfl (v := (1 : Int32)) (by decide) ?_
    refine Go.icmpY (pc' := 62) X57 hx hby at_53 (by decide) (by decide) (show (1 : Int32) ≤ (1 : Int32) from by decide) ?_
    refine Go.iload (pc' := 64) X57 hx hby at_62 rfl rfl ?_
    refine Go.iconst (pc' := 65) X57 hx hby at_64 rfl (v := (2 : Int32)) (by decide) ?_
    refine Go.icmpY (pc' := 74) X57 hx hby at_65 (by decide) (by decide) (show (1 : Int32) ≤ (2 : Int32) from by decide) ?_
    refine Go.iload (pc' := 76) X57 hx hby at_74 rfl rfl ?_
    refine Go.iconst (pc' := 77) X57 hx hby at_76 rfl (v := (3 : Int32)) (by decide) ?_
    refine Go.icmpY (pc' := 86) X57 hx hby at_77 (by decide) (by decide) (show (1 : Int32) ≤ (3 : Int32) from by decide) ?_
    refine Go.iload (pc' := 88) X57 hx hby at_86 rfl rfl ?_
    have f64 : Ar Z h56 b44 .byte 1 (fun q => .int (own_g d0 d1 d2 d3 q)) := f62.congr (by intro i h0 h1; simp only [own_g, nd0, nd1, nd2, nd3]; (repeat' split) <;> first | rfl | omega)
    refine Go.ifN (pc' := 91) X57 hx hby at_88 rfl (show ¬ ((1 : Int32) ≤ 0) from by decide) ?_
    refine Go.iload (pc' := 93) X57 hx hby at_91 rfl rfl ?_
    refine Go.callS (pc' := 96) (W := 0) (argsL := [(.int d0)]) (rest := []) X57 hx hby hZ hown (hw _ (List.mem_of_getElem? (i := 10) rfl)) (hw _ (List.mem_of_getElem? (i := 11) rfl)) (hw _ (List.mem_of_getElem? (i := 3) rfl)) (hw _ (List.mem_of_getElem? (i := 12) rfl)) (by decide) (rmS l Z a0 hw d0 _) e58 (by decide) (by decide) (by rw [hml]; rfl) pd_1 rfl rfl rfl (Nat.le_of_eq rfl) at_93 rfl (by decide) (by decide) ?_
    rintro r65 T66 L67 X68 ⟨rfl, rfl, e70⟩
    rw [List.append_nil] at X68
    show Go p e below _ (T66.setTop (mkF m 96 #[.val (.int x0), .val (.int x1), .val (.int x2), .val (.int x3), .val (.int x4), .val (.int (1 : Int32)), .val (.int d0), .val (.int d1), .val (.int d2), .val (.int d3), .val (.ref b44), .unset] [(.int (own_sp d0))]))
    refine Go.if_ (pc' := 141) (pn := 99) X68 hx hby at_96 (by decide) (by decide) rfl (fun (c71 : (own_sp d0) ≠ 0) => ?_) (fun (c71 : ¬ ((own_sp d0) ≠ 0)) => ?_)
    ·
      refine Go.iconst (pc' := 142) X68 hx hby at_141 rfl (v := (1 : Int32)) (by decide) ?_
      refine Go.goto (pc' := 146) X68 hx hby at_142 (by decide) (by decide) ?_
      refine Go.istore (Ls' := #[.val (.int x0), .val (.int x1), .val (.int x2), .val (.int x3), .val (.int x4), .val (.int (1 : Int32)), .val (.int d0), .val (.int d1), .val (.int d2), .val (.int d3), .val (.ref b44), .val (.int (1 : Int32))]) (pc' := 148) X68 hx hby at_146 rfl rfl ?_
      refine Go.aload (pc' := 150) X68 hx hby at_148 rfl rfl rfl ?_
      refine Go.callS (pc' := 153) (W := 0) (argsL := [(.ref b44)]) (rest := []) X68 hx hby hZ hown (hw _ (List.mem_of_getElem? (i := 6) rfl)) (hw _ (List.mem_of_getElem? (i := 7) rfl)) (hw _ (List.mem_of_getElem? (i := 8) rfl)) (hw _ (List.mem_of_getElem? (i := 9) rfl)) (by decide) (rmN l Z a0 hw b44 h56 (1) (own_g d0 d1 d2 d3) f64) e70 (by decide) (by decide) (by rw [hml]; rfl) pd_2 rfl rfl rfl (Nat.le_of_eq rfl) at_150 rfl (by decide) (by decide) ?_
      rintro r75 T76 L77 X78 ⟨r72, rfl, A73, rfl, e74⟩
      rw [List.append_nil] at X78
      show Go p e below _ (T76.setTop (mkF m 153 #[.val (.int x0), .val (.int x1), .val (.int x2), .val (.int x3), .val (.int x4), .val (.int (1 : Int32)), .val (.int d0), .val (.int d1), .val (.int d2), .val (.int d3), .val (.ref b44), .val (.int (1 : Int32))] [(.int r72)]))
      obtain rfl : r72 = (1 : Int32) := by
        change own_ans _ 1 _ at A73
        first | exact own_yes A73 0 (by decide) (by decide) (by assumption) | exact own_yes A73 1 (by decide) (by decide) (by assumption) | exact own_yes A73 2 (by decide) (by decide) (by assumption) | exact own_yes A73 3 (by decide) (by decide) (by assumption)
      refine Go.iload (pc' := 155) X78 hx hby at_153 rfl rfl ?_
      refine Go.icmpN (pc' := 158) X78 hx hby at_155 rfl (show ¬ ((1 : Int32) ≠ (1 : Int32)) from fun q => q rfl) ?_
      refine Go.iconst (pc' := 159) X78 hx hby at_158 rfl (v := (1 : Int32)) (by decide) ?_
      refine Go.goto (pc' := 163) X78 hx hby at_159 (by decide) (by decide) ?_
      exact Go.retZ X78 hx hby hlk hret (by simp) at_163 (by decide) (by decide) ⟨rfl, N63⟩
    ·
      refine Go.iload (pc' := 101) X68 hx hby at_99 rfl rfl ?_
      refine Go.iconst (pc' := 102) X68 hx hby at_101 rfl (v := (1 : Int32)) (by decide) ?_
      refine Go.icmpY (pc' := 113) X68 hx hby at_102 (by decide) (by decide) (show (1 : Int32) ≤ (1 : Int32) from by decide) ?_
      refine Go.iload (pc' := 115) X68 hx hby at_113 rfl rfl ?_
      refine Go.iconst (pc' := 116) X68 hx hby at_115 rfl (v := (2 : Int32)) (by decide) ?_
      refine Go.icmpY (pc' := 127) X68 hx hby at_116 (by decide) (by decide) (show (1 : Int32) ≤ (2 : Int32) from by decide) ?_
      refine Go.iload (pc' := 129) X68 hx hby at_127 rfl rfl ?_
      refine Go.iconst (pc' := 130) X68 hx hby at_129 rfl (v := (3 : Int32)) (by decide) ?_
      refine Go.icmpY (pc' := 145) X68 hx hby at_130 (by decide) (by decide) (show (1 : Int32) ≤ (3 : Int32) from by decide) ?_
      refine Go.iconst (pc' := 146) X68 hx hby at_145 rfl (v := (0 : Int32)) (by decide) ?_
      refine Go.istore (Ls' := #[.val (.int x0), .val (.int x1), .val (.int x2), .val (.int x3), .val (.int x4), .val (.int (1 : Int32)), .val (.int d0), .val (.int d1), .val (.int d2), .val (.int d3), .val (.ref b44), .val (.int (0 : Int32))]) (pc' := 148) X68 hx hby at_146 rfl rfl ?_
      refine Go.aload (pc' := 150) X68 hx hby at_148 rfl rfl rfl ?_
      refine Go.callS (pc' := 153) (W := 0) (argsL := [(.ref b44)]) (rest := []) X68 hx hby hZ hown (hw _ (List.mem_of_getElem? (i := 6) rfl)) (hw _ (List.mem_of_getElem? (i := 7) rfl)) (hw _ (List.mem_of_getElem? (i := 8) rfl)) (hw _ (List.mem_of_getElem? (i := 9) rfl)) (by decide) (rmN l Z a0 hw b44 h56 (1) (own_g d0 d1 d2 d3) f64) e70 (by decide) (by decide) (by rw [hml]; rfl) pd_2 rfl rfl rfl (Nat.le_of_eq rfl) at_150 rfl (by decide) (by decide) ?_
      rintro r82 T83 L84 X85 ⟨r79, rfl, A80, rfl, e81⟩
      rw [List.append_nil] at X85
      show Go p e below _ (T83.setTop (mkF m 153 #[.val (.int x0), .val (.int x1), .val (.int x2), .val (.int x3), .val (.int x4), .val (.int (1 : Int32)), .val (.int d0), .val (.int d1), .val (.int d2), .val (.int d3), .val (.ref b44), .val (.int (0 : Int32))] [(.int r79)]))
      obtain rfl : r79 = (0 : Int32) := by
        change own_ans _ 1 _ at A80
        refine own_no A80 (fun j h1 h2 => ?_)
        have hj : j = 0 ∨ j = 1 ∨ j = 2 ∨ j = 3 := by omega
        rcases hj with rfl | rfl | rfl | rfl <;> first | (exact Classical.not_not.mp (by assumption)) | (simp only [own_g]; simp_all; done) | omega
      refine Go.iload (pc' := 155) X85 hx hby at_153 rfl rfl ?_
      refine Go.icmpN (pc' := 158) X85 hx hby at_155 rfl (show ¬ ((0 : Int32) ≠ (0 : Int32)) from fun q => q rfl) ?_
      refine Go.iconst (pc' := 159) X85 hx hby at_158 rfl (v := (1 : Int32)) (by decide) ?_
      refine Go.goto (pc' := 163) X85 hx hby at_159 (by decide) (by decide) ?_
      exact Go.retZ X85 hx hby hlk hret (by simp) at_163 (by decide) (by decide) ⟨rfl, N63⟩
  ·
    show Go p e below _ (T20.setTop (mkF m 33 #[.val (.int x0), .val (.int x1), .val (.int x2), .val (.int x3), .val (.int x4), .val (.int (2 : Int32)), .val (.int d0), .val (.int d1), .val (.int d2), .val (.int d3), .unset, .unset] []))
    refine Go.iload (pc' := 35) X22 hx hby at_33 rfl rfl ?_
    refine Go.newarr (pc' := 37) (cap := 2) (z := 2) X22 hx hby hZ (hw _ (List.mem_of_getElem? (i := 5) rfl)) e24 at_35 rfl (by decide) (by decide) (by decide) (by decide) (by decide) (by decide) ?_
    intro b86 T87 h88 g89 X90 e91 E92 A93
    have g94 : h0.size ≤ b86 := by rw [g89]; exact (Nat.le_refl _)
    have z95 : h0.size ≤ h88.size := Nat.le_trans (Nat.le_refl _) E92.1
    have f96 : Ar Z h88 b86 .byte 2 (fun _ => (.int 0)) := A93
    show Go p e below _ (T87.setTop (mkF m 37 #[.val (.int x0), .val (.int x1), .val (.int x2), .val (.int x3), .val (.int x4), .val (.int (2 : Int32)), .val (.int d0), .val (.int d1), .val (.int d2), .val (.int d3), .unset, .unset] [(.ref b86)]))
    refine Go.astore (Ls' := #[.val (.int x0), .val (.int x1), .val (.int x2), .val (.int x3), .val (.int x4), .val (.int (2 : Int32)), .val (.int d0), .val (.int d1), .val (.int d2), .val (.int d3), .val (.ref b86), .unset]) (pc' := 39) X90 hx hby at_37 rfl rfl rfl ?_
    refine Go.iload (pc' := 41) X90 hx hby at_39 rfl rfl ?_
    refine Go.ifN (pc' := 44) X90 hx hby at_41 rfl (show ¬ ((2 : Int32) ≤ 0) from by decide) ?_
    refine Go.aload (pc' := 46) X90 hx hby at_44 rfl rfl rfl ?_
    refine Go.iconst (pc' := 47) X90 hx hby at_46 rfl (v := (0 : Int32)) (by decide) ?_
    refine Go.iload (pc' := 49) X90 hx hby at_47 rfl rfl ?_
    refine Go.bastore (pc' := 50) (i := 0) X90 hx hby hZ e91 f96 at_49 rfl (by decide) (by decide) (by decide) ?_
    intro T97 h98 X99 e100 W101 A102
    have z103 : h0.size ≤ h98.size := by rw [Wr.size W101]; exact z95
    have f104 : Ar Z h98 b86 .byte 2 (fun q => if q = 0 then (.int (nar .byte d0)) else (.int 0)) := A102
    have N105 : Fr h0.size _ := Fr.snoc X99 (Fr.nil _) g94
    show Go p e below _ (T97.setTop (mkF m 50 #[.val (.int x0), .val (.int x1), .val (.int x2), .val (.int x3), .val (.int x4), .val (.int (2 : Int32)), .val (.int d0), .val (.int d1), .val (.int d2), .val (.int d3), .val (.ref b86), .unset] []))
    refine Go.iload (pc' := 52) X99 hx hby at_50 rfl rfl ?_
    refine Go.iconst (pc' := 53) X99 hx hby at_52 rfl (v := (1 : Int32)) (by decide) ?_
    refine Go.icmpN (pc' := 56) X99 hx hby at_53 rfl (show ¬ ((2 : Int32) ≤ (1 : Int32)) from by decide) ?_
    refine Go.aload (pc' := 58) X99 hx hby at_56 rfl rfl rfl ?_
    refine Go.iconst (pc' := 59) X99 hx hby at_58 rfl (v := (1 : Int32)) (by decide) ?_
    refine Go.iload (pc' := 61) X99 hx hby at_59 rfl rfl ?_
    refine Go.bastore (pc' := 62) (i := 1) X99 hx hby hZ e100 f104 at_61 rfl (by decide) (by decide) (by decide) ?_
    intro T106 h107 X108 e109 W110 A111
    have z112 : h0.size ≤ h107.size := by rw [Wr.size W110]; exact z103
    have f113 : Ar Z h107 b86 .byte 2 (fun q => if q = 1 then (.int (nar .byte d1)) else if q = 0 then (.int (nar .byte d0)) else (.int 0)) := A111
    have N114 : Fr h0.size _ := Fr.snoc X108 N105 g94
    show Go p e below _ (T106.setTop (mkF m 62 #[.val (.int x0), .val (.int x1), .val (.int x2), .val (.int x3), .val (.int x4), .val (.int (2 : Int32)), .val (.int d0), .val (.int d1), .val (.int d2), .val (.int d3), .val (.ref b86), .unset] []))
    refine Go.iload (pc' := 64) X108 hx hby at_62 rfl rfl ?_
    refine Go.iconst (pc' := 65) X108 hx hby at_64 rfl (v := (2 : Int32)) (by decide) ?_
    refine Go.icmpY (pc' := 74) X108 hx hby at_65 (by decide) (by decide) (show (2 : Int32) ≤ (2 : Int32) from by decide) ?_
    refine Go.iload (pc' := 76) X108 hx hby at_74 rfl rfl ?_
    refine Go.iconst (pc' := 77) X108 hx hby at_76 rfl (v := (3 : Int32)) (by decide) ?_
    refine Go.icmpY (pc' := 86) X108 hx hby at_77 (by decide) (by decide) (show (2 : Int32) ≤ (3 : Int32) from by decide) ?_
    refine Go.iload (pc' := 88) X108 hx hby at_86 rfl rfl ?_
    have f115 : Ar Z h107 b86 .byte 2 (fun q => .int (own_g d0 d1 d2 d3 q)) := f113.congr (by intro i h0 h1; simp only [own_g, nd0, nd1, nd2, nd3]; (repeat' split) <;> first | rfl | omega)
    refine Go.ifN (pc' := 91) X108 hx hby at_88 rfl (show ¬ ((2 : Int32) ≤ 0) from by decide) ?_
    refine Go.iload (pc' := 93) X108 hx hby at_91 rfl rfl ?_
    refine Go.callS (pc' := 96) (W := 0) (argsL := [(.int d0)]) (rest := []) X108 hx hby hZ hown (hw _ (List.mem_of_getElem? (i := 10) rfl)) (hw _ (List.mem_of_getElem? (i := 11) rfl)) (hw _ (List.mem_of_getElem? (i := 3) rfl)) (hw _ (List.mem_of_getElem? (i := 12) rfl)) (by decide) (rmS l Z a0 hw d0 _) e109 (by decide) (by decide) (by rw [hml]; rfl) pd_1 rfl rfl rfl (Nat.le_of_eq rfl) at_93 rfl (by decide) (by decide) ?_
    rintro r116 T117 L118 X119 ⟨rfl, rfl, e121⟩
    rw [List.append_nil] at X119
    show Go p e below _ (T117.setTop (mkF m 96 #[.val (.int x0), .val (.int x1), .val (.int x2), .val (.int x3), .val (.int x4), .val (.int (2 : Int32)), .val (.int d0), .val (.int d1), .val (.int d2), .val (.int d3), .val (.ref b86), .unset] [(.int (own_sp d0))]))
    refine Go.if_ (pc' := 141) (pn := 99) X119 hx hby at_96 (by decide) (by decide) rfl (fun (c122 : (own_sp d0) ≠ 0) => ?_) (fun (c122 : ¬ ((own_sp d0) ≠ 0)) => ?_)
    ·
      refine Go.iconst (pc' := 142) X119 hx hby at_141 rfl (v := (1 : Int32)) (by decide) ?_
      refine Go.goto (pc' := 146) X119 hx hby at_142 (by decide) (by decide) ?_
      refine Go.istore (Ls' := #[.val (.int x0), .val (.int x1), .val (.int x2), .val (.int x3), .val (.int x4), .val (.int (2 : Int32)), .val (.int d0), .val (.int d1), .val (.int d2), .val (.int d3), .val (.ref b86), .val (.int (1 : Int32))]) (pc' := 148) X119 hx hby at_146 rfl rfl ?_
      refine Go.aload (pc' := 150) X119 hx hby at_148 rfl rfl rfl ?_
      refine Go.callS (pc' := 153) (W := 0) (argsL := [(.ref b86)]) (rest := []) X119 hx hby hZ hown (hw _ (List.mem_of_getElem? (i := 6) rfl)) (hw _ (List.mem_of_getElem? (i := 7) rfl)) (hw _ (List.mem_of_getElem? (i := 8) rfl)) (hw _ (List.mem_of_getElem? (i := 9) rfl)) (by decide) (rmN l Z a0 hw b86 h107 (2) (own_g d0 d1 d2 d3) f115) e121 (by decide) (by decide) (by rw [hml]; rfl) pd_2 rfl rfl rfl (Nat.le_of_eq rfl) at_150 rfl (by decide) (by decide) ?_
      rintro r126 T127 L128 X129 ⟨r123, rfl, A124, rfl, e125⟩
      rw [List.append_nil] at X129
      show Go p e below _ (T127.setTop (mkF m 153 #[.val (.int x0), .val (.int x1), .val (.int x2), .val (.int x3), .val (.int x4), .val (.int (2 : Int32)), .val (.int d0), .val (.int d1), .val (.int d2), .val (.int d3), .val (.ref b86), .val (.int (1 : Int32))] [(.int r123)]))
      obtain rfl : r123 = (1 : Int32) := by
        change own_ans _ 2 _ at A124
        first | exact own_yes A124 0 (by decide) (by decide) (by assumption) | exact own_yes A124 1 (by decide) (by decide) (by assumption) | exact own_yes A124 2 (by decide) (by decide) (by assumption) | exact own_yes A124 3 (by decide) (by decide) (by assumption)
      refine Go.iload (pc' := 155) X129 hx hby at_153 rfl rfl ?_
      refine Go.icmpN (pc' := 158) X129 hx hby at_155 rfl (show ¬ ((1 : Int32) ≠ (1 : Int32)) from fun q => q rfl) ?_
      refine Go.iconst (pc' := 159) X129 hx hby at_158 rfl (v := (1 : Int32)) (by decide) ?_
      refine Go.goto (pc' := 163) X129 hx hby at_159 (by decide) (by decide) ?_
      exact Go.retZ X129 hx hby hlk hret (by simp) at_163 (by decide) (by decide) ⟨rfl, N114⟩
    ·
      refine Go.iload (pc' := 101) X119 hx hby at_99 rfl rfl ?_
      refine Go.iconst (pc' := 102) X119 hx hby at_101 rfl (v := (1 : Int32)) (by decide) ?_
      refine Go.icmpN (pc' := 105) X119 hx hby at_102 rfl (show ¬ ((2 : Int32) ≤ (1 : Int32)) from by decide) ?_
      refine Go.iload (pc' := 107) X119 hx hby at_105 rfl rfl ?_
      refine Go.callS (pc' := 110) (W := 0) (argsL := [(.int d1)]) (rest := []) X119 hx hby hZ hown (hw _ (List.mem_of_getElem? (i := 10) rfl)) (hw _ (List.mem_of_getElem? (i := 11) rfl)) (hw _ (List.mem_of_getElem? (i := 3) rfl)) (hw _ (List.mem_of_getElem? (i := 12) rfl)) (by decide) (rmS l Z a0 hw d1 _) e121 (by decide) (by decide) (by rw [hml]; rfl) pd_1 rfl rfl rfl (Nat.le_of_eq rfl) at_107 rfl (by decide) (by decide) ?_
      rintro r130 T131 L132 X133 ⟨rfl, rfl, e135⟩
      rw [List.append_nil] at X133
      show Go p e below _ (T131.setTop (mkF m 110 #[.val (.int x0), .val (.int x1), .val (.int x2), .val (.int x3), .val (.int x4), .val (.int (2 : Int32)), .val (.int d0), .val (.int d1), .val (.int d2), .val (.int d3), .val (.ref b86), .unset] [(.int (own_sp d1))]))
      refine Go.if_ (pc' := 141) (pn := 113) X133 hx hby at_110 (by decide) (by decide) rfl (fun (c136 : (own_sp d1) ≠ 0) => ?_) (fun (c136 : ¬ ((own_sp d1) ≠ 0)) => ?_)
      ·
        refine Go.iconst (pc' := 142) X133 hx hby at_141 rfl (v := (1 : Int32)) (by decide) ?_
        refine Go.goto (pc' := 146) X133 hx hby at_142 (by decide) (by decide) ?_
        refine Go.istore (Ls' := #[.val (.int x0), .val (.int x1), .val (.int x2), .val (.int x3), .val (.int x4), .val (.int (2 : Int32)), .val (.int d0), .val (.int d1), .val (.int d2), .val (.int d3), .val (.ref b86), .val (.int (1 : Int32))]) (pc' := 148) X133 hx hby at_146 rfl rfl ?_
        refine Go.aload (pc' := 150) X133 hx hby at_148 rfl rfl rfl ?_
        refine Go.callS (pc' := 153) (W := 0) (argsL := [(.ref b86)]) (rest := []) X133 hx hby hZ hown (hw _ (List.mem_of_getElem? (i := 6) rfl)) (hw _ (List.mem_of_getElem? (i := 7) rfl)) (hw _ (List.mem_of_getElem? (i := 8) rfl)) (hw _ (List.mem_of_getElem? (i := 9) rfl)) (by decide) (rmN l Z a0 hw b86 h107 (2) (own_g d0 d1 d2 d3) f115) e135 (by decide) (by decide) (by rw [hml]; rfl) pd_2 rfl rfl rfl (Nat.le_of_eq rfl) at_150 rfl (by decide) (by decide) ?_
        rintro r140 T141 L142 X143 ⟨r137, rfl, A138, rfl, e139⟩
        rw [List.append_nil] at X143
        show Go p e below _ (T141.setTop (mkF m 153 #[.val (.int x0), .val (.int x1), .val (.int x2), .val (.int x3), .val (.int x4), .val (.int (2 : Int32)), .val (.int d0), .val (.int d1), .val (.int d2), .val (.int d3), .val (.ref b86), .val (.int (1 : Int32))] [(.int r137)]))
        obtain rfl : r137 = (1 : Int32) := by
          change own_ans _ 2 _ at A138
          first | exact own_yes A138 0 (by decide) (by decide) (by assumption) | exact own_yes A138 1 (by decide) (by decide) (by assumption) | exact own_yes A138 2 (by decide) (by decide) (by assumption) | exact own_yes A138 3 (by decide) (by decide) (by assumption)
        refine Go.iload (pc' := 155) X143 hx hby at_153 rfl rfl ?_
        refine Go.icmpN (pc' := 158) X143 hx hby at_155 rfl (show ¬ ((1 : Int32) ≠ (1 : Int32)) from fun q => q rfl) ?_
        refine Go.iconst (pc' := 159) X143 hx hby at_158 rfl (v := (1 : Int32)) (by decide) ?_
        refine Go.goto (pc' := 163) X143 hx hby at_159 (by decide) (by decide) ?_
        exact Go.retZ X143 hx hby hlk hret (by simp) at_163 (by decide) (by decide) ⟨rfl, N114⟩
      ·
        refine Go.iload (pc' := 115) X133 hx hby at_113 rfl rfl ?_
        refine Go.iconst (pc' := 116) X133 hx hby at_115 rfl (v := (2 : Int32)) (by decide) ?_
        refine Go.icmpY (pc' := 127) X133 hx hby at_116 (by decide) (by decide) (show (2 : Int32) ≤ (2 : Int32) from by decide) ?_
        refine Go.iload (pc' := 129) X133 hx hby at_127 rfl rfl ?_
        refine Go.iconst (pc' := 130) X133 hx hby at_129 rfl (v := (3 : Int32)) (by decide) ?_
        refine Go.icmpY (pc' := 145) X133 hx hby at_130 (by decide) (by decide) (show (2 : Int32) ≤ (3 : Int32) from by decide) ?_
        refine Go.iconst (pc' := 146) X133 hx hby at_145 rfl (v := (0 : Int32)) (by decide) ?_
        refine Go.istore (Ls' := #[.val (.int x0), .val (.int x1), .val (.int x2), .val (.int x3), .val (.int x4), .val (.int (2 : Int32)), .val (.int d0), .val (.int d1), .val (.int d2), .val (.int d3), .val (.ref b86), .val (.int (0 : Int32))]) (pc' := 148) X133 hx hby at_146 rfl rfl ?_
        refine Go.aload (pc' := 150) X133 hx hby at_148 rfl rfl rfl ?_
        refine Go.callS (pc' := 153) (W := 0) (argsL := [(.ref b86)]) (rest := []) X133 hx hby hZ hown (hw _ (List.mem_of_getElem? (i := 6) rfl)) (hw _ (List.mem_of_getElem? (i := 7) rfl)) (hw _ (List.mem_of_getElem? (i := 8) rfl)) (hw _ (List.mem_of_getElem? (i := 9) rfl)) (by decide) (rmN l Z a0 hw b86 h107 (2) (own_g d0 d1 d2 d3) f115) e135 (by decide) (by decide) (by rw [hml]; rfl) pd_2 rfl rfl rfl (Nat.le_of_eq rfl) at_150 rfl (by decide) (by decide) ?_
        rintro r147 T148 L149 X150 ⟨r144, rfl, A145, rfl, e146⟩
        rw [List.append_nil] at X150
        show Go p e below _ (T148.setTop (mkF m 153 #[.val (.int x0), .val (.int x1), .val (.int x2), .val (.int x3), .val (.int x4), .val (.int (2 : Int32)), .val (.int d0), .val (.int d1), .val (.int d2), .val (.int d3), .val (.ref b86), .val (.int (0 : Int32))] [(.int r144)]))
        obtain rfl : r144 = (0 : Int32) := by
          change own_ans _ 2 _ at A145
          refine own_no A145 (fun j h1 h2 => ?_)
          have hj : j = 0 ∨ j = 1 ∨ j = 2 ∨ j = 3 := by omega
          rcases hj with rfl | rfl | rfl | rfl <;> first | (exact Classical.not_not.mp (by assumption)) | (simp only [own_g]; simp_all; done) | omega
        refine Go.iload (pc' := 155) X150 hx hby at_153 rfl rfl ?_
        refine Go.icmpN (pc' := 158) X150 hx hby at_155 rfl (show ¬ ((0 : Int32) ≠ (0 : Int32)) from fun q => q rfl) ?_
        refine Go.iconst (pc' := 159) X150 hx hby at_158 rfl (v := (1 : Int32)) (by decide) ?_
        refine Go.goto (pc' := 163) X150 hx hby at_159 (by decide) (by decide) ?_
        exact Go.retZ X150 hx hby hlk hret (by simp) at_163 (by decide) (by decide) ⟨rfl, N114⟩
  ·
    show Go p e below _ (T20.setTop (mkF m 33 #[.val (.int x0), .val (.int x1), .val (.int x2), .val (.int x3), .val (.int x4), .val (.int (3 : Int32)), .val (.int d0), .val (.int d1), .val (.int d2), .val (.int d3), .unset, .unset] []))
    refine Go.iload (pc' := 35) X22 hx hby at_33 rfl rfl ?_
    refine Go.newarr (pc' := 37) (cap := 3) (z := 3) X22 hx hby hZ (hw _ (List.mem_of_getElem? (i := 5) rfl)) e24 at_35 rfl (by decide) (by decide) (by decide) (by decide) (by decide) (by decide) ?_
    intro b151 T152 h153 g154 X155 e156 E157 A158
    have g159 : h0.size ≤ b151 := by rw [g154]; exact (Nat.le_refl _)
    have z160 : h0.size ≤ h153.size := Nat.le_trans (Nat.le_refl _) E157.1
    have f161 : Ar Z h153 b151 .byte 3 (fun _ => (.int 0)) := A158
    show Go p e below _ (T152.setTop (mkF m 37 #[.val (.int x0), .val (.int x1), .val (.int x2), .val (.int x3), .val (.int x4), .val (.int (3 : Int32)), .val (.int d0), .val (.int d1), .val (.int d2), .val (.int d3), .unset, .unset] [(.ref b151)]))
    refine Go.astore (Ls' := #[.val (.int x0), .val (.int x1), .val (.int x2), .val (.int x3), .val (.int x4), .val (.int (3 : Int32)), .val (.int d0), .val (.int d1), .val (.int d2), .val (.int d3), .val (.ref b151), .unset]) (pc' := 39) X155 hx hby at_37 rfl rfl rfl ?_
    refine Go.iload (pc' := 41) X155 hx hby at_39 rfl rfl ?_
    refine Go.ifN (pc' := 44) X155 hx hby at_41 rfl (show ¬ ((3 : Int32) ≤ 0) from by decide) ?_
    refine Go.aload (pc' := 46) X155 hx hby at_44 rfl rfl rfl ?_
    refine Go.iconst (pc' := 47) X155 hx hby at_46 rfl (v := (0 : Int32)) (by decide) ?_
    refine Go.iload (pc' := 49) X155 hx hby at_47 rfl rfl ?_
    refine Go.bastore (pc' := 50) (i := 0) X155 hx hby hZ e156 f161 at_49 rfl (by decide) (by decide) (by decide) ?_
    intro T162 h163 X164 e165 W166 A167
    have z168 : h0.size ≤ h163.size := by rw [Wr.size W166]; exact z160
    have f169 : Ar Z h163 b151 .byte 3 (fun q => if q = 0 then (.int (nar .byte d0)) else (.int 0)) := A167
    have N170 : Fr h0.size _ := Fr.snoc X164 (Fr.nil _) g159
    show Go p e below _ (T162.setTop (mkF m 50 #[.val (.int x0), .val (.int x1), .val (.int x2), .val (.int x3), .val (.int x4), .val (.int (3 : Int32)), .val (.int d0), .val (.int d1), .val (.int d2), .val (.int d3), .val (.ref b151), .unset] []))
    refine Go.iload (pc' := 52) X164 hx hby at_50 rfl rfl ?_
    refine Go.iconst (pc' := 53) X164 hx hby at_52 rfl (v := (1 : Int32)) (by decide) ?_
    refine Go.icmpN (pc' := 56) X164 hx hby at_53 rfl (show ¬ ((3 : Int32) ≤ (1 : Int32)) from by decide) ?_
    refine Go.aload (pc' := 58) X164 hx hby at_56 rfl rfl rfl ?_
    refine Go.iconst (pc' := 59) X164 hx hby at_58 rfl (v := (1 : Int32)) (by decide) ?_
    refine Go.iload (pc' := 61) X164 hx hby at_59 rfl rfl ?_
    refine Go.bastore (pc' := 62) (i := 1) X164 hx hby hZ e165 f169 at_61 rfl (by decide) (by decide) (by decide) ?_
    intro T171 h172 X173 e174 W175 A176
    have z177 : h0.size ≤ h172.size := by rw [Wr.size W175]; exact z168
    have f178 : Ar Z h172 b151 .byte 3 (fun q => if q = 1 then (.int (nar .byte d1)) else if q = 0 then (.int (nar .byte d0)) else (.int 0)) := A176
    have N179 : Fr h0.size _ := Fr.snoc X173 N170 g159
    show Go p e below _ (T171.setTop (mkF m 62 #[.val (.int x0), .val (.int x1), .val (.int x2), .val (.int x3), .val (.int x4), .val (.int (3 : Int32)), .val (.int d0), .val (.int d1), .val (.int d2), .val (.int d3), .val (.ref b151), .unset] []))
    refine Go.iload (pc' := 64) X173 hx hby at_62 rfl rfl ?_
    refine Go.iconst (pc' := 65) X173 hx hby at_64 rfl (v := (2 : Int32)) (by decide) ?_
    refine Go.icmpN (pc' := 68) X173 hx hby at_65 rfl (show ¬ ((3 : Int32) ≤ (2 : Int32)) from by decide) ?_
    refine Go.aload (pc' := 70) X173 hx hby at_68 rfl rfl rfl ?_
    refine Go.iconst (pc' := 71) X173 hx hby at_70 rfl (v := (2 : Int32)) (by decide) ?_
    refine Go.iload (pc' := 73) X173 hx hby at_71 rfl rfl ?_
    refine Go.bastore (pc' := 74) (i := 2) X173 hx hby hZ e174 f178 at_73 rfl (by decide) (by decide) (by decide) ?_
    intro T180 h181 X182 e183 W184 A185
    have z186 : h0.size ≤ h181.size := by rw [Wr.size W184]; exact z177
    have f187 : Ar Z h181 b151 .byte 3 (fun q => if q = 2 then (.int (nar .byte d2)) else if q = 1 then (.int (nar .byte d1)) else if q = 0 then (.int (nar .byte d0)) else (.int 0)) := A185
    have N188 : Fr h0.size _ := Fr.snoc X182 N179 g159
    show Go p e below _ (T180.setTop (mkF m 74 #[.val (.int x0), .val (.int x1), .val (.int x2), .val (.int x3), .val (.int x4), .val (.int (3 : Int32)), .val (.int d0), .val (.int d1), .val (.int d2), .val (.int d3), .val (.ref b151), .unset] []))
    refine Go.iload (pc' := 76) X182 hx hby at_74 rfl rfl ?_
    refine Go.iconst (pc' := 77) X182 hx hby at_76 rfl (v := (3 : Int32)) (by decide) ?_
    refine Go.icmpY (pc' := 86) X182 hx hby at_77 (by decide) (by decide) (show (3 : Int32) ≤ (3 : Int32) from by decide) ?_
    refine Go.iload (pc' := 88) X182 hx hby at_86 rfl rfl ?_
    have f189 : Ar Z h181 b151 .byte 3 (fun q => .int (own_g d0 d1 d2 d3 q)) := f187.congr (by intro i h0 h1; simp only [own_g, nd0, nd1, nd2, nd3]; (repeat' split) <;> first | rfl | omega)
    refine Go.ifN (pc' := 91) X182 hx hby at_88 rfl (show ¬ ((3 : Int32) ≤ 0) from by decide) ?_
    refine Go.iload (pc' := 93) X182 hx hby at_91 rfl rfl ?_
    refine Go.callS (pc' := 96) (W := 0) (argsL := [(.int d0)]) (rest := []) X182 hx hby hZ hown (hw _ (List.mem_of_getElem? (i := 10) rfl)) (hw _ (List.mem_of_getElem? (i := 11) rfl)) (hw _ (List.mem_of_getElem? (i := 3) rfl)) (hw _ (List.mem_of_getElem? (i := 12) rfl)) (by decide) (rmS l Z a0 hw d0 _) e183 (by decide) (by decide) (by rw [hml]; rfl) pd_1 rfl rfl rfl (Nat.le_of_eq rfl) at_93 rfl (by decide) (by decide) ?_
    rintro r190 T191 L192 X193 ⟨rfl, rfl, e195⟩
    rw [List.append_nil] at X193
    show Go p e below _ (T191.setTop (mkF m 96 #[.val (.int x0), .val (.int x1), .val (.int x2), .val (.int x3), .val (.int x4), .val (.int (3 : Int32)), .val (.int d0), .val (.int d1), .val (.int d2), .val (.int d3), .val (.ref b151), .unset] [(.int (own_sp d0))]))
    refine Go.if_ (pc' := 141) (pn := 99) X193 hx hby at_96 (by decide) (by decide) rfl (fun (c196 : (own_sp d0) ≠ 0) => ?_) (fun (c196 : ¬ ((own_sp d0) ≠ 0)) => ?_)
    ·
      refine Go.iconst (pc' := 142) X193 hx hby at_141 rfl (v := (1 : Int32)) (by decide) ?_
      refine Go.goto (pc' := 146) X193 hx hby at_142 (by decide) (by decide) ?_
      refine Go.istore (Ls' := #[.val (.int x0), .val (.int x1), .val (.int x2), .val (.int x3), .val (.int x4), .val (.int (3 : Int32)), .val (.int d0), .val (.int d1), .val (.int d2), .val (.int d3), .val (.ref b151), .val (.int (1 : Int32))]) (pc' := 148) X193 hx hby at_146 rfl rfl ?_
      refine Go.aload (pc' := 150) X193 hx hby at_148 rfl rfl rfl ?_
      refine Go.callS (pc' := 153) (W := 0) (argsL := [(.ref b151)]) (rest := []) X193 hx hby hZ hown (hw _ (List.mem_of_getElem? (i := 6) rfl)) (hw _ (List.mem_of_getElem? (i := 7) rfl)) (hw _ (List.mem_of_getElem? (i := 8) rfl)) (hw _ (List.mem_of_getElem? (i := 9) rfl)) (by decide) (rmN l Z a0 hw b151 h181 (3) (own_g d0 d1 d2 d3) f189) e195 (by decide) (by decide) (by rw [hml]; rfl) pd_2 rfl rfl rfl (Nat.le_of_eq rfl) at_150 rfl (by decide) (by decide) ?_
      rintro r200 T201 L202 X203 ⟨r197, rfl, A198, rfl, e199⟩
      rw [List.append_nil] at X203
      show Go p e below _ (T201.setTop (mkF m 153 #[.val (.int x0), .val (.int x1), .val (.int x2), .val (.int x3), .val (.int x4), .val (.int (3 : Int32)), .val (.int d0), .val (.int d1), .val (.int d2), .val (.int d3), .val (.ref b151), .val (.int (1 : Int32))] [(.int r197)]))
      obtain rfl : r197 = (1 : Int32) := by
        change own_ans _ 3 _ at A198
        first | exact own_yes A198 0 (by decide) (by decide) (by assumption) | exact own_yes A198 1 (by decide) (by decide) (by assumption) | exact own_yes A198 2 (by decide) (by decide) (by assumption) | exact own_yes A198 3 (by decide) (by decide) (by assumption)
      refine Go.iload (pc' := 155) X203 hx hby at_153 rfl rfl ?_
      refine Go.icmpN (pc' := 158) X203 hx hby at_155 rfl (show ¬ ((1 : Int32) ≠ (1 : Int32)) from fun q => q rfl) ?_
      refine Go.iconst (pc' := 159) X203 hx hby at_158 rfl (v := (1 : Int32)) (by decide) ?_
      refine Go.goto (pc' := 163) X203 hx hby at_159 (by decide) (by decide) ?_
      exact Go.retZ X203 hx hby hlk hret (by simp) at_163 (by decide) (by decide) ⟨rfl, N188⟩
    ·
      refine Go.iload (pc' := 101) X193 hx hby at_99 rfl rfl ?_
      refine Go.iconst (pc' := 102) X193 hx hby at_101 rfl (v := (1 : Int32)) (by decide) ?_
      refine Go.icmpN (pc' := 105) X193 hx hby at_102 rfl (show ¬ ((3 : Int32) ≤ (1 : Int32)) from by decide) ?_
      refine Go.iload (pc' := 107) X193 hx hby at_105 rfl rfl ?_
      refine Go.callS (pc' := 110) (W := 0) (argsL := [(.int d1)]) (rest := []) X193 hx hby hZ hown (hw _ (List.mem_of_getElem? (i := 10) rfl)) (hw _ (List.mem_of_getElem? (i := 11) rfl)) (hw _ (List.mem_of_getElem? (i := 3) rfl)) (hw _ (List.mem_of_getElem? (i := 12) rfl)) (by decide) (rmS l Z a0 hw d1 _) e195 (by decide) (by decide) (by rw [hml]; rfl) pd_1 rfl rfl rfl (Nat.le_of_eq rfl) at_107 rfl (by decide) (by decide) ?_
      rintro r204 T205 L206 X207 ⟨rfl, rfl, e209⟩
      rw [List.append_nil] at X207
      show Go p e below _ (T205.setTop (mkF m 110 #[.val (.int x0), .val (.int x1), .val (.int x2), .val (.int x3), .val (.int x4), .val (.int (3 : Int32)), .val (.int d0), .val (.int d1), .val (.int d2), .val (.int d3), .val (.ref b151), .unset] [(.int (own_sp d1))]))
      refine Go.if_ (pc' := 141) (pn := 113) X207 hx hby at_110 (by decide) (by decide) rfl (fun (c210 : (own_sp d1) ≠ 0) => ?_) (fun (c210 : ¬ ((own_sp d1) ≠ 0)) => ?_)
      ·
        refine Go.iconst (pc' := 142) X207 hx hby at_141 rfl (v := (1 : Int32)) (by decide) ?_
        refine Go.goto (pc' := 146) X207 hx hby at_142 (by decide) (by decide) ?_
        refine Go.istore (Ls' := #[.val (.int x0), .val (.int x1), .val (.int x2), .val (.int x3), .val (.int x4), .val (.int (3 : Int32)), .val (.int d0), .val (.int d1), .val (.int d2), .val (.int d3), .val (.ref b151), .val (.int (1 : Int32))]) (pc' := 148) X207 hx hby at_146 rfl rfl ?_
        refine Go.aload (pc' := 150) X207 hx hby at_148 rfl rfl rfl ?_
        refine Go.callS (pc' := 153) (W := 0) (argsL := [(.ref b151)]) (rest := []) X207 hx hby hZ hown (hw _ (List.mem_of_getElem? (i := 6) rfl)) (hw _ (List.mem_of_getElem? (i := 7) rfl)) (hw _ (List.mem_of_getElem? (i := 8) rfl)) (hw _ (List.mem_of_getElem? (i := 9) rfl)) (by decide) (rmN l Z a0 hw b151 h181 (3) (own_g d0 d1 d2 d3) f189) e209 (by decide) (by decide) (by rw [hml]; rfl) pd_2 rfl rfl rfl (Nat.le_of_eq rfl) at_150 rfl (by decide) (by decide) ?_
        rintro r214 T215 L216 X217 ⟨r211, rfl, A212, rfl, e213⟩
        rw [List.append_nil] at X217
        show Go p e below _ (T215.setTop (mkF m 153 #[.val (.int x0), .val (.int x1), .val (.int x2), .val (.int x3), .val (.int x4), .val (.int (3 : Int32)), .val (.int d0), .val (.int d1), .val (.int d2), .val (.int d3), .val (.ref b151), .val (.int (1 : Int32))] [(.int r211)]))
        obtain rfl : r211 = (1 : Int32) := by
          change own_ans _ 3 _ at A212
          first | exact own_yes A212 0 (by decide) (by decide) (by assumption) | exact own_yes A212 1 (by decide) (by decide) (by assumption) | exact own_yes A212 2 (by decide) (by decide) (by assumption) | exact own_yes A212 3 (by decide) (by decide) (by assumption)
        refine Go.iload (pc' := 155) X217 hx hby at_153 rfl rfl ?_
        refine Go.icmpN (pc' := 158) X217 hx hby at_155 rfl (show ¬ ((1 : Int32) ≠ (1 : Int32)) from fun q => q rfl) ?_
        refine Go.iconst (pc' := 159) X217 hx hby at_158 rfl (v := (1 : Int32)) (by decide) ?_
        refine Go.goto (pc' := 163) X217 hx hby at_159 (by decide) (by decide) ?_
        exact Go.retZ X217 hx hby hlk hret (by simp) at_163 (by decide) (by decide) ⟨rfl, N188⟩
      ·
        refine Go.iload (pc' := 115) X207 hx hby at_113 rfl rfl ?_
        refine Go.iconst (pc' := 116) X207 hx hby at_115 rfl (v := (2 : Int32)) (by decide) ?_
        refine Go.icmpN (pc' := 119) X207 hx hby at_116 rfl (show ¬ ((3 : Int32) ≤ (2 : Int32)) from by decide) ?_
        refine Go.iload (pc' := 121) X207 hx hby at_119 rfl rfl ?_
        refine Go.callS (pc' := 124) (W := 0) (argsL := [(.int d2)]) (rest := []) X207 hx hby hZ hown (hw _ (List.mem_of_getElem? (i := 10) rfl)) (hw _ (List.mem_of_getElem? (i := 11) rfl)) (hw _ (List.mem_of_getElem? (i := 3) rfl)) (hw _ (List.mem_of_getElem? (i := 12) rfl)) (by decide) (rmS l Z a0 hw d2 _) e209 (by decide) (by decide) (by rw [hml]; rfl) pd_1 rfl rfl rfl (Nat.le_of_eq rfl) at_121 rfl (by decide) (by decide) ?_
        rintro r218 T219 L220 X221 ⟨rfl, rfl, e223⟩
        rw [List.append_nil] at X221
        show Go p e below _ (T219.setTop (mkF m 124 #[.val (.int x0), .val (.int x1), .val (.int x2), .val (.int x3), .val (.int x4), .val (.int (3 : Int32)), .val (.int d0), .val (.int d1), .val (.int d2), .val (.int d3), .val (.ref b151), .unset] [(.int (own_sp d2))]))
        refine Go.if_ (pc' := 141) (pn := 127) X221 hx hby at_124 (by decide) (by decide) rfl (fun (c224 : (own_sp d2) ≠ 0) => ?_) (fun (c224 : ¬ ((own_sp d2) ≠ 0)) => ?_)
        ·
          refine Go.iconst (pc' := 142) X221 hx hby at_141 rfl (v := (1 : Int32)) (by decide) ?_
          refine Go.goto (pc' := 146) X221 hx hby at_142 (by decide) (by decide) ?_
          refine Go.istore (Ls' := #[.val (.int x0), .val (.int x1), .val (.int x2), .val (.int x3), .val (.int x4), .val (.int (3 : Int32)), .val (.int d0), .val (.int d1), .val (.int d2), .val (.int d3), .val (.ref b151), .val (.int (1 : Int32))]) (pc' := 148) X221 hx hby at_146 rfl rfl ?_
          refine Go.aload (pc' := 150) X221 hx hby at_148 rfl rfl rfl ?_
          refine Go.callS (pc' := 153) (W := 0) (argsL := [(.ref b151)]) (rest := []) X221 hx hby hZ hown (hw _ (List.mem_of_getElem? (i := 6) rfl)) (hw _ (List.mem_of_getElem? (i := 7) rfl)) (hw _ (List.mem_of_getElem? (i := 8) rfl)) (hw _ (List.mem_of_getElem? (i := 9) rfl)) (by decide) (rmN l Z a0 hw b151 h181 (3) (own_g d0 d1 d2 d3) f189) e223 (by decide) (by decide) (by rw [hml]; rfl) pd_2 rfl rfl rfl (Nat.le_of_eq rfl) at_150 rfl (by decide) (by decide) ?_
          rintro r228 T229 L230 X231 ⟨r225, rfl, A226, rfl, e227⟩
          rw [List.append_nil] at X231
          show Go p e below _ (T229.setTop (mkF m 153 #[.val (.int x0), .val (.int x1), .val (.int x2), .val (.int x3), .val (.int x4), .val (.int (3 : Int32)), .val (.int d0), .val (.int d1), .val (.int d2), .val (.int d3), .val (.ref b151), .val (.int (1 : Int32))] [(.int r225)]))
          obtain rfl : r225 = (1 : Int32) := by
            change own_ans _ 3 _ at A226
            first | exact own_yes A226 0 (by decide) (by decide) (by assumption) | exact own_yes A226 1 (by decide) (by decide) (by assumption) | exact own_yes A226 2 (by decide) (by decide) (by assumption) | exact own_yes A226 3 (by decide) (by decide) (by assumption)
          refine Go.iload (pc' := 155) X231 hx hby at_153 rfl rfl ?_
          refine Go.icmpN (pc' := 158) X231 hx hby at_155 rfl (show ¬ ((1 : Int32) ≠ (1 : Int32)) from fun q => q rfl) ?_
          refine Go.iconst (pc' := 159) X231 hx hby at_158 rfl (v := (1 : Int32)) (by decide) ?_
          refine Go.goto (pc' := 163) X231 hx hby at_159 (by decide) (by decide) ?_
          exact Go.retZ X231 hx hby hlk hret (by simp) at_163 (by decide) (by decide) ⟨rfl, N188⟩
        ·
          refine Go.iload (pc' := 129) X221 hx hby at_127 rfl rfl ?_
          refine Go.iconst (pc' := 130) X221 hx hby at_129 rfl (v := (3 : Int32)) (by decide) ?_
          refine Go.icmpY (pc' := 145) X221 hx hby at_130 (by decide) (by decide) (show (3 : Int32) ≤ (3 : Int32) from by decide) ?_
          refine Go.iconst (pc' := 146) X221 hx hby at_145 rfl (v := (0 : Int32)) (by decide) ?_
          refine Go.istore (Ls' := #[.val (.int x0), .val (.int x1), .val (.int x2), .val (.int x3), .val (.int x4), .val (.int (3 : Int32)), .val (.int d0), .val (.int d1), .val (.int d2), .val (.int d3), .val (.ref b151), .val (.int (0 : Int32))]) (pc' := 148) X221 hx hby at_146 rfl rfl ?_
          refine Go.aload (pc' := 150) X221 hx hby at_148 rfl rfl rfl ?_
          refine Go.callS (pc' := 153) (W := 0) (argsL := [(.ref b151)]) (rest := []) X221 hx hby hZ hown (hw _ (List.mem_of_getElem? (i := 6) rfl)) (hw _ (List.mem_of_getElem? (i := 7) rfl)) (hw _ (List.mem_of_getElem? (i := 8) rfl)) (hw _ (List.mem_of_getElem? (i := 9) rfl)) (by decide) (rmN l Z a0 hw b151 h181 (3) (own_g d0 d1 d2 d3) f189) e223 (by decide) (by decide) (by rw [hml]; rfl) pd_2 rfl rfl rfl (Nat.le_of_eq rfl) at_150 rfl (by decide) (by decide) ?_
          rintro r235 T236 L237 X238 ⟨r232, rfl, A233, rfl, e234⟩
          rw [List.append_nil] at X238
          show Go p e below _ (T236.setTop (mkF m 153 #[.val (.int x0), .val (.int x1), .val (.int x2), .val (.int x3), .val (.int x4), .val (.int (3 : Int32)), .val (.int d0), .val (.int d1), .val (.int d2), .val (.int d3), .val (.ref b151), .val (.int (0 : Int32))] [(.int r232)]))
          obtain rfl : r232 = (0 : Int32) := by
            change own_ans _ 3 _ at A233
            refine own_no A233 (fun j h1 h2 => ?_)
            have hj : j = 0 ∨ j = 1 ∨ j = 2 ∨ j = 3 := by omega
            rcases hj with rfl | rfl | rfl | rfl <;> first | (exact Classical.not_not.mp (by assumption)) | (simp only [own_g]; simp_all; done) | omega
          refine Go.iload (pc' := 155) X238 hx hby at_153 rfl rfl ?_
          refine Go.icmpN (pc' := 158) X238 hx hby at_155 rfl (show ¬ ((0 : Int32) ≠ (0 : Int32)) from fun q => q rfl) ?_
          refine Go.iconst (pc' := 159) X238 hx hby at_158 rfl (v := (1 : Int32)) (by decide) ?_
          refine Go.goto (pc' := 163) X238 hx hby at_159 (by decide) (by decide) ?_
          exact Go.retZ X238 hx hby hlk hret (by simp) at_163 (by decide) (by decide) ⟨rfl, N188⟩
  ·
    show Go p e below _ (T20.setTop (mkF m 33 #[.val (.int x0), .val (.int x1), .val (.int x2), .val (.int x3), .val (.int x4), .val (.int (4 : Int32)), .val (.int d0), .val (.int d1), .val (.int d2), .val (.int d3), .unset, .unset] []))
    refine Go.iload (pc' := 35) X22 hx hby at_33 rfl rfl ?_
    refine Go.newarr (pc' := 37) (cap := 4) (z := 4) X22 hx hby hZ (hw _ (List.mem_of_getElem? (i := 5) rfl)) e24 at_35 rfl (by decide) (by decide) (by decide) (by decide) (by decide) (by decide) ?_
    intro b239 T240 h241 g242 X243 e244 E245 A246
    have g247 : h0.size ≤ b239 := by rw [g242]; exact (Nat.le_refl _)
    have z248 : h0.size ≤ h241.size := Nat.le_trans (Nat.le_refl _) E245.1
    have f249 : Ar Z h241 b239 .byte 4 (fun _ => (.int 0)) := A246
    show Go p e below _ (T240.setTop (mkF m 37 #[.val (.int x0), .val (.int x1), .val (.int x2), .val (.int x3), .val (.int x4), .val (.int (4 : Int32)), .val (.int d0), .val (.int d1), .val (.int d2), .val (.int d3), .unset, .unset] [(.ref b239)]))
    refine Go.astore (Ls' := #[.val (.int x0), .val (.int x1), .val (.int x2), .val (.int x3), .val (.int x4), .val (.int (4 : Int32)), .val (.int d0), .val (.int d1), .val (.int d2), .val (.int d3), .val (.ref b239), .unset]) (pc' := 39) X243 hx hby at_37 rfl rfl rfl ?_
    refine Go.iload (pc' := 41) X243 hx hby at_39 rfl rfl ?_
    refine Go.ifN (pc' := 44) X243 hx hby at_41 rfl (show ¬ ((4 : Int32) ≤ 0) from by decide) ?_
    refine Go.aload (pc' := 46) X243 hx hby at_44 rfl rfl rfl ?_
    refine Go.iconst (pc' := 47) X243 hx hby at_46 rfl (v := (0 : Int32)) (by decide) ?_
    refine Go.iload (pc' := 49) X243 hx hby at_47 rfl rfl ?_
    refine Go.bastore (pc' := 50) (i := 0) X243 hx hby hZ e244 f249 at_49 rfl (by decide) (by decide) (by decide) ?_
    intro T250 h251 X252 e253 W254 A255
    have z256 : h0.size ≤ h251.size := by rw [Wr.size W254]; exact z248
    have f257 : Ar Z h251 b239 .byte 4 (fun q => if q = 0 then (.int (nar .byte d0)) else (.int 0)) := A255
    have N258 : Fr h0.size _ := Fr.snoc X252 (Fr.nil _) g247
    show Go p e below _ (T250.setTop (mkF m 50 #[.val (.int x0), .val (.int x1), .val (.int x2), .val (.int x3), .val (.int x4), .val (.int (4 : Int32)), .val (.int d0), .val (.int d1), .val (.int d2), .val (.int d3), .val (.ref b239), .unset] []))
    refine Go.iload (pc' := 52) X252 hx hby at_50 rfl rfl ?_
    refine Go.iconst (pc' := 53) X252 hx hby at_52 rfl (v := (1 : Int32)) (by decide) ?_
    refine Go.icmpN (pc' := 56) X252 hx hby at_53 rfl (show ¬ ((4 : Int32) ≤ (1 : Int32)) from by decide) ?_
    refine Go.aload (pc' := 58) X252 hx hby at_56 rfl rfl rfl ?_
    refine Go.iconst (pc' := 59) X252 hx hby at_58 rfl (v := (1 : Int32)) (by decide) ?_
    refine Go.iload (pc' := 61) X252 hx hby at_59 rfl rfl ?_
    refine Go.bastore (pc' := 62) (i := 1) X252 hx hby hZ e253 f257 at_61 rfl (by decide) (by decide) (by decide) ?_
    intro T259 h260 X261 e262 W263 A264
    have z265 : h0.size ≤ h260.size := by rw [Wr.size W263]; exact z256
    have f266 : Ar Z h260 b239 .byte 4 (fun q => if q = 1 then (.int (nar .byte d1)) else if q = 0 then (.int (nar .byte d0)) else (.int 0)) := A264
    have N267 : Fr h0.size _ := Fr.snoc X261 N258 g247
    show Go p e below _ (T259.setTop (mkF m 62 #[.val (.int x0), .val (.int x1), .val (.int x2), .val (.int x3), .val (.int x4), .val (.int (4 : Int32)), .val (.int d0), .val (.int d1), .val (.int d2), .val (.int d3), .val (.ref b239), .unset] []))
    refine Go.iload (pc' := 64) X261 hx hby at_62 rfl rfl ?_
    refine Go.iconst (pc' := 65) X261 hx hby at_64 rfl (v := (2 : Int32)) (by decide) ?_
    refine Go.icmpN (pc' := 68) X261 hx hby at_65 rfl (show ¬ ((4 : Int32) ≤ (2 : Int32)) from by decide) ?_
    refine Go.aload (pc' := 70) X261 hx hby at_68 rfl rfl rfl ?_
    refine Go.iconst (pc' := 71) X261 hx hby at_70 rfl (v := (2 : Int32)) (by decide) ?_
    refine Go.iload (pc' := 73) X261 hx hby at_71 rfl rfl ?_
    refine Go.bastore (pc' := 74) (i := 2) X261 hx hby hZ e262 f266 at_73 rfl (by decide) (by decide) (by decide) ?_
    intro T268 h269 X270 e271 W272 A273
    have z274 : h0.size ≤ h269.size := by rw [Wr.size W272]; exact z265
    have f275 : Ar Z h269 b239 .byte 4 (fun q => if q = 2 then (.int (nar .byte d2)) else if q = 1 then (.int (nar .byte d1)) else if q = 0 then (.int (nar .byte d0)) else (.int 0)) := A273
    have N276 : Fr h0.size _ := Fr.snoc X270 N267 g247
    show Go p e below _ (T268.setTop (mkF m 74 #[.val (.int x0), .val (.int x1), .val (.int x2), .val (.int x3), .val (.int x4), .val (.int (4 : Int32)), .val (.int d0), .val (.int d1), .val (.int d2), .val (.int d3), .val (.ref b239), .unset] []))
    refine Go.iload (pc' := 76) X270 hx hby at_74 rfl rfl ?_
    refine Go.iconst (pc' := 77) X270 hx hby at_76 rfl (v := (3 : Int32)) (by decide) ?_
    refine Go.icmpN (pc' := 80) X270 hx hby at_77 rfl (show ¬ ((4 : Int32) ≤ (3 : Int32)) from by decide) ?_
    refine Go.aload (pc' := 82) X270 hx hby at_80 rfl rfl rfl ?_
    refine Go.iconst (pc' := 83) X270 hx hby at_82 rfl (v := (3 : Int32)) (by decide) ?_
    refine Go.iload (pc' := 85) X270 hx hby at_83 rfl rfl ?_
    refine Go.bastore (pc' := 86) (i := 3) X270 hx hby hZ e271 f275 at_85 rfl (by decide) (by decide) (by decide) ?_
    intro T277 h278 X279 e280 W281 A282
    have z283 : h0.size ≤ h278.size := by rw [Wr.size W281]; exact z274
    have f284 : Ar Z h278 b239 .byte 4 (fun q => if q = 3 then (.int (nar .byte d3)) else if q = 2 then (.int (nar .byte d2)) else if q = 1 then (.int (nar .byte d1)) else if q = 0 then (.int (nar .byte d0)) else (.int 0)) := A282
    have N285 : Fr h0.size _ := Fr.snoc X279 N276 g247
    show Go p e below _ (T277.setTop (mkF m 86 #[.val (.int x0), .val (.int x1), .val (.int x2), .val (.int x3), .val (.int x4), .val (.int (4 : Int32)), .val (.int d0), .val (.int d1), .val (.int d2), .val (.int d3), .val (.ref b239), .unset] []))
    refine Go.iload (pc' := 88) X279 hx hby at_86 rfl rfl ?_
    have f286 : Ar Z h278 b239 .byte 4 (fun q => .int (own_g d0 d1 d2 d3 q)) := f284.congr (by intro i h0 h1; simp only [own_g, nd0, nd1, nd2, nd3]; (repeat' split) <;> first | rfl | omega)
    refine Go.ifN (pc' := 91) X279 hx hby at_88 rfl (show ¬ ((4 : Int32) ≤ 0) from by decide) ?_
    refine Go.iload (pc' := 93) X279 hx hby at_91 rfl rfl ?_
    refine Go.callS (pc' := 96) (W := 0) (argsL := [(.int d0)]) (rest := []) X279 hx hby hZ hown (hw _ (List.mem_of_getElem? (i := 10) rfl)) (hw _ (List.mem_of_getElem? (i := 11) rfl)) (hw _ (List.mem_of_getElem? (i := 3) rfl)) (hw _ (List.mem_of_getElem? (i := 12) rfl)) (by decide) (rmS l Z a0 hw d0 _) e280 (by decide) (by decide) (by rw [hml]; rfl) pd_1 rfl rfl rfl (Nat.le_of_eq rfl) at_93 rfl (by decide) (by decide) ?_
    rintro r287 T288 L289 X290 ⟨rfl, rfl, e292⟩
    rw [List.append_nil] at X290
    show Go p e below _ (T288.setTop (mkF m 96 #[.val (.int x0), .val (.int x1), .val (.int x2), .val (.int x3), .val (.int x4), .val (.int (4 : Int32)), .val (.int d0), .val (.int d1), .val (.int d2), .val (.int d3), .val (.ref b239), .unset] [(.int (own_sp d0))]))
    refine Go.if_ (pc' := 141) (pn := 99) X290 hx hby at_96 (by decide) (by decide) rfl (fun (c293 : (own_sp d0) ≠ 0) => ?_) (fun (c293 : ¬ ((own_sp d0) ≠ 0)) => ?_)
    ·
      refine Go.iconst (pc' := 142) X290 hx hby at_141 rfl (v := (1 : Int32)) (by decide) ?_
      refine Go.goto (pc' := 146) X290 hx hby at_142 (by decide) (by decide) ?_
      refine Go.istore (Ls' := #[.val (.int x0), .val (.int x1), .val (.int x2), .val (.int x3), .val (.int x4), .val (.int (4 : Int32)), .val (.int d0), .val (.int d1), .val (.int d2), .val (.int d3), .val (.ref b239), .val (.int (1 : Int32))]) (pc' := 148) X290 hx hby at_146 rfl rfl ?_
      refine Go.aload (pc' := 150) X290 hx hby at_148 rfl rfl rfl ?_
      refine Go.callS (pc' := 153) (W := 0) (argsL := [(.ref b239)]) (rest := []) X290 hx hby hZ hown (hw _ (List.mem_of_getElem? (i := 6) rfl)) (hw _ (List.mem_of_getElem? (i := 7) rfl)) (hw _ (List.mem_of_getElem? (i := 8) rfl)) (hw _ (List.mem_of_getElem? (i := 9) rfl)) (by decide) (rmN l Z a0 hw b239 h278 (4) (own_g d0 d1 d2 d3) f286) e292 (by decide) (by decide) (by rw [hml]; rfl) pd_2 rfl rfl rfl (Nat.le_of_eq rfl) at_150 rfl (by decide) (by decide) ?_
      rintro r297 T298 L299 X300 ⟨r294, rfl, A295, rfl, e296⟩
      rw [List.append_nil] at X300
      show Go p e below _ (T298.setTop (mkF m 153 #[.val (.int x0), .val (.int x1), .val (.int x2), .val (.int x3), .val (.int x4), .val (.int (4 : Int32)), .val (.int d0), .val (.int d1), .val (.int d2), .val (.int d3), .val (.ref b239), .val (.int (1 : Int32))] [(.int r294)]))
      obtain rfl : r294 = (1 : Int32) := by
        change own_ans _ 4 _ at A295
        first | exact own_yes A295 0 (by decide) (by decide) (by assumption) | exact own_yes A295 1 (by decide) (by decide) (by assumption) | exact own_yes A295 2 (by decide) (by decide) (by assumption) | exact own_yes A295 3 (by decide) (by decide) (by assumption)
      refine Go.iload (pc' := 155) X300 hx hby at_153 rfl rfl ?_
      refine Go.icmpN (pc' := 158) X300 hx hby at_155 rfl (show ¬ ((1 : Int32) ≠ (1 : Int32)) from fun q => q rfl) ?_
      refine Go.iconst (pc' := 159) X300 hx hby at_158 rfl (v := (1 : Int32)) (by decide) ?_
      refine Go.goto (pc' := 163) X300 hx hby at_159 (by decide) (by decide) ?_
      exact Go.retZ X300 hx hby hlk hret (by simp) at_163 (by decide) (by decide) ⟨rfl, N285⟩
    ·
      refine Go.iload (pc' := 101) X290 hx hby at_99 rfl rfl ?_
      refine Go.iconst (pc' := 102) X290 hx hby at_101 rfl (v := (1 : Int32)) (by decide) ?_
      refine Go.icmpN (pc' := 105) X290 hx hby at_102 rfl (show ¬ ((4 : Int32) ≤ (1 : Int32)) from by decide) ?_
      refine Go.iload (pc' := 107) X290 hx hby at_105 rfl rfl ?_
      refine Go.callS (pc' := 110) (W := 0) (argsL := [(.int d1)]) (rest := []) X290 hx hby hZ hown (hw _ (List.mem_of_getElem? (i := 10) rfl)) (hw _ (List.mem_of_getElem? (i := 11) rfl)) (hw _ (List.mem_of_getElem? (i := 3) rfl)) (hw _ (List.mem_of_getElem? (i := 12) rfl)) (by decide) (rmS l Z a0 hw d1 _) e292 (by decide) (by decide) (by rw [hml]; rfl) pd_1 rfl rfl rfl (Nat.le_of_eq rfl) at_107 rfl (by decide) (by decide) ?_
      rintro r301 T302 L303 X304 ⟨rfl, rfl, e306⟩
      rw [List.append_nil] at X304
      show Go p e below _ (T302.setTop (mkF m 110 #[.val (.int x0), .val (.int x1), .val (.int x2), .val (.int x3), .val (.int x4), .val (.int (4 : Int32)), .val (.int d0), .val (.int d1), .val (.int d2), .val (.int d3), .val (.ref b239), .unset] [(.int (own_sp d1))]))
      refine Go.if_ (pc' := 141) (pn := 113) X304 hx hby at_110 (by decide) (by decide) rfl (fun (c307 : (own_sp d1) ≠ 0) => ?_) (fun (c307 : ¬ ((own_sp d1) ≠ 0)) => ?_)
      ·
        refine Go.iconst (pc' := 142) X304 hx hby at_141 rfl (v := (1 : Int32)) (by decide) ?_
        refine Go.goto (pc' := 146) X304 hx hby at_142 (by decide) (by decide) ?_
        refine Go.istore (Ls' := #[.val (.int x0), .val (.int x1), .val (.int x2), .val (.int x3), .val (.int x4), .val (.int (4 : Int32)), .val (.int d0), .val (.int d1), .val (.int d2), .val (.int d3), .val (.ref b239), .val (.int (1 : Int32))]) (pc' := 148) X304 hx hby at_146 rfl rfl ?_
        refine Go.aload (pc' := 150) X304 hx hby at_148 rfl rfl rfl ?_
        refine Go.callS (pc' := 153) (W := 0) (argsL := [(.ref b239)]) (rest := []) X304 hx hby hZ hown (hw _ (List.mem_of_getElem? (i := 6) rfl)) (hw _ (List.mem_of_getElem? (i := 7) rfl)) (hw _ (List.mem_of_getElem? (i := 8) rfl)) (hw _ (List.mem_of_getElem? (i := 9) rfl)) (by decide) (rmN l Z a0 hw b239 h278 (4) (own_g d0 d1 d2 d3) f286) e306 (by decide) (by decide) (by rw [hml]; rfl) pd_2 rfl rfl rfl (Nat.le_of_eq rfl) at_150 rfl (by decide) (by decide) ?_
        rintro r311 T312 L313 X314 ⟨r308, rfl, A309, rfl, e310⟩
        rw [List.append_nil] at X314
        show Go p e below _ (T312.setTop (mkF m 153 #[.val (.int x0), .val (.int x1), .val (.int x2), .val (.int x3), .val (.int x4), .val (.int (4 : Int32)), .val (.int d0), .val (.int d1), .val (.int d2), .val (.int d3), .val (.ref b239), .val (.int (1 : Int32))] [(.int r308)]))
        obtain rfl : r308 = (1 : Int32) := by
          change own_ans _ 4 _ at A309
          first | exact own_yes A309 0 (by decide) (by decide) (by assumption) | exact own_yes A309 1 (by decide) (by decide) (by assumption) | exact own_yes A309 2 (by decide) (by decide) (by assumption) | exact own_yes A309 3 (by decide) (by decide) (by assumption)
        refine Go.iload (pc' := 155) X314 hx hby at_153 rfl rfl ?_
        refine Go.icmpN (pc' := 158) X314 hx hby at_155 rfl (show ¬ ((1 : Int32) ≠ (1 : Int32)) from fun q => q rfl) ?_
        refine Go.iconst (pc' := 159) X314 hx hby at_158 rfl (v := (1 : Int32)) (by decide) ?_
        refine Go.goto (pc' := 163) X314 hx hby at_159 (by decide) (by decide) ?_
        exact Go.retZ X314 hx hby hlk hret (by simp) at_163 (by decide) (by decide) ⟨rfl, N285⟩
      ·
        refine Go.iload (pc' := 115) X304 hx hby at_113 rfl rfl ?_
        refine Go.iconst (pc' := 116) X304 hx hby at_115 rfl (v := (2 : Int32)) (by decide) ?_
        refine Go.icmpN (pc' := 119) X304 hx hby at_116 rfl (show ¬ ((4 : Int32) ≤ (2 : Int32)) from by decide) ?_
        refine Go.iload (pc' := 121) X304 hx hby at_119 rfl rfl ?_
        refine Go.callS (pc' := 124) (W := 0) (argsL := [(.int d2)]) (rest := []) X304 hx hby hZ hown (hw _ (List.mem_of_getElem? (i := 10) rfl)) (hw _ (List.mem_of_getElem? (i := 11) rfl)) (hw _ (List.mem_of_getElem? (i := 3) rfl)) (hw _ (List.mem_of_getElem? (i := 12) rfl)) (by decide) (rmS l Z a0 hw d2 _) e306 (by decide) (by decide) (by rw [hml]; rfl) pd_1 rfl rfl rfl (Nat.le_of_eq rfl) at_121 rfl (by decide) (by decide) ?_
        rintro r315 T316 L317 X318 ⟨rfl, rfl, e320⟩
        rw [List.append_nil] at X318
        show Go p e below _ (T316.setTop (mkF m 124 #[.val (.int x0), .val (.int x1), .val (.int x2), .val (.int x3), .val (.int x4), .val (.int (4 : Int32)), .val (.int d0), .val (.int d1), .val (.int d2), .val (.int d3), .val (.ref b239), .unset] [(.int (own_sp d2))]))
        refine Go.if_ (pc' := 141) (pn := 127) X318 hx hby at_124 (by decide) (by decide) rfl (fun (c321 : (own_sp d2) ≠ 0) => ?_) (fun (c321 : ¬ ((own_sp d2) ≠ 0)) => ?_)
        ·
          refine Go.iconst (pc' := 142) X318 hx hby at_141 rfl (v := (1 : Int32)) (by decide) ?_
          refine Go.goto (pc' := 146) X318 hx hby at_142 (by decide) (by decide) ?_
          refine Go.istore (Ls' := #[.val (.int x0), .val (.int x1), .val (.int x2), .val (.int x3), .val (.int x4), .val (.int (4 : Int32)), .val (.int d0), .val (.int d1), .val (.int d2), .val (.int d3), .val (.ref b239), .val (.int (1 : Int32))]) (pc' := 148) X318 hx hby at_146 rfl rfl ?_
          refine Go.aload (pc' := 150) X318 hx hby at_148 rfl rfl rfl ?_
          refine Go.callS (pc' := 153) (W := 0) (argsL := [(.ref b239)]) (rest := []) X318 hx hby hZ hown (hw _ (List.mem_of_getElem? (i := 6) rfl)) (hw _ (List.mem_of_getElem? (i := 7) rfl)) (hw _ (List.mem_of_getElem? (i := 8) rfl)) (hw _ (List.mem_of_getElem? (i := 9) rfl)) (by decide) (rmN l Z a0 hw b239 h278 (4) (own_g d0 d1 d2 d3) f286) e320 (by decide) (by decide) (by rw [hml]; rfl) pd_2 rfl rfl rfl (Nat.le_of_eq rfl) at_150 rfl (by decide) (by decide) ?_
          rintro r325 T326 L327 X328 ⟨r322, rfl, A323, rfl, e324⟩
          rw [List.append_nil] at X328
          show Go p e below _ (T326.setTop (mkF m 153 #[.val (.int x0), .val (.int x1), .val (.int x2), .val (.int x3), .val (.int x4), .val (.int (4 : Int32)), .val (.int d0), .val (.int d1), .val (.int d2), .val (.int d3), .val (.ref b239), .val (.int (1 : Int32))] [(.int r322)]))
          obtain rfl : r322 = (1 : Int32) := by
            change own_ans _ 4 _ at A323
            first | exact own_yes A323 0 (by decide) (by decide) (by assumption) | exact own_yes A323 1 (by decide) (by decide) (by assumption) | exact own_yes A323 2 (by decide) (by decide) (by assumption) | exact own_yes A323 3 (by decide) (by decide) (by assumption)
          refine Go.iload (pc' := 155) X328 hx hby at_153 rfl rfl ?_
          refine Go.icmpN (pc' := 158) X328 hx hby at_155 rfl (show ¬ ((1 : Int32) ≠ (1 : Int32)) from fun q => q rfl) ?_
          refine Go.iconst (pc' := 159) X328 hx hby at_158 rfl (v := (1 : Int32)) (by decide) ?_
          refine Go.goto (pc' := 163) X328 hx hby at_159 (by decide) (by decide) ?_
          exact Go.retZ X328 hx hby hlk hret (by simp) at_163 (by decide) (by decide) ⟨rfl, N285⟩
        ·
          refine Go.iload (pc' := 129) X318 hx hby at_127 rfl rfl ?_
          refine Go.iconst (pc' := 130) X318 hx hby at_129 rfl (v := (3 : Int32)) (by decide) ?_
          refine Go.icmpN (pc' := 133) X318 hx hby at_130 rfl (show ¬ ((4 : Int32) ≤ (3 : Int32)) from by decide) ?_
          refine Go.iload (pc' := 135) X318 hx hby at_133 rfl rfl ?_
          refine Go.callS (pc' := 138) (W := 0) (argsL := [(.int d3)]) (rest := []) X318 hx hby hZ hown (hw _ (List.mem_of_getElem? (i := 10) rfl)) (hw _ (List.mem_of_getElem? (i := 11) rfl)) (hw _ (List.mem_of_getElem? (i := 3) rfl)) (hw _ (List.mem_of_getElem? (i := 12) rfl)) (by decide) (rmS l Z a0 hw d3 _) e320 (by decide) (by decide) (by rw [hml]; rfl) pd_1 rfl rfl rfl (Nat.le_of_eq rfl) at_135 rfl (by decide) (by decide) ?_
          rintro r329 T330 L331 X332 ⟨rfl, rfl, e334⟩
          rw [List.append_nil] at X332
          show Go p e below _ (T330.setTop (mkF m 138 #[.val (.int x0), .val (.int x1), .val (.int x2), .val (.int x3), .val (.int x4), .val (.int (4 : Int32)), .val (.int d0), .val (.int d1), .val (.int d2), .val (.int d3), .val (.ref b239), .unset] [(.int (own_sp d3))]))
          refine Go.if_ (pc' := 145) (pn := 141) X332 hx hby at_138 (by decide) (by decide) rfl (fun (c335 : (own_sp d3) = 0) => ?_) (fun (c335 : ¬ ((own_sp d3) = 0)) => ?_)
          ·
            refine Go.iconst (pc' := 146) X332 hx hby at_145 rfl (v := (0 : Int32)) (by decide) ?_
            refine Go.istore (Ls' := #[.val (.int x0), .val (.int x1), .val (.int x2), .val (.int x3), .val (.int x4), .val (.int (4 : Int32)), .val (.int d0), .val (.int d1), .val (.int d2), .val (.int d3), .val (.ref b239), .val (.int (0 : Int32))]) (pc' := 148) X332 hx hby at_146 rfl rfl ?_
            refine Go.aload (pc' := 150) X332 hx hby at_148 rfl rfl rfl ?_
            refine Go.callS (pc' := 153) (W := 0) (argsL := [(.ref b239)]) (rest := []) X332 hx hby hZ hown (hw _ (List.mem_of_getElem? (i := 6) rfl)) (hw _ (List.mem_of_getElem? (i := 7) rfl)) (hw _ (List.mem_of_getElem? (i := 8) rfl)) (hw _ (List.mem_of_getElem? (i := 9) rfl)) (by decide) (rmN l Z a0 hw b239 h278 (4) (own_g d0 d1 d2 d3) f286) e334 (by decide) (by decide) (by rw [hml]; rfl) pd_2 rfl rfl rfl (Nat.le_of_eq rfl) at_150 rfl (by decide) (by decide) ?_
            rintro r339 T340 L341 X342 ⟨r336, rfl, A337, rfl, e338⟩
            rw [List.append_nil] at X342
            show Go p e below _ (T340.setTop (mkF m 153 #[.val (.int x0), .val (.int x1), .val (.int x2), .val (.int x3), .val (.int x4), .val (.int (4 : Int32)), .val (.int d0), .val (.int d1), .val (.int d2), .val (.int d3), .val (.ref b239), .val (.int (0 : Int32))] [(.int r336)]))
            obtain rfl : r336 = (0 : Int32) := by
              change own_ans _ 4 _ at A337
              refine own_no A337 (fun j h1 h2 => ?_)
              have hj : j = 0 ∨ j = 1 ∨ j = 2 ∨ j = 3 := by omega
              rcases hj with rfl | rfl | rfl | rfl <;> first | (exact Classical.not_not.mp (by assumption)) | (simp only [own_g]; simp_all; done) | omega
            refine Go.iload (pc' := 155) X342 hx hby at_153 rfl rfl ?_
            refine Go.icmpN (pc' := 158) X342 hx hby at_155 rfl (show ¬ ((0 : Int32) ≠ (0 : Int32)) from fun q => q rfl) ?_
            refine Go.iconst (pc' := 159) X342 hx hby at_158 rfl (v := (1 : Int32)) (by decide) ?_
            refine Go.goto (pc' := 163) X342 hx hby at_159 (by decide) (by decide) ?_
            exact Go.retZ X342 hx hby hlk hret (by simp) at_163 (by decide) (by decide) ⟨rfl, N285⟩
          ·
            refine Go.iconst (pc' := 142) X332 hx hby at_141 rfl (v := (1 : Int32)) (by decide) ?_
            refine Go.goto (pc' := 146) X332 hx hby at_142 (by decide) (by decide) ?_
            refine Go.istore (Ls' := #[.val (.int x0), .val (.int x1), .val (.int x2), .val (.int x3), .val (.int x4), .val (.int (4 : Int32)), .val (.int d0), .val (.int d1), .val (.int d2), .val (.int d3), .val (.ref b239), .val (.int (1 : Int32))]) (pc' := 148) X332 hx hby at_146 rfl rfl ?_
            refine Go.aload (pc' := 150) X332 hx hby at_148 rfl rfl rfl ?_
            refine Go.callS (pc' := 153) (W := 0) (argsL := [(.ref b239)]) (rest := []) X332 hx hby hZ hown (hw _ (List.mem_of_getElem? (i := 6) rfl)) (hw _ (List.mem_of_getElem? (i := 7) rfl)) (hw _ (List.mem_of_getElem? (i := 8) rfl)) (hw _ (List.mem_of_getElem? (i := 9) rfl)) (by decide) (rmN l Z a0 hw b239 h278 (4) (own_g d0 d1 d2 d3) f286) e334 (by decide) (by decide) (by rw [hml]; rfl) pd_2 rfl rfl rfl (Nat.le_of_eq rfl) at_150 rfl (by decide) (by decide) ?_
            rintro r346 T347 L348 X349 ⟨r343, rfl, A344, rfl, e345⟩
            rw [List.append_nil] at X349
            show Go p e below _ (T347.setTop (mkF m 153 #[.val (.int x0), .val (.int x1), .val (.int x2), .val (.int x3), .val (.int x4), .val (.int (4 : Int32)), .val (.int d0), .val (.int d1), .val (.int d2), .val (.int d3), .val (.ref b239), .val (.int (1 : Int32))] [(.int r343)]))
            obtain rfl : r343 = (1 : Int32) := by
              change own_ans _ 4 _ at A344
              first | exact own_yes A344 0 (by decide) (by decide) (by assumption) | exact own_yes A344 1 (by decide) (by decide) (by assumption) | exact own_yes A344 2 (by decide) (by decide) (by assumption) | exact own_yes A344 3 (by decide) (by decide) (by assumption)
            refine Go.iload (pc' := 155) X349 hx hby at_153 rfl rfl ?_
            refine Go.icmpN (pc' := 158) X349 hx hby at_155 rfl (show ¬ ((1 : Int32) ≠ (1 : Int32)) from fun q => q rfl) ?_
            refine Go.iconst (pc' := 159) X349 hx hby at_158 rfl (v := (1 : Int32)) (by decide) ?_
            refine Go.goto (pc' := 163) X349 hx hby at_159 (by decide) (by decide) ?_
            exact Go.retZ X349 hx hby hlk hret (by simp) at_163 (by decide) (by decide) ⟨rfl, N285⟩
set_option maxRecDepth 65536 in
set_option maxHeartbeats 40000000 in
theorem comes_1 {Post : Tables → Env → Array Value → State → Outcome → State → Prop} (hpost : ∀ tb e args s v u, (limb_1_1.after args s (.returned v) u = true ∧ limb_1_2.after args s (.returned v) u = true ∧ True) → FrameEnd s (.returned v) u (Jvm.fieldLocs frame_1_writes args s ++ Jvm.arrayLocs frame_1_arrays args s ++ Jvm.staticLocs frame_1_statics s) 16 128 → Post tb e args s (.returned v) u) :
    ArmFor flags0 classFile x code maxLocals ret World_1 tables_1 room_1 Calls_1 rest_1 Pre_1 Post := by
  intro l hfl _ _ p e ha hc hk s m args below hf hA hF happ hP
  obtain ⟨hcalls, hrest, hpre⟩ := hP
  obtain ⟨-, -, -, hnamed, -, -, -, hat⟩ := (Spec.applies_iff hf).mp happ
  obtain ⟨hg, hn⟩ := and_e (Cond.before_iff.mp (show (Jvm.Cond.and given_1 narrow_1).before args s = true from hpre))
  obtain ⟨h1, g0⟩ := and_e hg
  obtain ⟨w0, w1, w2, w3, w4, rfl⟩ : ∃ w0 w1 w2 w3 w4 : Value, args = #[w0, w1, w2, w3, w4] := by
    have hs : args.size = 5 := by simpa [Cond.value, given_1] using h1
    obtain ⟨L⟩ := args
    match L, hs with
    | [w0, w1, w2, w3, w4], _ => exact ⟨w0, w1, w2, w3, w4, rfl⟩
  have hw := fun d (hd : d ∈ tables_1) => atoms_spec (ws := Jvm.Cond.code x code maxLocals ret :: tables_1) hat d (List.mem_cons_of_mem _ hd)
  have hfit : Fit s := fun {y c} hc i hi => by
    obtain ⟨ha, rfl⟩ := Array.getElem?_eq_some_iff.mp hc
    have q := List.all_eq_true.mp ((Array.all_eq_true_iff_forall_mem.mp hF) _ (Array.getElem_mem ha)) i (List.mem_range.mpr hi)
    simpa [Array.getElem?_eq_getElem hi] using q
  obtain ⟨k0, g1⟩ := and_e g0
  obtain ⟨i0, e0⟩ := is_v k0
  obtain rfl : w0 = (.int i0) := Option.some.inj e0
  obtain ⟨k1, g2⟩ := and_e g1
  obtain ⟨i1, e1⟩ := is_v k1
  obtain rfl : w1 = (.int i1) := Option.some.inj e1
  obtain ⟨k2, g3⟩ := and_e g2
  obtain ⟨i2, e2⟩ := is_v k2
  obtain rfl : w2 = (.int i2) := Option.some.inj e2
  obtain ⟨k3, g4⟩ := and_e g3
  obtain ⟨i3, e3⟩ := is_v k3
  obtain rfl : w3 = (.int i3) := Option.some.inj e3
  obtain ⟨i4, e4⟩ := is_v g4
  obtain rfl : w4 = (.int i4) := Option.some.inj e4
  obtain ⟨n, o, h1, h2, h3, _, L, rfl, ⟨rfl, N⟩, hq⟩ := rm0 l s _ hw i0 i1 i2 i3 i4 s.heap p e ha hc hk s m _ below hf ((Spec.applies_iff_loose hf).mp happ).1 ⟨rfl, State.Warmed39.refl s, rfl⟩ trivial
  refine ⟨n, _, h1, h2, h3, hpost _ _ _ _ _ _ ⟨Cond.after_iff.mpr rfl, Cond.after_iff.mpr (eq_i res_at (Term.int_eval (1)) rfl), trivial⟩ ⟨hq.1, hq.2.1, (hq.2.2.sift fun y hy => Or.inr (N y hy)).mono (by decide) (by decide)⟩⟩
theorem main_1_1 : Claimed_1_1 := comes_1 fun _ _ _ _ _ _ h hF => ⟨h.1, hF⟩
theorem main_1_2 : Claimed_1_2 := comes_1 fun _ _ _ _ _ _ h hF => ⟨h.2.1, hF⟩
end Jvm.Pilot.@@N@@
namespace Jvm.Pilot.@@N@@
open Jvm Jvm.ClassFile Sem Op Lib Jvm.Free Jvm.Stand Jvm.Pilot.@@N@@.Jvm.D
/-! MADE BY PROGRAM (witnessworld.py) out of the Statement's table words and the real class files: 9 classes; the members and pool entries that the words name. The judged class is class 1, her method 1. -/
namespace start1
open Jvm.ClassFile
def u (s : String) : CpInfo := .utf8 (stringToUtf16 s)
/-- a pool by its gaps: so many unusable entries, then the entry; so many at the end -/
def gap : Nat → List CpInfo → List CpInfo
  | 0, r => r
  | n + 1, r => .unusable :: gap n r
def poolList (es : List (Nat × CpInfo)) (last : Nat) : List CpInfo := es.foldr (fun e r => gap e.1 (e.2 :: r)) (gap last [])
def pool (es : List (Nat × CpInfo)) (last : Nat) : Array CpInfo := ⟨poolList es last⟩
def fileOf (pool : Array CpInfo) (this : Nat) (attrs : Array Attribute := #[]) (ms : Array MethodInfo := #[]) (fl : Nat := 33) (sup : Nat := 0) (ifs : Array Nat := #[]) (fds : Array FieldInfo := #[]) : ClassFile where
  minorVersion := 0
  majorVersion := 65
  constantPool := pool
  accessFlags := fl
  thisClass := this
  superClass := sup
  interfaces := ifs
  fields := fds
  methods := ms
  attributes := attrs
def plain (name : String) (sup : Option ClassId) : Class where
  name := name
  kind := .ordinary
  loader := none
  accessFlags := 33
  super := sup
  interfaces := #[]
  cf := none
  fields := #[]
  methods := #[]
  instanceTypes := #[]
  staticTypes := #[]
  resolved := #[]
  callSites := []
  init := .initialized
  statics := none
  mirror := none

def pool0 : Array CpInfo := pool [(5, u "<init>"), (0, u "()V"), (1, .class_ 10), (1, u "java/lang/Object")] 113

def k0m0 : Method := { name := "<init>", desc := "()V", sig := { parameters := [], returnType := none }, accessFlags := 1, code := none }
/-- java/lang/Object -/
def k0 : Class := { plain "java/lang/Object" none with
  accessFlags := 33
  interfaces := #[]
  cf := some (fileOf pool0 8 #[] #[{ accessFlags := 1, nameIndex := 5, descriptorIndex := 6, attributes := #[] }] 33 0 #[] #[])
  fields := #[]
  methods := #[k0m0]
  instanceTypes := #[]
  staticTypes := #[]
  resolved := Array.replicate 124 none
  statics := none }

def pool1 : Array CpInfo := pool [(2, .class_ 4), (1, u "java/lang/Object"), (0, u "<init>"), (0, u "()V"), (0, .integer 2147483647), (0, .methodref 9 10), (0, .class_ 11), (0, .nameAndType 12 13), (0, u "com/example/tame_recursion/tamerecursion/io/CsvRecordsNeedsQuotesPinLaw"), (0, u "draw"), (0, u "(I)B"), (0, .methodref 9 15), (0, .nameAndType 16 17), (0, u "special"), (0, u "(B)Z"), (0, .methodref 19 20), (0, .class_ 21), (0, .nameAndType 22 23), (0, u "com/example/tame_recursion/tamerecursion/io/CsvRecords"), (0, u "needsQuotes"), (0, u "([B)Z"), (2, u "law"), (0, u "(IIIII)Z")] 5

def k1m0 : Method := { name := "<init>", desc := "()V", sig := { parameters := [], returnType := none }, accessFlags := 1, code := none }
def k1c1 : Code := { maxStack := 3, maxLocals := 12, code := code, exceptionTable := #[], attributes := #[] }
def k1m1 : Method := { name := "law", desc := "(IIIII)Z", sig := { parameters := [.int, .int, .int, .int, .int], returnType := some .boolean }, accessFlags := 9, code := some k1c1 }
def k1c2 : Code := { maxStack := 2, maxLocals := 2, code := method_3_code, exceptionTable := #[], attributes := #[] }
def k1m2 : Method := { name := "draw", desc := "(I)B", sig := { parameters := [.int], returnType := some .byte }, accessFlags := 10, code := some k1c2 }
def k1c3 : Code := { maxStack := 2, maxLocals := 1, code := method_4_code, exceptionTable := #[], attributes := #[] }
def k1m3 : Method := { name := "special", desc := "(B)Z", sig := { parameters := [.byte], returnType := some .boolean }, accessFlags := 10, code := some k1c3 }
/-- com/example/tame_recursion/tamerecursion/io/CsvRecordsNeedsQuotesPinLaw -/
def k1 : Class := { plain "com/example/tame_recursion/tamerecursion/io/CsvRecordsNeedsQuotesPinLaw" (some 0) with
  accessFlags := 49
  interfaces := #[]
  cf := some (fileOf pool1 9 #[] #[{ accessFlags := 1, nameIndex := 5, descriptorIndex := 6, attributes := #[] }, { accessFlags := 9, nameIndex := 26, descriptorIndex := 27, attributes := #[] }, { accessFlags := 10, nameIndex := 12, descriptorIndex := 13, attributes := #[] }, { accessFlags := 10, nameIndex := 16, descriptorIndex := 17, attributes := #[] }] 49 2 #[] #[])
  fields := #[]
  methods := #[k1m0, k1m1, k1m2, k1m3]
  instanceTypes := #[]
  staticTypes := #[]
  resolved := Array.replicate 33 none
  statics := none }

def pool2 : Array CpInfo := pool [(2, .class_ 4), (1, u "java/lang/Object"), (3, .class_ 10), (1, u "com/example/tame_recursion/tamerecursion/io/CsvRecords"), (0, u "unquoted"), (0, u "[B"), (2, u "facts"), (0, u "Lcom/example/tame_recursion/tamerecursion/io/FactsFile;"), (59, u "COMMA"), (0, u "B"), (2, u "QUOTE"), (1, u "CARRIAGE_RETURN"), (1, u "LINE_FEED"), (9, u "needsQuotes"), (0, u "([B)Z")] 23

def k2c0 : Code := { maxStack := 2, maxLocals := 5, code := prog_41_method_3_code, exceptionTable := #[], attributes := #[] }
def k2m0 : Method := { name := "needsQuotes", desc := "([B)Z", sig := { parameters := [(.array .byte)], returnType := some .boolean }, accessFlags := 8, code := some k2c0 }
/-- com/example/tame_recursion/tamerecursion/io/CsvRecords -/
def k2 : Class := { plain "com/example/tame_recursion/tamerecursion/io/CsvRecords" (some 0) with
  accessFlags := 48
  interfaces := #[]
  cf := some (fileOf pool2 8 #[] #[{ accessFlags := 8, nameIndex := 94, descriptorIndex := 95, attributes := #[] }] 48 2 #[] #[{ accessFlags := 24, nameIndex := 76, descriptorIndex := 77, attributes := #[] }, { accessFlags := 24, nameIndex := 80, descriptorIndex := 77, attributes := #[] }, { accessFlags := 24, nameIndex := 82, descriptorIndex := 77, attributes := #[] }, { accessFlags := 24, nameIndex := 84, descriptorIndex := 77, attributes := #[] }, { accessFlags := 18, nameIndex := 15, descriptorIndex := 16, attributes := #[] }, { accessFlags := 2, nameIndex := 11, descriptorIndex := 12, attributes := #[] }])
  fields := #[{ name := "COMMA", type := .byte, accessFlags := 24, slot := 0, constantValue := 0 }, { name := "QUOTE", type := .byte, accessFlags := 24, slot := 1, constantValue := 0 }, { name := "CARRIAGE_RETURN", type := .byte, accessFlags := 24, slot := 2, constantValue := 0 }, { name := "LINE_FEED", type := .byte, accessFlags := 24, slot := 3, constantValue := 0 }, { name := "facts", type := (.object "com/example/tame_recursion/tamerecursion/io/FactsFile"), accessFlags := 18, slot := 0, constantValue := 0 }, { name := "unquoted", type := (.array .byte), accessFlags := 2, slot := 1, constantValue := 0 }]
  methods := #[k2m0]
  instanceTypes := #[(.object "com/example/tame_recursion/tamerecursion/io/FactsFile"), (.array .byte)]
  staticTypes := #[.byte, .byte, .byte, .byte]
  resolved := Array.replicate 119 none
  statics := none }

def pool3 : Array CpInfo := pool [(1, u "java/lang/Cloneable"), (0, .class_ 1), (0, u "java/lang/Object"), (0, .class_ 3)] 3

/-- java/lang/Cloneable -/
def k3 : Class := { plain "java/lang/Cloneable" (some 0) with
  accessFlags := 1537
  interfaces := #[]
  cf := some (fileOf pool3 2 #[] #[] 1537 4 #[] #[])
  fields := #[]
  methods := #[]
  instanceTypes := #[]
  staticTypes := #[]
  resolved := Array.replicate 8 none
  statics := none }

def pool4 : Array CpInfo := pool [(1, u "java/io/Serializable"), (0, .class_ 1), (0, u "java/lang/Object"), (0, .class_ 3)] 3

/-- java/io/Serializable -/
def k4 : Class := { plain "java/io/Serializable" (some 0) with
  accessFlags := 1537
  interfaces := #[]
  cf := some (fileOf pool4 2 #[] #[] 1537 4 #[] #[])
  fields := #[]
  methods := #[]
  instanceTypes := #[]
  staticTypes := #[]
  resolved := Array.replicate 8 none
  statics := none }

/-- the primitive byte -/
def k5 : Class := { plain "byte" none with kind := .primitive 'B', accessFlags := 0x411 }
/-- [B -/
def k6 : Class := { plain "[B" (some 0) with kind := .array 5 .byte, interfaces := #[3, 4], accessFlags := 1041 }

/-- the primitive int -/
def k7 : Class := { plain "int" none with kind := .primitive 'I', accessFlags := 0x411 }
/-- [I -/
def k8 : Class := { plain "[I" (some 0) with kind := .array 7 .int, interfaces := #[3, 4], accessFlags := 1041 }

def heap : Heap := #[]
def classes : Array Class := #[k0, k1, k2, k3, k4, k5, k6, k7, k8]
def interned : List (Array UInt16 × Addr) := []
def slotsUsed : Nat := 0
def theMethod : MethodId := ⟨1, 1⟩
def args0 : Array Value := #[.int 5, .int 3, .int 2, .int 7, .int 1]
def aboutOver (below : List Frame) : State where
  vm := { classes := classes, interned := interned.toArray }
  heap := heap
  slotsUsed := slotsUsed
  threads := #[{ frames := .invoking theMethod args0 :: below }]
def below0 : List Frame := [.native { method := ⟨0, 0⟩, args := #[] }]
def about1 : State := aboutOver below0
def p0 : Program := .bare "" "" ""
def e0 : Env := launch0.env 0 0 0
theorem w_frames : about1.frames = Frame.invoking theMethod args0 :: below0 := rfl
set_option maxRecDepth 65536 in
theorem w_args : argsFit about1.vm theMethod args0 = true := by decide +kernel
set_option maxRecDepth 65536 in
theorem w_heap : heapFits about1 = true := by decide +kernel
set_option maxRecDepth 65536 in
theorem w_runnable : about1.curStatus? = some .runnable := by decide +kernel
set_option maxRecDepth 65536 in
theorem w_alone : about1.alone = true := by decide +kernel
set_option maxRecDepth 65536 in
theorem w_named : about1.methodNamed? x = some theMethod := by decide +kernel
set_option maxRecDepth 65536 in
theorem w_hears : about1.hears theMethod below0 = true := by decide +kernel
set_option maxRecDepth 65536 in
theorem w_ripe : about1.ripe theMethod args0 below0 = true := by decide +kernel
theorem w_running : about1.status = .running := rfl
set_option maxRecDepth 65536 in
theorem w_room : about1.hasRoom e0.platform room_1 = true :=
  launch0.hasRoom_least _ room_1 (by decide +kernel) (by decide +kernel) (by decide +kernel) (by decide +kernel) (by decide +kernel) (by decide +kernel)
theorem allAtoms_all (ts : List Jvm.Cond) (a : Array Jvm.Value) (st : Jvm.State) : (allAtoms ts).before a st = ts.all (fun c => c.before a st) := by
  induction ts with
  | nil => rfl
  | cons c t ih =>
    show (Jvm.Cond.and c (allAtoms t)).before a st = _
    rw [Jvm.Cond.before_and, ih, List.all_cons]
def words1 : List Jvm.Cond := Jvm.Cond.code x code maxLocals ret :: tables_1
/-- a 'code' word, met by the world's own term for the bytes: nothing is compared byte by byte -/
theorem code_word {y : MethodName} {bytes : ByteArray} {mx : Nat} {rt : Option FieldType} {a : Array Value} {s : State} {m : MethodId} {meth : Method} {c : Code} (h1 : s.methodNamed? y = some m) (h2 : s.vm.method? m = some meth) (h3 : meth.code = some c) (h4 : c.code = bytes)
    (h5 : (c.maxLocals == mx && c.exceptionTable.isEmpty && decide (c.maxStack ≤ mostOperands) && decide (meth.sig.returnType = rt) && !meth.locks && decide (parseMethodDescriptor y.desc = some meth.sig)) = true) : (Jvm.Cond.code y bytes mx rt).before a s = true := by
  simp only [Bool.and_eq_true, beq_iff_eq, Bool.not_eq_true', decide_eq_true_eq] at h5
  obtain ⟨⟨⟨⟨⟨g1, g2⟩, g3⟩, g4⟩, g5⟩, g6⟩ := h5
  simp [Cond.before, Cond.holds, Cond.value, h1, h2, h3, h4, g1, g2, g3, g4, g5, g6]
def isCode : Jvm.Cond → Bool
  | .code _ _ _ _ => true
  | _ => false
theorem all_split {L : List Jvm.Cond} {P : Jvm.Cond → Bool} (h1 : L.all (fun c => isCode c || P c) = true) (h2 : ∀ c ∈ L.filter isCode, P c = true) : L.all P = true := by
  refine List.all_eq_true.mpr fun c hc => ?_
  have h := List.all_eq_true.mp h1 c hc
  rcases Bool.eq_false_or_eq_true (isCode c) with hi | hi
  · exact h2 c (List.mem_filter.mpr ⟨hc, hi⟩)
  · simpa [hi] using h
set_option maxRecDepth 65536 in
theorem w_c0 : (Jvm.Cond.code x code maxLocals ret).before args0 about1 = true := code_word (m := ⟨1, 1⟩) (meth := k1m1) (c := k1c1) (by decide +kernel) rfl rfl rfl (by decide +kernel)
set_option maxRecDepth 65536 in
theorem w_c1 : (Jvm.Cond.code ({ cls := "com/example/tame_recursion/tamerecursion/io/CsvRecordsNeedsQuotesPinLaw", name := "draw", desc := "(I)B" } : Jvm.MethodName) method_3_code (2 : Nat) (Option.some Jvm.ClassFile.FieldType.byte)).before args0 about1 = true := code_word (m := ⟨1, 2⟩) (meth := k1m2) (c := k1c2) (by decide +kernel) rfl rfl rfl (by decide +kernel)
set_option maxRecDepth 65536 in
theorem w_c2 : (Jvm.Cond.code ({ cls := "com/example/tame_recursion/tamerecursion/io/CsvRecords", name := "needsQuotes", desc := "([B)Z" } : Jvm.MethodName) prog_41_method_3_code (5 : Nat) (Option.some Jvm.ClassFile.FieldType.boolean)).before args0 about1 = true := code_word (m := ⟨2, 0⟩) (meth := k2m0) (c := k2c0) (by decide +kernel) rfl rfl rfl (by decide +kernel)
set_option maxRecDepth 65536 in
theorem w_c3 : (Jvm.Cond.code ({ cls := "com/example/tame_recursion/tamerecursion/io/CsvRecordsNeedsQuotesPinLaw", name := "special", desc := "(B)Z" } : Jvm.MethodName) method_4_code (1 : Nat) (Option.some Jvm.ClassFile.FieldType.boolean)).before args0 about1 = true := code_word (m := ⟨1, 3⟩) (meth := k1m3) (c := k1c3) (by decide +kernel) rfl rfl rfl (by decide +kernel)
def codes1 : List Jvm.Cond := [Jvm.Cond.code x code maxLocals ret, Jvm.Cond.code ({ cls := "com/example/tame_recursion/tamerecursion/io/CsvRecordsNeedsQuotesPinLaw", name := "draw", desc := "(I)B" } : Jvm.MethodName) method_3_code (2 : Nat) (Option.some Jvm.ClassFile.FieldType.byte), Jvm.Cond.code ({ cls := "com/example/tame_recursion/tamerecursion/io/CsvRecords", name := "needsQuotes", desc := "([B)Z" } : Jvm.MethodName) prog_41_method_3_code (5 : Nat) (Option.some Jvm.ClassFile.FieldType.boolean), Jvm.Cond.code ({ cls := "com/example/tame_recursion/tamerecursion/io/CsvRecordsNeedsQuotesPinLaw", name := "special", desc := "(B)Z" } : Jvm.MethodName) method_4_code (1 : Nat) (Option.some Jvm.ClassFile.FieldType.boolean)]
set_option maxRecDepth 65536 in
theorem codes_eq : words1.filter isCode = codes1 := rfl
theorem w_codes : ∀ c ∈ words1.filter isCode, c.before args0 about1 = true := by
  rw [codes_eq]
  intro c hc
  simp only [codes1, List.mem_cons, List.not_mem_nil, or_false] at hc
  rcases hc with rfl | rfl | rfl | rfl
  · exact w_c0
  · exact w_c1
  · exact w_c2
  · exact w_c3
set_option maxRecDepth 65536 in
theorem w_t1 : words1.all (fun c => isCode c || c.before args0 about1) = true := by decide +kernel
theorem w_tables : (allAtoms (Jvm.Cond.code x code maxLocals ret :: tables_1)).before args0 about1 = true := by
  rw [allAtoms_all]
  show words1.all (fun c => c.before args0 about1) = true
  refine all_split ?_ w_codes
  rw [w_t1]
set_option maxRecDepth 65536 in
theorem w_case : (Jvm.Cond.and given_1 narrow_1).before args0 about1 = true := by decide +kernel
theorem w_applies : (headSpec (Jvm.Cond.code x code maxLocals ret :: tables_1) room_1).applies x e0.platform about1 = true :=
  (Spec.applies_iff w_frames).mpr ⟨w_running, w_runnable, w_alone, w_named, w_hears, w_ripe, w_room, w_tables⟩
theorem atStart : AtStart classFile x code maxLocals ret World_1 tables_1 room_1 Calls_1 rest_1 Pre_1 launch0 p0 e0 about1 theMethod args0 below0 :=
  ⟨lists_1, trivial, launch0.admits_env _ _ _, launch0.least_env, fairChoices_fair.cas, fairChoices_fair.clock, w_frames, w_args, w_heap, w_applies, trivial, trivial, w_case⟩
end start1
theorem witness_1 : WitnessClaimed_1 := ⟨start1.p0, start1.e0, start1.about1, start1.theMethod, start1.args0, start1.below0, start1.atStart⟩
end Jvm.Pilot.@@N@@
