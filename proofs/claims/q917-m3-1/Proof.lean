import JvmDerived
import JvmDerived.Pilot.@@N@@Statement
import JvmDerived.Pilot.@@N@@Code
set_option linter.unusedVariables false
set_option linter.unusedSimpArgs false
namespace Jvm.Pilot.@@N@@
open Jvm Jvm.ClassFile Sem Op Lib Jvm.Free Jvm.Stand Jvm.LawKit Jvm.RoadKit Bundle Jvm.Pilot.@@N@@.Jvm.D
/-- from the frame (pc, ls, st) over the heap h the goal G is reached -/
def Run (p : Program) (l : Launch) (e : Env) (R : Room) (s : State) (m : MethodId) (args : Array Value) (below : List Frame) (meth : Method) (c : Code) (Z : State) (own : String) (V : Vm → Nat → Prop) (n0 : Nat) (G : State → Outcome → Prop) (h : Heap) (cells slots pc : Nat) (ls : Array Slot) (st : List Value) : Prop :=
  ∀ (vm0 : Vm) (k0 : Nat) (T : State) (L : List Loc), Stand p l e R (s.setVm vm0) m args below meth c T L cells slots → V vm0 k0 → k0 ≤ h.size → Z.Warmed39 vm0 → vm0.findClass own = some m.cls → Fr n0 L → T.heap = h →
    ∃ U o, Steps p.tables e below (T.setTop (mkF m pc ls st)) U ∧ U.status = .running ∧ Ended U below o ∧ G U o
/-- what is known of the body -/
def Cx (p : Program) (c : Code) (meth : Method) (bytes : ByteArray) (maxL : Nat) (ret : Option FieldType) (nm : String) : Prop := p.tables.exec = Jvm.exec ∧ c.code = bytes ∧ c.maxLocals = maxL ∧ meth.sig.returnType = ret ∧ meth.locks = false ∧ meth.name = nm
def plainV (s : State) (vm : Vm) (_ : Nat) : Prop := vm = s.vm
def Gq (s : State) (n0 : Nat) (rm : Room) (P : Option Value → Heap → Prop) (U : State) (o : Outcome) : Prop := ∃ v L, o = .returned v ∧ (P v U.heap ∧ Fr n0 L) ∧ FrameEnd s o U L rm.cells rm.slots
/-- a contract -/
def Con (l : Launch) (Z : State) (y : MethodName) (bytes : ByteArray) (maxL : Nat) (ret : Option FieldType) (rm : Room) (as : Array Value) (h0 : Heap) (n0 : Nat) (P : Option Value → Heap → Prop) : Prop :=
  ∀ ws : List Jvm.Cond, MetFree l y (head1 (Jvm.Cond.code y bytes maxL ret :: ws) rm) (fun a U => a = as ∧ Z.Warmed39 U.vm ∧ U.heap = h0) (fun _ _ _ _ _ => True) (fun _ U o U' => Gq U n0 rm P U' o)
section Kit
variable {p : Program} {l : Launch} {e : Env} {R : Room} {s : State} {m : MethodId} {args : Array Value} {below : List Frame} {meth : Method} {c : Code} {Z : State} {own : String} {V : Vm → Nat → Prop} {n0 : Nat} {G : State → Outcome → Prop} {h : Heap} {cells slots pc pc' : Nat} {ls ls' : Array Slot} {st st' : List Value} {bytes : ByteArray} {maxL : Nat} {ret : Option FieldType} {nm : String} {a0 : Array Value}
theorem Con.of_body {y : MethodName} {rm : Room} {as : Array Value} {h0 : Heap} {P : Option Value → Heap → Prop} (hp : plainFor y = true) (Ls : Array Slot) (hent : ∀ m, entryFrame m as maxL = mkF m 0 Ls [])
    (body : ∀ p e s m below meth c, Cx p c meth bytes maxL ret y.name → Run p l e rm s m as below meth c Z y.cls (plainV s) n0 (Gq s n0 rm P) h0 0 0 0 Ls []) : Con l Z y bytes maxL ret rm as h0 n0 P := by
  intro ws
  refine MetFree.of_bodySF hp hisR ?_
  intro p e s m args below meth c s₁ Bd hml0 hP hK
  obtain ⟨rfl, hZ, hh⟩ := hP
  have hown : s.vm.findClass y.cls = some m.cls := findClass_of_methodNamed Bd.named
  have hnm := (name_of_methodNamed Bd.named Bd.method).1
  obtain ⟨U, o, h1, h2, h3, h4⟩ := body p e s m below meth c ⟨Bd.exec, Bd.bytes, hml0, Bd.returns, BodyLoose.notSynchronized Bd, hnm⟩ s.vm 0 s₁ [] (Stand.of_body Bd) rfl (Nat.zero_le _) hZ hown (Fr.nil n0) (by rw [← hh, Bd.state]; rfl)
  exact ⟨U, o, castTop (hent m) h1, h2, h3, h4⟩
theorem Run.go (hs : ∀ (T t : State), At T m c below → Steps p.tables e below (T.setTop (mkF m pc' ls' st')) t → Steps p.tables e below (T.setTop (mkF m pc ls st)) t) (k : Run p l e R s m args below meth c Z own V n0 G h cells slots pc' ls' st') : Run p l e R s m args below meth c Z own V n0 G h cells slots pc ls st :=
  fun vm0 k0 T L X hV hk hZ ho N eT => by
    obtain ⟨U, o, h1, r⟩ := k vm0 k0 T L X hV hk hZ ho N eT
    exact ⟨U, o, hs T U X.here h1, r⟩
theorem r_iadd {x y z : Int32} (C : Cx p c meth bytes maxL ret nm) (hd : decode bytes pc = .ok (.iadd, 1)) (hp : pc + 1 = pc') (hz : x + y = z) (k : Run p l e R s m args below meth c Z own V n0 G h cells slots pc' ls (.int z :: st)) : Run p l e R s m args below meth c Z own V n0 G h cells slots pc ls (.int y :: .int x :: st) := by
  subst hp hz
  exact k.go fun T t A q => XS.iadd (g := mkF m pc ls (.int y :: .int x :: st)) A C.1 rfl (hb C.2.1 hd) rfl q
theorem r_isub {x y z : Int32} (C : Cx p c meth bytes maxL ret nm) (hd : decode bytes pc = .ok (.isub, 1)) (hp : pc + 1 = pc') (hz : x - y = z) (k : Run p l e R s m args below meth c Z own V n0 G h cells slots pc' ls (.int z :: st)) : Run p l e R s m args below meth c Z own V n0 G h cells slots pc ls (.int y :: .int x :: st) := by
  subst hp hz
  exact k.go fun T t A q => XS.isub (g := mkF m pc ls (.int y :: .int x :: st)) A C.1 rfl (hb C.2.1 hd) rfl q
theorem r_imul {x y z : Int32} (C : Cx p c meth bytes maxL ret nm) (hd : decode bytes pc = .ok (.imul, 1)) (hp : pc + 1 = pc') (hz : x * y = z) (k : Run p l e R s m args below meth c Z own V n0 G h cells slots pc' ls (.int z :: st)) : Run p l e R s m args below meth c Z own V n0 G h cells slots pc ls (.int y :: .int x :: st) := by
  subst hp hz
  exact k.go fun T t A q => XS.imul (g := mkF m pc ls (.int y :: .int x :: st)) A C.1 rfl (hb C.2.1 hd) rfl q
theorem r_iand {x y z : Int32} (C : Cx p c meth bytes maxL ret nm) (hd : decode bytes pc = .ok (.iand, 1)) (hp : pc + 1 = pc') (hz : x &&& y = z) (k : Run p l e R s m args below meth c Z own V n0 G h cells slots pc' ls (.int z :: st)) : Run p l e R s m args below meth c Z own V n0 G h cells slots pc ls (.int y :: .int x :: st) := by
  subst hp hz
  exact k.go fun T t A q => XS.iand (g := mkF m pc ls (.int y :: .int x :: st)) A C.1 rfl (hb C.2.1 hd) rfl q
theorem r_ixor {x y z : Int32} (C : Cx p c meth bytes maxL ret nm) (hd : decode bytes pc = .ok (.ixor, 1)) (hp : pc + 1 = pc') (hz : x ^^^ y = z) (k : Run p l e R s m args below meth c Z own V n0 G h cells slots pc' ls (.int z :: st)) : Run p l e R s m args below meth c Z own V n0 G h cells slots pc ls (.int y :: .int x :: st) := by
  subst hp hz
  exact k.go fun T t A q => XT.ixor (g := mkF m pc ls (.int y :: .int x :: st)) A C.1 rfl (hb C.2.1 hd) rfl q
theorem r_ior {x y z : Int32} (C : Cx p c meth bytes maxL ret nm) (hd : decode bytes pc = .ok (.ior, 1)) (hp : pc + 1 = pc') (hz : x ||| y = z) (k : Run p l e R s m args below meth c Z own V n0 G h cells slots pc' ls (.int z :: st)) : Run p l e R s m args below meth c Z own V n0 G h cells slots pc ls (.int y :: .int x :: st) := by
  subst hp hz
  exact k.go fun T t A q => XT.ior (g := mkF m pc ls (.int y :: .int x :: st)) A C.1 rfl (hb C.2.1 hd) rfl q
theorem r_ishl {x y z : Int32} (C : Cx p c meth bytes maxL ret nm) (hd : decode bytes pc = .ok (.ishl, 1)) (hp : pc + 1 = pc') (hz : x <<< (y &&& 31) = z) (k : Run p l e R s m args below meth c Z own V n0 G h cells slots pc' ls (.int z :: st)) : Run p l e R s m args below meth c Z own V n0 G h cells slots pc ls (.int y :: .int x :: st) := by
  subst hp hz
  exact k.go fun T t A q => XT.ishl (g := mkF m pc ls (.int y :: .int x :: st)) A C.1 rfl (hb C.2.1 hd) rfl q
theorem r_ishr {x y z : Int32} (C : Cx p c meth bytes maxL ret nm) (hd : decode bytes pc = .ok (.ishr, 1)) (hp : pc + 1 = pc') (hz : x >>> (y &&& 31) = z) (k : Run p l e R s m args below meth c Z own V n0 G h cells slots pc' ls (.int z :: st)) : Run p l e R s m args below meth c Z own V n0 G h cells slots pc ls (.int y :: .int x :: st) := by
  subst hp hz
  exact k.go fun T t A q => XT.ishr (g := mkF m pc ls (.int y :: .int x :: st)) A C.1 rfl (hb C.2.1 hd) rfl q
theorem r_iushr {x y z : Int32} (C : Cx p c meth bytes maxL ret nm) (hd : decode bytes pc = .ok (.iushr, 1)) (hp : pc + 1 = pc') (hz : XT.ushr x y = z) (k : Run p l e R s m args below meth c Z own V n0 G h cells slots pc' ls (.int z :: st)) : Run p l e R s m args below meth c Z own V n0 G h cells slots pc ls (.int y :: .int x :: st) := by
  subst hp hz
  exact k.go fun T t A q => XT.iushr (g := mkF m pc ls (.int y :: .int x :: st)) A C.1 rfl (hb C.2.1 hd) rfl q
theorem r_ladd {x y z : Int64} (C : Cx p c meth bytes maxL ret nm) (hd : decode bytes pc = .ok (.ladd, 1)) (hp : pc + 1 = pc') (hz : x + y = z) (k : Run p l e R s m args below meth c Z own V n0 G h cells slots pc' ls (.long z :: st)) : Run p l e R s m args below meth c Z own V n0 G h cells slots pc ls (.long y :: .long x :: st) := by
  subst hp hz
  exact k.go fun T t A q => XT.ladd (g := mkF m pc ls (.long y :: .long x :: st)) A C.1 rfl (hb C.2.1 hd) rfl q
theorem r_lsub {x y z : Int64} (C : Cx p c meth bytes maxL ret nm) (hd : decode bytes pc = .ok (.lsub, 1)) (hp : pc + 1 = pc') (hz : x - y = z) (k : Run p l e R s m args below meth c Z own V n0 G h cells slots pc' ls (.long z :: st)) : Run p l e R s m args below meth c Z own V n0 G h cells slots pc ls (.long y :: .long x :: st) := by
  subst hp hz
  exact k.go fun T t A q => XT.lsub (g := mkF m pc ls (.long y :: .long x :: st)) A C.1 rfl (hb C.2.1 hd) rfl q
theorem r_lmul {x y z : Int64} (C : Cx p c meth bytes maxL ret nm) (hd : decode bytes pc = .ok (.lmul, 1)) (hp : pc + 1 = pc') (hz : x * y = z) (k : Run p l e R s m args below meth c Z own V n0 G h cells slots pc' ls (.long z :: st)) : Run p l e R s m args below meth c Z own V n0 G h cells slots pc ls (.long y :: .long x :: st) := by
  subst hp hz
  exact k.go fun T t A q => XT.lmul (g := mkF m pc ls (.long y :: .long x :: st)) A C.1 rfl (hb C.2.1 hd) rfl q
theorem r_land {x y z : Int64} (C : Cx p c meth bytes maxL ret nm) (hd : decode bytes pc = .ok (.land, 1)) (hp : pc + 1 = pc') (hz : x &&& y = z) (k : Run p l e R s m args below meth c Z own V n0 G h cells slots pc' ls (.long z :: st)) : Run p l e R s m args below meth c Z own V n0 G h cells slots pc ls (.long y :: .long x :: st) := by
  subst hp hz
  exact k.go fun T t A q => XT.land (g := mkF m pc ls (.long y :: .long x :: st)) A C.1 rfl (hb C.2.1 hd) rfl q
theorem r_lor {x y z : Int64} (C : Cx p c meth bytes maxL ret nm) (hd : decode bytes pc = .ok (.lor, 1)) (hp : pc + 1 = pc') (hz : x ||| y = z) (k : Run p l e R s m args below meth c Z own V n0 G h cells slots pc' ls (.long z :: st)) : Run p l e R s m args below meth c Z own V n0 G h cells slots pc ls (.long y :: .long x :: st) := by
  subst hp hz
  exact k.go fun T t A q => XT.lor (g := mkF m pc ls (.long y :: .long x :: st)) A C.1 rfl (hb C.2.1 hd) rfl q
theorem r_lxor {x y z : Int64} (C : Cx p c meth bytes maxL ret nm) (hd : decode bytes pc = .ok (.lxor, 1)) (hp : pc + 1 = pc') (hz : x ^^^ y = z) (k : Run p l e R s m args below meth c Z own V n0 G h cells slots pc' ls (.long z :: st)) : Run p l e R s m args below meth c Z own V n0 G h cells slots pc ls (.long y :: .long x :: st) := by
  subst hp hz
  exact k.go fun T t A q => XT.lxor (g := mkF m pc ls (.long y :: .long x :: st)) A C.1 rfl (hb C.2.1 hd) rfl q
theorem r_lshl {x z : Int64} {y : Int32} (C : Cx p c meth bytes maxL ret nm) (hd : decode bytes pc = .ok (.lshl, 1)) (hp : pc + 1 = pc') (hz : x <<< (y.toInt64 &&& 63) = z) (k : Run p l e R s m args below meth c Z own V n0 G h cells slots pc' ls (.long z :: st)) : Run p l e R s m args below meth c Z own V n0 G h cells slots pc ls (.int y :: .long x :: st) := by
  subst hp hz
  exact k.go fun T t A q => XT.lshl (g := mkF m pc ls (.int y :: .long x :: st)) A C.1 rfl (hb C.2.1 hd) rfl q
theorem r_lshr {x z : Int64} {y : Int32} (C : Cx p c meth bytes maxL ret nm) (hd : decode bytes pc = .ok (.lshr, 1)) (hp : pc + 1 = pc') (hz : x >>> (y.toInt64 &&& 63) = z) (k : Run p l e R s m args below meth c Z own V n0 G h cells slots pc' ls (.long z :: st)) : Run p l e R s m args below meth c Z own V n0 G h cells slots pc ls (.int y :: .long x :: st) := by
  subst hp hz
  exact k.go fun T t A q => XT.lshr (g := mkF m pc ls (.int y :: .long x :: st)) A C.1 rfl (hb C.2.1 hd) rfl q
theorem r_lushr {x z : Int64} {y : Int32} (C : Cx p c meth bytes maxL ret nm) (hd : decode bytes pc = .ok (.lushr, 1)) (hp : pc + 1 = pc') (hz : XT.ushrL x y = z) (k : Run p l e R s m args below meth c Z own V n0 G h cells slots pc' ls (.long z :: st)) : Run p l e R s m args below meth c Z own V n0 G h cells slots pc ls (.int y :: .long x :: st) := by
  subst hp hz
  exact k.go fun T t A q => XT.lushr (g := mkF m pc ls (.int y :: .long x :: st)) A C.1 rfl (hb C.2.1 hd) rfl q
theorem irem_mod (x y : Int32) : x - (x / y) * y = x % y := by
  have h : ∀ a b : Int, a - a.tdiv b * b = a.tmod b := fun a b => by have := Int.mul_tdiv_add_tmod a b; rw [Int.mul_comm] at this; omega
  by_cases hy : y = -1
  · subst hy
    apply Int32.toInt_inj.mp
    have h1 := c_isub x ((x / -1) * -1)
    have h2 := c_imul (x / -1) (-1)
    have h3 := c_idivM x (-1) rfl
    have h4 : (x % (-1 : Int32)).toInt = 0 := by rw [Int32.toInt_mod]; show x.toInt.tmod (-1) = 0; simp
    have h5 := rng32 (x - (x / -1) * -1)
    have h6 : ((-1 : Int32)).toInt = -1 := by decide
    rw [h6] at h2
    rw [h4]
    omega
  · apply Int32.toInt_inj.mp
    have h1 := c_isub x ((x / y) * y)
    have h2 := c_imul (x / y) y
    have h3 := Int32.toInt_div_of_ne_right x y hy
    have h4 := Int32.toInt_mod x y
    have h5 := rng32 (x - (x / y) * y)
    have h6 := rng32 (x % y)
    have h7 := h x.toInt y.toInt
    rw [h3] at h2
    rw [← h7] at h4
    omega
theorem r_idiv {x y z : Int32} (C : Cx p c meth bytes maxL ret nm) (hd : decode bytes pc = .ok (.idiv, 1)) (hp : pc + 1 = pc') (hy : y ≠ 0) (hz : x / y = z) (k : Run p l e R s m args below meth c Z own V n0 G h cells slots pc' ls (.int z :: st)) : Run p l e R s m args below meth c Z own V n0 G h cells slots pc ls (.int y :: .int x :: st) := by
  subst hp hz
  exact k.go fun T t A q => XS.idiv (g := mkF m pc ls (.int y :: .int x :: st)) A C.1 rfl (hb C.2.1 hd) rfl hy q
theorem r_irem {x y z : Int32} (C : Cx p c meth bytes maxL ret nm) (hd : decode bytes pc = .ok (.irem, 1)) (hp : pc + 1 = pc') (hy : y ≠ 0) (hz : x % y = z) (k : Run p l e R s m args below meth c Z own V n0 G h cells slots pc' ls (.int z :: st)) : Run p l e R s m args below meth c Z own V n0 G h cells slots pc ls (.int y :: .int x :: st) := by
  subst hp hz
  exact k.go fun T t A q => XS.irem (g := mkF m pc ls (.int y :: .int x :: st)) A C.1 rfl (hb C.2.1 hd) rfl hy (by rw [irem_mod]; exact q)
theorem r_ldiv {x y z : Int64} (C : Cx p c meth bytes maxL ret nm) (hd : decode bytes pc = .ok (.ldiv, 1)) (hp : pc + 1 = pc') (hy : y ≠ 0) (hz : x / y = z) (k : Run p l e R s m args below meth c Z own V n0 G h cells slots pc' ls (.long z :: st)) : Run p l e R s m args below meth c Z own V n0 G h cells slots pc ls (.long y :: .long x :: st) := by
  subst hp hz
  exact k.go fun T t A q => XT.ldiv (g := mkF m pc ls (.long y :: .long x :: st)) A C.1 rfl (hb C.2.1 hd) rfl hy q
theorem r_lrem {x y z : Int64} (C : Cx p c meth bytes maxL ret nm) (hd : decode bytes pc = .ok (.lrem, 1)) (hp : pc + 1 = pc') (hy : y ≠ 0) (hz : x % y = z) (k : Run p l e R s m args below meth c Z own V n0 G h cells slots pc' ls (.long z :: st)) : Run p l e R s m args below meth c Z own V n0 G h cells slots pc ls (.long y :: .long x :: st) := by
  subst hp hz
  exact k.go fun T t A q => XT.lrem (g := mkF m pc ls (.long y :: .long x :: st)) A C.1 rfl (hb C.2.1 hd) rfl hy (by rw [lrem_mod]; exact q)
theorem r_ineg {x z : Int32} (C : Cx p c meth bytes maxL ret nm) (hd : decode bytes pc = .ok (.ineg, 1)) (hp : pc + 1 = pc') (hz : -x = z) (k : Run p l e R s m args below meth c Z own V n0 G h cells slots pc' ls (.int z :: st)) : Run p l e R s m args below meth c Z own V n0 G h cells slots pc ls (.int x :: st) := by
  subst hp hz
  exact k.go fun T t A q => XS.ineg (g := mkF m pc ls (.int x :: st)) A C.1 rfl (hb C.2.1 hd) rfl q
theorem r_lneg {x z : Int64} (C : Cx p c meth bytes maxL ret nm) (hd : decode bytes pc = .ok (.lneg, 1)) (hp : pc + 1 = pc') (hz : -x = z) (k : Run p l e R s m args below meth c Z own V n0 G h cells slots pc' ls (.long z :: st)) : Run p l e R s m args below meth c Z own V n0 G h cells slots pc ls (.long x :: st) := by
  subst hp hz
  exact k.go fun T t A q => XT.lneg (g := mkF m pc ls (.long x :: st)) A C.1 rfl (hb C.2.1 hd) rfl q
theorem r_i2l {x : Int32} {z : Int64} (C : Cx p c meth bytes maxL ret nm) (hd : decode bytes pc = .ok (.i2l, 1)) (hp : pc + 1 = pc') (hz : x.toInt64 = z) (k : Run p l e R s m args below meth c Z own V n0 G h cells slots pc' ls (.long z :: st)) : Run p l e R s m args below meth c Z own V n0 G h cells slots pc ls (.int x :: st) := by
  subst hp hz
  exact k.go fun T t A q => XT.i2l (g := mkF m pc ls (.int x :: st)) A C.1 rfl (hb C.2.1 hd) rfl q
theorem r_l2i {x : Int64} {z : Int32} (C : Cx p c meth bytes maxL ret nm) (hd : decode bytes pc = .ok (.l2i, 1)) (hp : pc + 1 = pc') (hz : x.toInt32 = z) (k : Run p l e R s m args below meth c Z own V n0 G h cells slots pc' ls (.int z :: st)) : Run p l e R s m args below meth c Z own V n0 G h cells slots pc ls (.long x :: st) := by
  subst hp hz
  exact k.go fun T t A q => XT.l2i (g := mkF m pc ls (.long x :: st)) A C.1 rfl (hb C.2.1 hd) rfl q
theorem r_i2b {x : Int32} {z : Int32} (C : Cx p c meth bytes maxL ret nm) (hd : decode bytes pc = .ok (.i2b, 1)) (hp : pc + 1 = pc') (hz : x.toInt8.toInt32 = z) (k : Run p l e R s m args below meth c Z own V n0 G h cells slots pc' ls (.int z :: st)) : Run p l e R s m args below meth c Z own V n0 G h cells slots pc ls (.int x :: st) := by
  subst hp hz
  exact k.go fun T t A q => XT.i2b (g := mkF m pc ls (.int x :: st)) A C.1 rfl (hb C.2.1 hd) rfl q
theorem r_i2c {x : Int32} {z : Int32} (C : Cx p c meth bytes maxL ret nm) (hd : decode bytes pc = .ok (.i2c, 1)) (hp : pc + 1 = pc') (hz : x.toUInt32.toUInt16.toUInt32.toInt32 = z) (k : Run p l e R s m args below meth c Z own V n0 G h cells slots pc' ls (.int z :: st)) : Run p l e R s m args below meth c Z own V n0 G h cells slots pc ls (.int x :: st) := by
  subst hp hz
  exact k.go fun T t A q => XT.i2c (g := mkF m pc ls (.int x :: st)) A C.1 rfl (hb C.2.1 hd) rfl q
theorem r_i2s {x : Int32} {z : Int32} (C : Cx p c meth bytes maxL ret nm) (hd : decode bytes pc = .ok (.i2s, 1)) (hp : pc + 1 = pc') (hz : x.toInt16.toInt32 = z) (k : Run p l e R s m args below meth c Z own V n0 G h cells slots pc' ls (.int z :: st)) : Run p l e R s m args below meth c Z own V n0 G h cells slots pc ls (.int x :: st) := by
  subst hp hz
  exact k.go fun T t A q => XT.i2s (g := mkF m pc ls (.int x :: st)) A C.1 rfl (hb C.2.1 hd) rfl q
theorem r_iconst {i : Int} {z : Int32} (C : Cx p c meth bytes maxL ret nm) (hd : decode bytes pc = .ok (.iconst i, 1)) (hp : pc + 1 = pc') (hz : Int32.ofInt i = z) (k : Run p l e R s m args below meth c Z own V n0 G h cells slots pc' ls (.int z :: st)) : Run p l e R s m args below meth c Z own V n0 G h cells slots pc ls st := by
  subst hp hz
  exact k.go fun T t A q => XS.iconst (g := mkF m pc ls st) A C.1 rfl (hb C.2.1 hd) q
theorem r_bipush {i : Int} {z : Int32} (C : Cx p c meth bytes maxL ret nm) (hd : decode bytes pc = .ok (.bipush i, 2)) (hp : pc + 2 = pc') (hz : (Int8.ofInt i).toInt32 = z) (k : Run p l e R s m args below meth c Z own V n0 G h cells slots pc' ls (.int z :: st)) : Run p l e R s m args below meth c Z own V n0 G h cells slots pc ls st := by
  subst hp hz
  exact k.go fun T t A q => XS.bipush (g := mkF m pc ls st) A C.1 rfl (hb C.2.1 hd) q
theorem r_sipush {i : Int} {z : Int32} (C : Cx p c meth bytes maxL ret nm) (hd : decode bytes pc = .ok (.sipush i, 3)) (hp : pc + 3 = pc') (hz : (Int16.ofInt i).toInt32 = z) (k : Run p l e R s m args below meth c Z own V n0 G h cells slots pc' ls (.int z :: st)) : Run p l e R s m args below meth c Z own V n0 G h cells slots pc ls st := by
  subst hp hz
  exact k.go fun T t A q => XS.sipush (g := mkF m pc ls st) A C.1 rfl (hb C.2.1 hd) q
theorem r_lconst {i : Fin 2} {z : Int64} (C : Cx p c meth bytes maxL ret nm) (hd : decode bytes pc = .ok (.lconst i, 1)) (hp : pc + 1 = pc') (hz : Int64.ofNat i = z) (k : Run p l e R s m args below meth c Z own V n0 G h cells slots pc' ls (.long z :: st)) : Run p l e R s m args below meth c Z own V n0 G h cells slots pc ls st := by
  subst hp hz
  exact k.go fun T t A q => XT.lconst (g := mkF m pc ls st) A C.1 rfl (hb C.2.1 hd) q
theorem r_aconst_null  (C : Cx p c meth bytes maxL ret nm) (hd : decode bytes pc = .ok (.aconst_null, 1)) (hp : pc + 1 = pc')  (k : Run p l e R s m args below meth c Z own V n0 G h cells slots pc' ls (.null :: st)) : Run p l e R s m args below meth c Z own V n0 G h cells slots pc ls st := by
  subst hp
  exact k.go fun T t A q => XS.aconstNull (g := mkF m pc ls st) A C.1 rfl (hb C.2.1 hd) q
theorem r_iload_n {i : Fin 4} {x : Int32} (C : Cx p c meth bytes maxL ret nm) (hd : decode bytes pc = .ok (.iload_n i, 1)) (hp : pc + 1 = pc') (hl : ls[i.val]? = some (.val (.int x))) (k : Run p l e R s m args below meth c Z own V n0 G h cells slots pc' ls (.int x :: st)) : Run p l e R s m args below meth c Z own V n0 G h cells slots pc ls st := by
  subst hp
  exact k.go fun T t A q => XS.iloadN (g := mkF m pc ls st) A C.1 rfl (hb C.2.1 hd) hl q
theorem r_iload {i : Nat} {x : Int32} (C : Cx p c meth bytes maxL ret nm) (hd : decode bytes pc = .ok (.iload i, 2)) (hp : pc + 2 = pc') (hl : ls[i]? = some (.val (.int x))) (k : Run p l e R s m args below meth c Z own V n0 G h cells slots pc' ls (.int x :: st)) : Run p l e R s m args below meth c Z own V n0 G h cells slots pc ls st := by
  subst hp
  exact k.go fun T t A q => XS.iload (g := mkF m pc ls st) A C.1 rfl (hb C.2.1 hd) hl q
theorem r_istore_n {i : Fin 4} {x : Int32} (C : Cx p c meth bytes maxL ret nm) (hd : decode bytes pc = .ok (.istore_n i, 1)) (hp : pc + 1 = pc') (hl : storeLocals ls i.val (.int x) = some ls') (k : Run p l e R s m args below meth c Z own V n0 G h cells slots pc' ls' st) : Run p l e R s m args below meth c Z own V n0 G h cells slots pc ls (.int x :: st) := by
  subst hp
  exact k.go fun T t A q => XS.istoreN (g := mkF m pc ls (.int x :: st)) A C.1 rfl (hb C.2.1 hd) rfl hl q
theorem r_istore {i : Nat} {x : Int32} (C : Cx p c meth bytes maxL ret nm) (hd : decode bytes pc = .ok (.istore i, 2)) (hp : pc + 2 = pc') (hl : storeLocals ls i (.int x) = some ls') (k : Run p l e R s m args below meth c Z own V n0 G h cells slots pc' ls' st) : Run p l e R s m args below meth c Z own V n0 G h cells slots pc ls (.int x :: st) := by
  subst hp
  exact k.go fun T t A q => XS.istore (g := mkF m pc ls (.int x :: st)) A C.1 rfl (hb C.2.1 hd) rfl hl q
theorem r_lload_n {i : Fin 4} {x : Int64} (C : Cx p c meth bytes maxL ret nm) (hd : decode bytes pc = .ok (.lload_n i, 1)) (hp : pc + 1 = pc') (hl : ls[i.val]? = some (.val (.long x))) (k : Run p l e R s m args below meth c Z own V n0 G h cells slots pc' ls (.long x :: st)) : Run p l e R s m args below meth c Z own V n0 G h cells slots pc ls st := by
  subst hp
  exact k.go fun T t A q => XT.lloadN (g := mkF m pc ls st) A C.1 rfl (hb C.2.1 hd) hl q
theorem r_lload {i : Nat} {x : Int64} (C : Cx p c meth bytes maxL ret nm) (hd : decode bytes pc = .ok (.lload i, 2)) (hp : pc + 2 = pc') (hl : ls[i]? = some (.val (.long x))) (k : Run p l e R s m args below meth c Z own V n0 G h cells slots pc' ls (.long x :: st)) : Run p l e R s m args below meth c Z own V n0 G h cells slots pc ls st := by
  subst hp
  exact k.go fun T t A q => XT.lload (g := mkF m pc ls st) A C.1 rfl (hb C.2.1 hd) hl q
theorem r_lstore_n {i : Fin 4} {x : Int64} (C : Cx p c meth bytes maxL ret nm) (hd : decode bytes pc = .ok (.lstore_n i, 1)) (hp : pc + 1 = pc') (hl : storeLocals ls i.val (.long x) = some ls') (k : Run p l e R s m args below meth c Z own V n0 G h cells slots pc' ls' st) : Run p l e R s m args below meth c Z own V n0 G h cells slots pc ls (.long x :: st) := by
  subst hp
  exact k.go fun T t A q => XT.lstoreN (g := mkF m pc ls (.long x :: st)) A C.1 rfl (hb C.2.1 hd) rfl hl q
theorem r_lstore {i : Nat} {x : Int64} (C : Cx p c meth bytes maxL ret nm) (hd : decode bytes pc = .ok (.lstore i, 2)) (hp : pc + 2 = pc') (hl : storeLocals ls i (.long x) = some ls') (k : Run p l e R s m args below meth c Z own V n0 G h cells slots pc' ls' st) : Run p l e R s m args below meth c Z own V n0 G h cells slots pc ls (.long x :: st) := by
  subst hp
  exact k.go fun T t A q => XT.lstore (g := mkF m pc ls (.long x :: st)) A C.1 rfl (hb C.2.1 hd) rfl hl q
theorem r_aload_n {i : Fin 4} {x : Value} (C : Cx p c meth bytes maxL ret nm) (hd : decode bytes pc = .ok (.aload_n i, 1)) (hp : pc + 1 = pc') (hl : ls[i.val]? = some (.val x)) (hv : x.isRef = true) (k : Run p l e R s m args below meth c Z own V n0 G h cells slots pc' ls (x :: st)) : Run p l e R s m args below meth c Z own V n0 G h cells slots pc ls st := by
  subst hp
  exact k.go fun T t A q => XS.aloadN (g := mkF m pc ls st) A C.1 rfl (hb C.2.1 hd) hl hv q
theorem r_aload {i : Nat} {x : Value} (C : Cx p c meth bytes maxL ret nm) (hd : decode bytes pc = .ok (.aload i, 2)) (hp : pc + 2 = pc') (hl : ls[i]? = some (.val x)) (hv : x.isRef = true) (k : Run p l e R s m args below meth c Z own V n0 G h cells slots pc' ls (x :: st)) : Run p l e R s m args below meth c Z own V n0 G h cells slots pc ls st := by
  subst hp
  exact k.go fun T t A q => XS.aload (g := mkF m pc ls st) A C.1 rfl (hb C.2.1 hd) hl hv q
theorem r_astore_n {i : Fin 4} {x : Value} (C : Cx p c meth bytes maxL ret nm) (hd : decode bytes pc = .ok (.astore_n i, 1)) (hp : pc + 1 = pc') (hv : x.isRef = true) (hl : storeLocals ls i.val x = some ls') (k : Run p l e R s m args below meth c Z own V n0 G h cells slots pc' ls' st) : Run p l e R s m args below meth c Z own V n0 G h cells slots pc ls (x :: st) := by
  subst hp
  exact k.go fun T t A q => XS.astoreN (g := mkF m pc ls (x :: st)) A C.1 rfl (hb C.2.1 hd) rfl hv hl q
theorem r_astore {i : Nat} {x : Value} (C : Cx p c meth bytes maxL ret nm) (hd : decode bytes pc = .ok (.astore i, 2)) (hp : pc + 2 = pc') (hv : x.isRef = true) (hl : storeLocals ls i x = some ls') (k : Run p l e R s m args below meth c Z own V n0 G h cells slots pc' ls' st) : Run p l e R s m args below meth c Z own V n0 G h cells slots pc ls (x :: st) := by
  subst hp
  exact k.go fun T t A q => XS.astore (g := mkF m pc ls (x :: st)) A C.1 rfl (hb C.2.1 hd) rfl hv hl q
theorem r_iinc {i : Nat} {cst : Int} {x z : Int32} (C : Cx p c meth bytes maxL ret nm) (hd : decode bytes pc = .ok (.iinc i cst, 3)) (hp : pc + 3 = pc') (hl : ls[i]? = some (.val (.int x))) (hz : x + Int32.ofInt cst = z) (hl' : storeLocals ls i (.int z) = some ls') (k : Run p l e R s m args below meth c Z own V n0 G h cells slots pc' ls' st) : Run p l e R s m args below meth c Z own V n0 G h cells slots pc ls st := by
  subst hp hz
  exact k.go fun T t A q => XS.iinc (g := mkF m pc ls st) A C.1 rfl (hb C.2.1 hd) hl hl' q
theorem r_pop {x : Value} (C : Cx p c meth bytes maxL ret nm) (hd : decode bytes pc = .ok (.pop, 1)) (hp : pc + 1 = pc') (hc : x.category = 1) (k : Run p l e R s m args below meth c Z own V n0 G h cells slots pc' ls st) : Run p l e R s m args below meth c Z own V n0 G h cells slots pc ls (x :: st) := by
  subst hp
  exact k.go fun T t A q => XT.pop (g := mkF m pc ls (x :: st)) A C.1 rfl (hb C.2.1 hd) rfl hc q
theorem r_dup {x : Value} (C : Cx p c meth bytes maxL ret nm) (hd : decode bytes pc = .ok (.dup, 1)) (hp : pc + 1 = pc') (hc : x.category = 1) (k : Run p l e R s m args below meth c Z own V n0 G h cells slots pc' ls (x :: x :: st)) : Run p l e R s m args below meth c Z own V n0 G h cells slots pc ls (x :: st) := by
  subst hp
  exact k.go fun T t A q => XS.dup (g := mkF m pc ls (x :: st)) A C.1 rfl (hb C.2.1 hd) rfl hc q
theorem r_dup_x1 {x y : Value} (C : Cx p c meth bytes maxL ret nm) (hd : decode bytes pc = .ok (.dup_x1, 1)) (hp : pc + 1 = pc') (hc : x.category = 1) (hc' : y.category = 1) (k : Run p l e R s m args below meth c Z own V n0 G h cells slots pc' ls (x :: y :: x :: st)) : Run p l e R s m args below meth c Z own V n0 G h cells slots pc ls (x :: y :: st) := by
  subst hp
  exact k.go fun T t A q => XT.dupX1 (g := mkF m pc ls (x :: y :: st)) A C.1 rfl (hb C.2.1 hd) rfl hc hc' q
theorem r_dup2 {x y : Value} (C : Cx p c meth bytes maxL ret nm) (hd : decode bytes pc = .ok (.dup2, 1)) (hp : pc + 1 = pc') (hc : x.category = 1) (hc' : y.category = 1) (k : Run p l e R s m args below meth c Z own V n0 G h cells slots pc' ls (x :: y :: x :: y :: st)) : Run p l e R s m args below meth c Z own V n0 G h cells slots pc ls (x :: y :: st) := by
  subst hp
  exact k.go fun T t A q => XT.dup2 (g := mkF m pc ls (x :: y :: st)) A C.1 rfl (hb C.2.1 hd) rfl hc hc' q
theorem r_dup2L {x : Int64} (C : Cx p c meth bytes maxL ret nm) (hd : decode bytes pc = .ok (.dup2, 1)) (hp : pc + 1 = pc')  (k : Run p l e R s m args below meth c Z own V n0 G h cells slots pc' ls (.long x :: .long x :: st)) : Run p l e R s m args below meth c Z own V n0 G h cells slots pc ls (.long x :: st) := by
  subst hp
  exact k.go fun T t A q => XT.dup2L (g := mkF m pc ls (.long x :: st)) A C.1 rfl (hb C.2.1 hd) rfl q
theorem toN {a : Nat} {o : Int} {b : Nat} (h : (a : Int) + o = (b : Int)) : 0 ≤ (a : Int) + o ∧ ((a : Int) + o).toNat = b := by omega
theorem r_goto {o : Int} (C : Cx p c meth bytes maxL ret nm) (hd : decode bytes pc = .ok (.goto o, 3)) (hp : (pc : Int) + o = (pc' : Int)) (k : Run p l e R s m args below meth c Z own V n0 G h cells slots pc' ls st) : Run p l e R s m args below meth c Z own V n0 G h cells slots pc ls st :=
  k.go fun T t A q => XS.goto (g := mkF m pc ls st) A C.1 rfl (pc0 := pc) (pc' := pc') rfl (hb C.2.1 hd) (toN hp).1 (toN hp).2 q
theorem r_icmp {x y : Int32} {cd : ClassFile.Cond} {o : Int} {pcT pcF : Nat} (C : Cx p c meth bytes maxL ret nm) (hd : decode bytes pc = .ok (.if_icmp cd o, 3)) (hT : (pc : Int) + o = (pcT : Int)) (hF : pc + 3 = pcF) (kT : if_icmp.holds cd x y = true → Run p l e R s m args below meth c Z own V n0 G h cells slots pcT ls st) (kF : if_icmp.holds cd x y = false → Run p l e R s m args below meth c Z own V n0 G h cells slots pcF ls st) : Run p l e R s m args below meth c Z own V n0 G h cells slots pc ls (.int y :: .int x :: st) := by
  subst hF
  cases hc : if_icmp.holds cd x y
  · exact (kF hc).go fun T t A q => XS.icmpNo (g := mkF m pc ls (.int y :: .int x :: st)) A C.1 rfl (hb C.2.1 hd) rfl hc q
  · exact (kT hc).go fun T t A q => XS.icmpYes (g := mkF m pc ls (.int y :: .int x :: st)) A C.1 rfl (pc0 := pc) (pc' := pcT) rfl (hb C.2.1 hd) rfl hc (toN hT).1 (toN hT).2 q
theorem r_if {x : Int32} {cd : ClassFile.Cond} {o : Int} {pcT pcF : Nat} (C : Cx p c meth bytes maxL ret nm) (hd : decode bytes pc = .ok (.ifCond cd o, 3)) (hT : (pc : Int) + o = (pcT : Int)) (hF : pc + 3 = pcF) (kT : ifCond.holds cd x = true → Run p l e R s m args below meth c Z own V n0 G h cells slots pcT ls st) (kF : ifCond.holds cd x = false → Run p l e R s m args below meth c Z own V n0 G h cells slots pcF ls st) : Run p l e R s m args below meth c Z own V n0 G h cells slots pc ls (.int x :: st) := by
  subst hF
  cases hc : ifCond.holds cd x
  · exact (kF hc).go fun T t A q => XS.ifNo (g := mkF m pc ls (.int x :: st)) A C.1 rfl (hb C.2.1 hd) rfl hc q
  · exact (kT hc).go fun T t A q => XS.ifYes (g := mkF m pc ls (.int x :: st)) A C.1 rfl (pc0 := pc) (pc' := pcT) rfl (hb C.2.1 hd) rfl hc (toN hT).1 (toN hT).2 q
theorem tf {P : Prop} {b : Bool} (h1 : P → b = true) (h2 : ¬ P → b = false) : (b = true → P) ∧ (b = false → ¬ P) := ⟨fun h => Classical.byContradiction fun q => (by rw [h2 q] at h; cases h), fun h q => (by rw [h1 q] at h; cases h)⟩
theorem lt32 {x y : Int32} : x < y ↔ x.toInt < y.toInt := Int32.lt_iff_toInt_lt
theorem nlt32 {x y : Int32} : ¬ x < y ↔ y.toInt ≤ x.toInt := by rw [lt32]; omega
theorem lt64 {x y : Int64} : x < y ↔ x.toInt < y.toInt := Int64.lt_iff_toInt_lt
theorem nlt64 {x y : Int64} : ¬ x < y ↔ y.toInt ≤ x.toInt := by rw [lt64]; omega
theorem r_icmplt {x y : Int32} {o : Int} {pcT pcF : Nat} (C : Cx p c meth bytes maxL ret nm) (hd : decode bytes pc = .ok (.if_icmp .lt o, 3)) (hT : (pc : Int) + o = (pcT : Int)) (hF : pc + 3 = pcF) (kT : x.toInt < y.toInt → Run p l e R s m args below meth c Z own V n0 G h cells slots pcT ls st) (kF : y.toInt ≤ x.toInt → Run p l e R s m args below meth c Z own V n0 G h cells slots pcF ls st) : Run p l e R s m args below meth c Z own V n0 G h cells slots pc ls (.int y :: .int x :: st) :=
  r_icmp C hd hT hF (fun hc => kT (lt32.mp ((tf (P := x < y) XT.ii_lt_t XT.ii_lt_f).1 hc))) (fun hc => kF (nlt32.mp ((tf (P := x < y) XT.ii_lt_t XT.ii_lt_f).2 hc)))
theorem r_iflt {x : Int32} {o : Int} {pcT pcF : Nat} (C : Cx p c meth bytes maxL ret nm) (hd : decode bytes pc = .ok (.ifCond .lt o, 3)) (hT : (pc : Int) + o = (pcT : Int)) (hF : pc + 3 = pcF) (kT : x.toInt < 0 → Run p l e R s m args below meth c Z own V n0 G h cells slots pcT ls st) (kF : 0 ≤ x.toInt → Run p l e R s m args below meth c Z own V n0 G h cells slots pcF ls st) : Run p l e R s m args below meth c Z own V n0 G h cells slots pc ls (.int x :: st) :=
  r_if C hd hT hF (fun hc => kT (lt32.mp ((tf (P := x < (0 : Int32)) XT.i0_lt_t XT.i0_lt_f).1 hc))) (fun hc => kF (nlt32.mp ((tf (P := x < (0 : Int32)) XT.i0_lt_t XT.i0_lt_f).2 hc)))
theorem r_lcmplt {x y : Int64} {o : Int} {pcT pcF : Nat} (C : Cx p c meth bytes maxL ret nm) (hd0 : decode bytes pc = .ok (.lcmp, 1)) (hp : pc + 1 = pc') (hd : decode bytes pc' = .ok (.ifCond .lt o, 3)) (hT : (pc' : Int) + o = (pcT : Int)) (hF : pc' + 3 = pcF) (kT : x.toInt < y.toInt → Run p l e R s m args below meth c Z own V n0 G h cells slots pcT ls st) (kF : y.toInt ≤ x.toInt → Run p l e R s m args below meth c Z own V n0 G h cells slots pcF ls st) : Run p l e R s m args below meth c Z own V n0 G h cells slots pc ls (.long y :: .long x :: st) := by
  subst hp
  exact (r_if (x := XT.cmpL x y) C hd hT hF (fun hc => kT (lt64.mp ((tf (P := x < y) XT.ll_lt_t XT.ll_lt_f).1 hc))) (fun hc => kF (nlt64.mp ((tf (P := x < y) XT.ll_lt_t XT.ll_lt_f).2 hc)))).go fun T t A q => XT.lcmp (g := mkF m pc ls (.long y :: .long x :: st)) A C.1 rfl (hb C.2.1 hd0) rfl q
theorem r_icmpge {x y : Int32} {o : Int} {pcT pcF : Nat} (C : Cx p c meth bytes maxL ret nm) (hd : decode bytes pc = .ok (.if_icmp .ge o, 3)) (hT : (pc : Int) + o = (pcT : Int)) (hF : pc + 3 = pcF) (kT : y.toInt ≤ x.toInt → Run p l e R s m args below meth c Z own V n0 G h cells slots pcT ls st) (kF : x.toInt < y.toInt → Run p l e R s m args below meth c Z own V n0 G h cells slots pcF ls st) : Run p l e R s m args below meth c Z own V n0 G h cells slots pc ls (.int y :: .int x :: st) :=
  r_icmp C hd hT hF (fun hc => kT (nlt32.mp ((tf (P := ¬ x < y) XT.ii_ge_t (fun q => XT.ii_ge_f (Classical.not_not.mp q))).1 hc))) (fun hc => kF (lt32.mp (Classical.not_not.mp ((tf (P := ¬ x < y) XT.ii_ge_t (fun q => XT.ii_ge_f (Classical.not_not.mp q))).2 hc))))
theorem r_ifge {x : Int32} {o : Int} {pcT pcF : Nat} (C : Cx p c meth bytes maxL ret nm) (hd : decode bytes pc = .ok (.ifCond .ge o, 3)) (hT : (pc : Int) + o = (pcT : Int)) (hF : pc + 3 = pcF) (kT : 0 ≤ x.toInt → Run p l e R s m args below meth c Z own V n0 G h cells slots pcT ls st) (kF : x.toInt < 0 → Run p l e R s m args below meth c Z own V n0 G h cells slots pcF ls st) : Run p l e R s m args below meth c Z own V n0 G h cells slots pc ls (.int x :: st) :=
  r_if C hd hT hF (fun hc => kT (nlt32.mp ((tf (P := ¬ x < (0 : Int32)) XT.i0_ge_t (fun q => XT.i0_ge_f (Classical.not_not.mp q))).1 hc))) (fun hc => kF (lt32.mp (Classical.not_not.mp ((tf (P := ¬ x < (0 : Int32)) XT.i0_ge_t (fun q => XT.i0_ge_f (Classical.not_not.mp q))).2 hc))))
theorem r_lcmpge {x y : Int64} {o : Int} {pcT pcF : Nat} (C : Cx p c meth bytes maxL ret nm) (hd0 : decode bytes pc = .ok (.lcmp, 1)) (hp : pc + 1 = pc') (hd : decode bytes pc' = .ok (.ifCond .ge o, 3)) (hT : (pc' : Int) + o = (pcT : Int)) (hF : pc' + 3 = pcF) (kT : y.toInt ≤ x.toInt → Run p l e R s m args below meth c Z own V n0 G h cells slots pcT ls st) (kF : x.toInt < y.toInt → Run p l e R s m args below meth c Z own V n0 G h cells slots pcF ls st) : Run p l e R s m args below meth c Z own V n0 G h cells slots pc ls (.long y :: .long x :: st) := by
  subst hp
  exact (r_if (x := XT.cmpL x y) C hd hT hF (fun hc => kT (nlt64.mp ((tf (P := ¬ x < y) XT.ll_ge_t (fun q => XT.ll_ge_f (Classical.not_not.mp q))).1 hc))) (fun hc => kF (lt64.mp (Classical.not_not.mp ((tf (P := ¬ x < y) XT.ll_ge_t (fun q => XT.ll_ge_f (Classical.not_not.mp q))).2 hc))))).go fun T t A q => XT.lcmp (g := mkF m pc ls (.long y :: .long x :: st)) A C.1 rfl (hb C.2.1 hd0) rfl q
theorem r_icmpgt {x y : Int32} {o : Int} {pcT pcF : Nat} (C : Cx p c meth bytes maxL ret nm) (hd : decode bytes pc = .ok (.if_icmp .gt o, 3)) (hT : (pc : Int) + o = (pcT : Int)) (hF : pc + 3 = pcF) (kT : y.toInt < x.toInt → Run p l e R s m args below meth c Z own V n0 G h cells slots pcT ls st) (kF : x.toInt ≤ y.toInt → Run p l e R s m args below meth c Z own V n0 G h cells slots pcF ls st) : Run p l e R s m args below meth c Z own V n0 G h cells slots pc ls (.int y :: .int x :: st) :=
  r_icmp C hd hT hF (fun hc => kT (lt32.mp ((tf (P := y < x) XT.ii_gt_t XT.ii_gt_f).1 hc))) (fun hc => kF (nlt32.mp ((tf (P := y < x) XT.ii_gt_t XT.ii_gt_f).2 hc)))
theorem r_ifgt {x : Int32} {o : Int} {pcT pcF : Nat} (C : Cx p c meth bytes maxL ret nm) (hd : decode bytes pc = .ok (.ifCond .gt o, 3)) (hT : (pc : Int) + o = (pcT : Int)) (hF : pc + 3 = pcF) (kT : 0 < x.toInt → Run p l e R s m args below meth c Z own V n0 G h cells slots pcT ls st) (kF : x.toInt ≤ 0 → Run p l e R s m args below meth c Z own V n0 G h cells slots pcF ls st) : Run p l e R s m args below meth c Z own V n0 G h cells slots pc ls (.int x :: st) :=
  r_if C hd hT hF (fun hc => kT (lt32.mp ((tf (P := (0 : Int32) < x) XT.i0_gt_t XT.i0_gt_f).1 hc))) (fun hc => kF (nlt32.mp ((tf (P := (0 : Int32) < x) XT.i0_gt_t XT.i0_gt_f).2 hc)))
theorem r_lcmpgt {x y : Int64} {o : Int} {pcT pcF : Nat} (C : Cx p c meth bytes maxL ret nm) (hd0 : decode bytes pc = .ok (.lcmp, 1)) (hp : pc + 1 = pc') (hd : decode bytes pc' = .ok (.ifCond .gt o, 3)) (hT : (pc' : Int) + o = (pcT : Int)) (hF : pc' + 3 = pcF) (kT : y.toInt < x.toInt → Run p l e R s m args below meth c Z own V n0 G h cells slots pcT ls st) (kF : x.toInt ≤ y.toInt → Run p l e R s m args below meth c Z own V n0 G h cells slots pcF ls st) : Run p l e R s m args below meth c Z own V n0 G h cells slots pc ls (.long y :: .long x :: st) := by
  subst hp
  exact (r_if (x := XT.cmpL x y) C hd hT hF (fun hc => kT (lt64.mp ((tf (P := y < x) XT.ll_gt_t XT.ll_gt_f).1 hc))) (fun hc => kF (nlt64.mp ((tf (P := y < x) XT.ll_gt_t XT.ll_gt_f).2 hc)))).go fun T t A q => XT.lcmp (g := mkF m pc ls (.long y :: .long x :: st)) A C.1 rfl (hb C.2.1 hd0) rfl q
theorem r_icmple {x y : Int32} {o : Int} {pcT pcF : Nat} (C : Cx p c meth bytes maxL ret nm) (hd : decode bytes pc = .ok (.if_icmp .le o, 3)) (hT : (pc : Int) + o = (pcT : Int)) (hF : pc + 3 = pcF) (kT : x.toInt ≤ y.toInt → Run p l e R s m args below meth c Z own V n0 G h cells slots pcT ls st) (kF : y.toInt < x.toInt → Run p l e R s m args below meth c Z own V n0 G h cells slots pcF ls st) : Run p l e R s m args below meth c Z own V n0 G h cells slots pc ls (.int y :: .int x :: st) :=
  r_icmp C hd hT hF (fun hc => kT (nlt32.mp ((tf (P := ¬ y < x) XT.ii_le_t (fun q => XT.ii_le_f (Classical.not_not.mp q))).1 hc))) (fun hc => kF (lt32.mp (Classical.not_not.mp ((tf (P := ¬ y < x) XT.ii_le_t (fun q => XT.ii_le_f (Classical.not_not.mp q))).2 hc))))
theorem r_ifle {x : Int32} {o : Int} {pcT pcF : Nat} (C : Cx p c meth bytes maxL ret nm) (hd : decode bytes pc = .ok (.ifCond .le o, 3)) (hT : (pc : Int) + o = (pcT : Int)) (hF : pc + 3 = pcF) (kT : x.toInt ≤ 0 → Run p l e R s m args below meth c Z own V n0 G h cells slots pcT ls st) (kF : 0 < x.toInt → Run p l e R s m args below meth c Z own V n0 G h cells slots pcF ls st) : Run p l e R s m args below meth c Z own V n0 G h cells slots pc ls (.int x :: st) :=
  r_if C hd hT hF (fun hc => kT (nlt32.mp ((tf (P := ¬ (0 : Int32) < x) XT.i0_le_t (fun q => XT.i0_le_f (Classical.not_not.mp q))).1 hc))) (fun hc => kF (lt32.mp (Classical.not_not.mp ((tf (P := ¬ (0 : Int32) < x) XT.i0_le_t (fun q => XT.i0_le_f (Classical.not_not.mp q))).2 hc))))
theorem r_lcmple {x y : Int64} {o : Int} {pcT pcF : Nat} (C : Cx p c meth bytes maxL ret nm) (hd0 : decode bytes pc = .ok (.lcmp, 1)) (hp : pc + 1 = pc') (hd : decode bytes pc' = .ok (.ifCond .le o, 3)) (hT : (pc' : Int) + o = (pcT : Int)) (hF : pc' + 3 = pcF) (kT : x.toInt ≤ y.toInt → Run p l e R s m args below meth c Z own V n0 G h cells slots pcT ls st) (kF : y.toInt < x.toInt → Run p l e R s m args below meth c Z own V n0 G h cells slots pcF ls st) : Run p l e R s m args below meth c Z own V n0 G h cells slots pc ls (.long y :: .long x :: st) := by
  subst hp
  exact (r_if (x := XT.cmpL x y) C hd hT hF (fun hc => kT (nlt64.mp ((tf (P := ¬ y < x) XT.ll_le_t (fun q => XT.ll_le_f (Classical.not_not.mp q))).1 hc))) (fun hc => kF (lt64.mp (Classical.not_not.mp ((tf (P := ¬ y < x) XT.ll_le_t (fun q => XT.ll_le_f (Classical.not_not.mp q))).2 hc))))).go fun T t A q => XT.lcmp (g := mkF m pc ls (.long y :: .long x :: st)) A C.1 rfl (hb C.2.1 hd0) rfl q
theorem r_icmpeq {x y : Int32} {o : Int} {pcT pcF : Nat} (C : Cx p c meth bytes maxL ret nm) (hd : decode bytes pc = .ok (.if_icmp .eq o, 3)) (hT : (pc : Int) + o = (pcT : Int)) (hF : pc + 3 = pcF) (kT : x = y → Run p l e R s m args below meth c Z own V n0 G h cells slots pcT ls st) (kF : ¬ x = y → Run p l e R s m args below meth c Z own V n0 G h cells slots pcF ls st) : Run p l e R s m args below meth c Z own V n0 G h cells slots pc ls (.int y :: .int x :: st) :=
  r_icmp C hd hT hF (fun hc => kT ((tf (P := x = y) XT.ii_eq_t XT.ii_eq_f).1 hc)) (fun hc => kF ((tf (P := x = y) XT.ii_eq_t XT.ii_eq_f).2 hc))
theorem r_ifeq {x : Int32} {o : Int} {pcT pcF : Nat} (C : Cx p c meth bytes maxL ret nm) (hd : decode bytes pc = .ok (.ifCond .eq o, 3)) (hT : (pc : Int) + o = (pcT : Int)) (hF : pc + 3 = pcF) (kT : x = 0 → Run p l e R s m args below meth c Z own V n0 G h cells slots pcT ls st) (kF : ¬ x = 0 → Run p l e R s m args below meth c Z own V n0 G h cells slots pcF ls st) : Run p l e R s m args below meth c Z own V n0 G h cells slots pc ls (.int x :: st) :=
  r_if C hd hT hF (fun hc => kT ((tf (P := x = 0) XT.i0_eq_t XT.i0_eq_f).1 hc)) (fun hc => kF ((tf (P := x = 0) XT.i0_eq_t XT.i0_eq_f).2 hc))
theorem r_lcmpeq {x y : Int64} {o : Int} {pcT pcF : Nat} (C : Cx p c meth bytes maxL ret nm) (hd0 : decode bytes pc = .ok (.lcmp, 1)) (hp : pc + 1 = pc') (hd : decode bytes pc' = .ok (.ifCond .eq o, 3)) (hT : (pc' : Int) + o = (pcT : Int)) (hF : pc' + 3 = pcF) (kT : x = y → Run p l e R s m args below meth c Z own V n0 G h cells slots pcT ls st) (kF : ¬ x = y → Run p l e R s m args below meth c Z own V n0 G h cells slots pcF ls st) : Run p l e R s m args below meth c Z own V n0 G h cells slots pc ls (.long y :: .long x :: st) := by
  subst hp
  exact (r_if (x := XT.cmpL x y) C hd hT hF (fun hc => kT ((tf (P := x = y) XT.ll_eq_t XT.ll_eq_f).1 hc)) (fun hc => kF ((tf (P := x = y) XT.ll_eq_t XT.ll_eq_f).2 hc))).go fun T t A q => XT.lcmp (g := mkF m pc ls (.long y :: .long x :: st)) A C.1 rfl (hb C.2.1 hd0) rfl q
theorem r_icmpne {x y : Int32} {o : Int} {pcT pcF : Nat} (C : Cx p c meth bytes maxL ret nm) (hd : decode bytes pc = .ok (.if_icmp .ne o, 3)) (hT : (pc : Int) + o = (pcT : Int)) (hF : pc + 3 = pcF) (kT : ¬ x = y → Run p l e R s m args below meth c Z own V n0 G h cells slots pcT ls st) (kF : x = y → Run p l e R s m args below meth c Z own V n0 G h cells slots pcF ls st) : Run p l e R s m args below meth c Z own V n0 G h cells slots pc ls (.int y :: .int x :: st) :=
  r_icmp C hd hT hF (fun hc => kT ((tf (P := ¬ x = y) XT.ii_ne_t (fun q => XT.ii_ne_f (Classical.not_not.mp q))).1 hc)) (fun hc => kF (Classical.not_not.mp ((tf (P := ¬ x = y) XT.ii_ne_t (fun q => XT.ii_ne_f (Classical.not_not.mp q))).2 hc)))
theorem r_ifne {x : Int32} {o : Int} {pcT pcF : Nat} (C : Cx p c meth bytes maxL ret nm) (hd : decode bytes pc = .ok (.ifCond .ne o, 3)) (hT : (pc : Int) + o = (pcT : Int)) (hF : pc + 3 = pcF) (kT : ¬ x = 0 → Run p l e R s m args below meth c Z own V n0 G h cells slots pcT ls st) (kF : x = 0 → Run p l e R s m args below meth c Z own V n0 G h cells slots pcF ls st) : Run p l e R s m args below meth c Z own V n0 G h cells slots pc ls (.int x :: st) :=
  r_if C hd hT hF (fun hc => kT ((tf (P := ¬ x = 0) XT.i0_ne_t (fun q => XT.i0_ne_f (Classical.not_not.mp q))).1 hc)) (fun hc => kF (Classical.not_not.mp ((tf (P := ¬ x = 0) XT.i0_ne_t (fun q => XT.i0_ne_f (Classical.not_not.mp q))).2 hc)))
theorem r_lcmpne {x y : Int64} {o : Int} {pcT pcF : Nat} (C : Cx p c meth bytes maxL ret nm) (hd0 : decode bytes pc = .ok (.lcmp, 1)) (hp : pc + 1 = pc') (hd : decode bytes pc' = .ok (.ifCond .ne o, 3)) (hT : (pc' : Int) + o = (pcT : Int)) (hF : pc' + 3 = pcF) (kT : ¬ x = y → Run p l e R s m args below meth c Z own V n0 G h cells slots pcT ls st) (kF : x = y → Run p l e R s m args below meth c Z own V n0 G h cells slots pcF ls st) : Run p l e R s m args below meth c Z own V n0 G h cells slots pc ls (.long y :: .long x :: st) := by
  subst hp
  exact (r_if (x := XT.cmpL x y) C hd hT hF (fun hc => kT ((tf (P := ¬ x = y) XT.ll_ne_t (fun q => XT.ll_ne_f (Classical.not_not.mp q))).1 hc)) (fun hc => kF (Classical.not_not.mp ((tf (P := ¬ x = y) XT.ll_ne_t (fun q => XT.ll_ne_f (Classical.not_not.mp q))).2 hc)))).go fun T t A q => XT.lcmp (g := mkF m pc ls (.long y :: .long x :: st)) A C.1 rfl (hb C.2.1 hd0) rfl q
theorem r_ifnonnullR {a : Addr} {o : Int} (C : Cx p c meth bytes maxL ret nm) (hd : decode bytes pc = .ok (.ifnonnull o, 3)) (hp : (pc : Int) + o = (pc' : Int)) (k : Run p l e R s m args below meth c Z own V n0 G h cells slots pc' ls st) : Run p l e R s m args below meth c Z own V n0 G h cells slots pc ls (.ref a :: st) :=
  k.go fun T t A q => XT.ifnonnullYes (g := mkF m pc ls (.ref a :: st)) A C.1 rfl (pc0 := pc) (pc' := pc') rfl (hb C.2.1 hd) rfl (toN hp).1 (toN hp).2 q
theorem r_ifnullR {a : Addr} {o : Int} (C : Cx p c meth bytes maxL ret nm) (hd : decode bytes pc = .ok (.ifnull o, 3)) (hp : pc + 3 = pc') (k : Run p l e R s m args below meth c Z own V n0 G h cells slots pc' ls st) : Run p l e R s m args below meth c Z own V n0 G h cells slots pc ls (.ref a :: st) := by
  subst hp
  exact k.go fun T t A q => XS.ifnullNo (g := mkF m pc ls (.ref a :: st)) A C.1 rfl (hb C.2.1 hd) rfl q
theorem r_ldc {i : Nat} {x : Int32} (C : Cx p c meth bytes maxL ret nm) (w : (Jvm.Cond.constant own i x).before a0 Z = true) (hd : decode bytes pc = .ok (.ldc i, 2)) (hp : pc + 2 = pc') (k : Run p l e R s m args below meth c Z own V n0 G h cells slots pc' ls (.int x :: st)) : Run p l e R s m args below meth c Z own V n0 G h cells slots pc ls st := by
  subst hp
  intro vm0 k0 T L X hV hk hZ ho N eT
  obtain ⟨U, o, h1, r⟩ := k vm0 k0 T L X hV hk hZ ho N eT
  exact ⟨U, o, X.ldcI (g := mkF m pc ls st) C.1 (own := own) ho (mvT (s := s.setVm vm0) hZ w) rfl (hb C.2.1 hd) h1, r⟩
theorem r_ldc_w {i : Nat} {x : Int32} (C : Cx p c meth bytes maxL ret nm) (w : (Jvm.Cond.constant own i x).before a0 Z = true) (hd : decode bytes pc = .ok (.ldc_w i, 3)) (hp : pc + 3 = pc') (k : Run p l e R s m args below meth c Z own V n0 G h cells slots pc' ls (.int x :: st)) : Run p l e R s m args below meth c Z own V n0 G h cells slots pc ls st := by
  subst hp
  intro vm0 k0 T L X hV hk hZ ho N eT
  obtain ⟨U, o, h1, r⟩ := k vm0 k0 T L X hV hk hZ ho N eT
  exact ⟨U, o, X.ldcWI (g := mkF m pc ls st) C.1 (own := own) ho (mvT (s := s.setVm vm0) hZ w) rfl (hb C.2.1 hd) h1, r⟩
theorem r_ldc2_w {i : Nat} {x : Int64} (C : Cx p c meth bytes maxL ret nm) (w : (Jvm.Cond.constantLong own i x).before a0 Z = true) (hd : decode bytes pc = .ok (.ldc2_w i, 3)) (hp : pc + 3 = pc') (k : Run p l e R s m args below meth c Z own V n0 G h cells slots pc' ls (.long x :: st)) : Run p l e R s m args below meth c Z own V n0 G h cells slots pc ls st := by
  subst hp
  intro vm0 k0 T L X hV hk hZ ho N eT
  obtain ⟨U, o, h1, r⟩ := k vm0 k0 T L X hV hk hZ ho N eT
  exact ⟨U, o, X.ldc2J (g := mkF m pc ls st) C.1 (own := own) ho (mvT (s := s.setVm vm0) hZ w) rfl (hb C.2.1 hd) h1, r⟩
theorem retI0 {T : State} {locs : List Loc} {k n : Nat} (X : Stand p l e R s m args below meth c T locs k n) (hx : p.tables.exec = Jvm.exec) {pc : Nat} {Ls : Array Slot} {z : Int32} {rest : List Value} (hret : meth.sig.returnType = some .int) (hd : decode c.code pc = .ok (.ireturn, 1)) {fs : List Frame}
    (hl : ∀ (f : JFrame) (acts : List Action), f.method = m → f.locked = none → f.entered = [] → (doReturn e (T.setTop f) acts (some (.int z))).1 = T.setFrames fs) : Steps p.tables e below (T.setTop (mkF m pc Ls (.int z :: rest))) (T.setFrames fs) :=
  retOut X hx hret rfl (Or.inl ⟨rfl, Or.inl rfl, z, rfl⟩) hd hl
theorem r_ireturn {z : Int32} {P : Option Value → Heap → Prop} (C : Cx p c meth bytes maxL (some .int) nm) (hd : decode bytes pc = .ok (.ireturn, 1)) (hP : P (some (.int z)) h) (hc : cells ≤ R.cells) (hs : slots ≤ R.slots) : Run p l e R s m args below meth c Z own (plainV s) n0 (Gq s n0 R P) h cells slots pc ls (.int z :: st) := by
  intro vm0 k0 T L X hV hk hZ ho N eT
  cases (show vm0 = s.vm from hV)
  have X' : Stand p l e R s m args below meth c T L cells slots := X
  obtain ⟨fs, hr, hrun, hended, hW, hsame⟩ := X'.leave (v := (some (.int z))) (fun h => by first | rfl | (rw [C.2.2.2.1] at h; cases h)) C.2.2.2.2.1
  exact ⟨_, _, retI0 X' C.1 C.2.2.2.1 (hb C.2.1 hd) hr, hrun, hended, _, _, rfl, ⟨by show P _ T.heap; rw [eT]; exact hP, N⟩, ⟨_, rfl⟩, hW, hsame.mono hc hs⟩
theorem r_ireturnN {z : Int32} {t : FieldType} (ht : t = .boolean ∨ t = .byte ∨ t = .char ∨ t = .short) {P : Option Value → Heap → Prop} (C : Cx p c meth bytes maxL (some t) nm) (hd : decode bytes pc = .ok (.ireturn, 1)) (hP : P (some (.int (nar t z))) h) (hc : cells ≤ R.cells) (hs : slots ≤ R.slots) : Run p l e R s m args below meth c Z own (plainV s) n0 (Gq s n0 R P) h cells slots pc ls (.int z :: st) := by
  intro vm0 k0 T L X hV hk hZ ho N eT
  cases (show vm0 = s.vm from hV)
  have X' : Stand p l e R s m args below meth c T L cells slots := X
  obtain ⟨fs, hr, hrun, hended, hW, hsame⟩ := X'.leave (v := (some (.int (nar t z)))) (fun h => by first | rfl | (rw [C.2.2.2.1] at h; cases h)) C.2.2.2.2.1
  exact ⟨_, _, retN X' C.1 C.2.2.2.1 ht (hb C.2.1 hd) hr, hrun, hended, _, _, rfl, ⟨by show P _ T.heap; rw [eT]; exact hP, N⟩, ⟨_, rfl⟩, hW, hsame.mono hc hs⟩
theorem r_lreturn {z : Int64} {P : Option Value → Heap → Prop} (C : Cx p c meth bytes maxL (some .long) nm) (hd : decode bytes pc = .ok (.lreturn, 1)) (hP : P (some (.long z)) h) (hc : cells ≤ R.cells) (hs : slots ≤ R.slots) : Run p l e R s m args below meth c Z own (plainV s) n0 (Gq s n0 R P) h cells slots pc ls (.long z :: st) := by
  intro vm0 k0 T L X hV hk hZ ho N eT
  cases (show vm0 = s.vm from hV)
  have X' : Stand p l e R s m args below meth c T L cells slots := X
  obtain ⟨fs, hr, hrun, hended, hW, hsame⟩ := X'.leave (v := (some (.long z))) (fun h => by first | rfl | (rw [C.2.2.2.1] at h; cases h)) C.2.2.2.2.1
  exact ⟨_, _, retOut X' C.1 C.2.2.2.1 rfl (Or.inr (Or.inl ⟨rfl, rfl, z, rfl⟩)) (hb C.2.1 hd) hr, hrun, hended, _, _, rfl, ⟨by show P _ T.heap; rw [eT]; exact hP, N⟩, ⟨_, rfl⟩, hW, hsame.mono hc hs⟩
theorem r_areturn {a : Addr} {t : FieldType} (ht : t.isReference = true) (hn : narrow t (.ref a) = .ref a) {P : Option Value → Heap → Prop} (C : Cx p c meth bytes maxL (some t) nm) (hd : decode bytes pc = .ok (.areturn, 1)) (hP : P (some (.ref a)) h) (hc : cells ≤ R.cells) (hs : slots ≤ R.slots) : Run p l e R s m args below meth c Z own (plainV s) n0 (Gq s n0 R P) h cells slots pc ls (.ref a :: st) := by
  intro vm0 k0 T L X hV hk hZ ho N eT
  cases (show vm0 = s.vm from hV)
  have X' : Stand p l e R s m args below meth c T L cells slots := X
  obtain ⟨fs, hr, hrun, hended, hW, hsame⟩ := X'.leave (v := (some (.ref a))) (fun h => by first | rfl | (rw [C.2.2.2.1] at h; cases h)) C.2.2.2.2.1
  exact ⟨_, _, retOut X' C.1 C.2.2.2.1 hn (Or.inr (Or.inr (Or.inr (Or.inr ⟨rfl, ht, rfl⟩)))) (hb C.2.1 hd) hr, hrun, hended, _, _, rfl, ⟨by show P _ T.heap; rw [eT]; exact hP, N⟩, ⟨_, rfl⟩, hW, hsame.mono hc hs⟩
theorem r_return0  {P : Option Value → Heap → Prop} (C : Cx p c meth bytes maxL none nm) (hd : decode bytes pc = .ok (.return_, 1)) (hP : P none h) (hc : cells ≤ R.cells) (hs : slots ≤ R.slots) : Run p l e R s m args below meth c Z own (plainV s) n0 (Gq s n0 R P) h cells slots pc ls [] := by
  intro vm0 k0 T L X hV hk hZ ho N eT
  cases (show vm0 = s.vm from hV)
  have X' : Stand p l e R s m args below meth c T L cells slots := X
  obtain ⟨fs, hr, hrun, hended, hW, hsame⟩ := X'.leave (v := none) (fun h => by first | rfl | (rw [C.2.2.2.1] at h; cases h)) C.2.2.2.2.1
  exact ⟨_, _, X'.returnOut C.1 C.2.2.2.1 (hb C.2.1 hd) hr, hrun, hended, _, _, rfl, ⟨by show P _ T.heap; rw [eT]; exact hP, N⟩, ⟨_, rfl⟩, hW, hsame.mono hc hs⟩
theorem r_callS {y : MethodName} {bytes' : ByteArray} {maxL' : Nat} {ret' : Option FieldType} {rm : Room} {as : List Value} {P : Option Value → Heap → Prop} {index W : Nat} {ps : List FieldType} {r0 : Option FieldType} (C : Cx p c meth bytes maxL ret nm)
    (w1 : (Jvm.Cond.methodLink own index y).before a0 Z = true) (w2 : (Jvm.Cond.static y).before a0 Z = true) (w3 : (Jvm.Cond.initialized y.cls).before a0 Z = true) (w4 : (Jvm.Cond.code y bytes' maxL' ret').before a0 Z = true)
    (hy : y.cls ≠ "java/lang/invoke/MethodHandle" ∧ y.cls ≠ "java/lang/invoke/VarHandle") (hpd : parseMethodDescriptor y.desc = some ⟨ps, r0⟩) (hlen : as.length = ps.length) (hstk : st' = as.reverse ++ st) (hd : decode bytes pc = .ok (.invokestatic index, 3)) (hp : pc + 3 = pc')
    (hsz : ls.size = maxL) (hW : (st.map fun v => v.category).sum ≤ W) (K : Con l Z y bytes' maxL' ret' rm as.toArray h n0 P) (hf : rm.frames + 1 ≤ R.frames) (hl : W + (maxL' + 11) + rm.locals ≤ R.locals) (hc : cells + rm.cells ≤ R.cells) (hs : slots + rm.slots ≤ R.slots)
    (k : ∀ v h', P v h' → Run p l e R s m args below meth c Z own V n0 G h' (cells + rm.cells) (slots + rm.slots) pc' ls (v.toList ++ st)) : Run p l e R s m args below meth c Z own V n0 G h cells slots pc ls st' := by
  subst hp hstk
  intro vm0 k0 T L X hV hk hZ ho N eT
  have hZ' : Z.Warmed39 (s.setVm vm0).vm := hZ
  obtain ⟨v, vm₁, B, hw, X', ⟨L', hQ, e1, e2, e3⟩, stp⟩ := Jvm.LawKit.callS X C.1 (y := y) (own := own) ho (mvT hZ' w1) (mvT hZ' w2) (mvT hZ' w3) (mvT hZ' w4) hy
    (backOf (W := W) (Q := fun v h' L => P v h' ∧ Fr n0 L) (K []) hZ' w4 w3 hf hl) (g := mkF m pc ls (as.reverse ++ st)) rfl (by rw [C.2.2.1]; exact hsz) (argsL := as) (rest := st) (lenOf hpd hlen) rfl (by simpa using hW) (hb C.2.1 hd) (fun _ _ => ⟨rfl, eT, hc, hs⟩)
  obtain ⟨hP, N'⟩ := hQ
  obtain ⟨U, L2, ce2, sl2⟩ := B
  dsimp only [Pt.U, Pt.locs, Pt.cells, Pt.slots] at X' e1 e2 e3 stp hP
  subst e1 e2 e3
  have hle := (stp _ (Steps.refl _)).heap_le
  have hle' : h.size ≤ U.heap.size := by rw [← eT]; exact hle
  obtain ⟨U', o, h1, r⟩ := k v _ hP vm0 k0 U _ X' hV (Nat.le_trans hk hle') hZ ho (Fr.app N N') rfl
  exact ⟨U', o, stp _ h1, r⟩
/-- a constructor (or any '<init>') -/
theorem r_callI {y : MethodName} {bytes' : ByteArray} {maxL' : Nat} {rm : Room} {a : Addr} {as : List Value} {P : Option Value → Heap → Prop} {index W : Nat} {ps : List FieldType} {r0 : Option FieldType} (C : Cx p c meth bytes maxL ret nm) (hy1 : y.name = "<init>")
    (w1 : (Jvm.Cond.methodLink own index y).before a0 Z = true) (w2 : (Jvm.Cond.instanceMethod y).before a0 Z = true) (w3 : (Jvm.Cond.initialized y.cls).before a0 Z = true) (w4 : (Jvm.Cond.code y bytes' maxL' none).before a0 Z = true)
    (hy : y.cls ≠ "java/lang/invoke/MethodHandle" ∧ y.cls ≠ "java/lang/invoke/VarHandle") (hpd : parseMethodDescriptor y.desc = some ⟨ps, r0⟩) (hlen : as.length = ps.length) (hstk : st' = as.reverse ++ .ref a :: st) (hd : decode bytes pc = .ok (.invokespecial index, 3)) (hp : pc + 3 = pc')
    (hsz : ls.size = maxL) (hW : (st.map fun v => v.category).sum ≤ W) (K : Con l Z y bytes' maxL' none rm (.ref a :: as).toArray h n0 P) (hf : rm.frames + 1 ≤ R.frames) (hl : W + (maxL' + 11) + rm.locals ≤ R.locals) (hc : cells + rm.cells ≤ R.cells) (hs : slots + rm.slots ≤ R.slots)
    (k : ∀ v h', P v h' → Run p l e R s m args below meth c Z own V n0 G h' (cells + rm.cells) (slots + rm.slots) pc' ls (v.toList ++ st)) : Run p l e R s m args below meth c Z own V n0 G h cells slots pc ls st' := by
  subst hp hstk
  intro vm0 k0 T L X hV hk hZ ho N eT
  have hZ' : Z.Warmed39 (s.setVm vm0).vm := hZ
  obtain ⟨v, vm₁, B, hw, X', ⟨L', hQ, e1, e2, e3⟩, stp⟩ := X.specialBack C.1 (y := y) hy1 (own := own) ho (mvT hZ' w1) (mvT hZ' w2) (mvT hZ' w4) hy
    (backOf (W := W) (Q := fun v h' L => P v h' ∧ Fr n0 L) (K []) hZ' w4 w3 hf hl) (g := mkF m pc ls (as.reverse ++ .ref a :: st)) rfl (by rw [C.2.2.1]; exact hsz) (Steps.refl _) (a := a) (argsL := as) (rest := st) (lenOf hpd hlen) rfl (by simpa using hW) (hb C.2.1 hd) (fun _ _ => ⟨rfl, eT, hc, hs⟩)
  obtain ⟨hP, N'⟩ := hQ
  obtain ⟨U, L2, ce2, sl2⟩ := B
  dsimp only [Pt.U, Pt.locs, Pt.cells, Pt.slots] at X' e1 e2 e3 stp hP
  subst e1 e2 e3
  have hle := stp.heap_le
  have hle' : h.size ≤ U.heap.size := by rw [← eT]; exact hle
  obtain ⟨U', o, h1, r⟩ := k v _ hP vm0 k0 U _ X' hV (Nat.le_trans hk hle') hZ ho (Fr.app N N') rfl
  exact ⟨U', o, stp.trans h1, r⟩
/-- an instance method of an object whose class is known exactly -/
theorem r_callV {y z : MethodName} {K0 K1 : String} {bytes' : ByteArray} {maxL' : Nat} {ret' : Option FieldType} {rm : Room} {a : Addr} {as : List Value} {P : Option Value → Heap → Prop} {index W : Nat} {ps : List FieldType} {r0 : Option FieldType} (C : Cx p c meth bytes maxL ret nm)
    (w1 : (Jvm.Cond.methodLink own index y).before a0 Z = true) (w2 : (Jvm.Cond.declares y).before a0 Z = true) (w5 : (Jvm.Cond.selects K1 y y).before a0 Z = true) (w6 : (Jvm.Cond.selects K0 y z).before a0 Z = true) (w7 : (Jvm.Cond.instanceMethod z).before a0 Z = true) (w3 : (Jvm.Cond.initialized z.cls).before a0 Z = true) (w4 : (Jvm.Cond.code z bytes' maxL' ret').before a0 Z = true)
    (hy : y.cls ≠ "java/lang/invoke/MethodHandle" ∧ y.cls ≠ "java/lang/invoke/VarHandle") (hpd : parseMethodDescriptor y.desc = some ⟨ps, r0⟩) (hlen : as.length = ps.length) (hstk : st' = as.reverse ++ .ref a :: st) (hd : decode bytes pc = .ok (.invokevirtual index, 3)) (hp : pc + 3 = pc')
    (hsz : ls.size = maxL) (hW : (st.map fun v => v.category).sum ≤ W) (E : Exa Z h a K0) (K : Con l Z z bytes' maxL' ret' rm (.ref a :: as).toArray h n0 P) (hf : rm.frames + 1 ≤ R.frames) (hl : W + (maxL' + 11) + rm.locals ≤ R.locals) (hc : cells + rm.cells ≤ R.cells) (hs : slots + rm.slots ≤ R.slots)
    (k : ∀ v h', P v h' → Run p l e R s m args below meth c Z own V n0 G h' (cells + rm.cells) (slots + rm.slots) pc' ls (v.toList ++ st)) : Run p l e R s m args below meth c Z own V n0 G h cells slots pc ls st' := by
  subst hp hstk
  intro vm0 k0 T L X hV hk hZ ho N eT
  have hZ' : Z.Warmed39 (s.setVm vm0).vm := hZ
  obtain ⟨cq, kq, qa, qb, qc⟩ := isOf hZ' eT E
  have nf : NotFace (s.setVm vm0) y := notFace_of_selects (args := #[]) (mvT hZ' w5)
  obtain ⟨v, vm₁, B, hw, X', ⟨L', hQ, e1, e2, e3⟩, stp⟩ := X.virtualBack C.1 (y := y) (z := z) (own := own) ho (mvT hZ' w1) (mvT hZ' w2) nf (mvT hZ' w6) (mvT hZ' w7) hy
    (backOf (W := W) (Q := fun v h' L => P v h' ∧ Fr n0 L) (K []) hZ' w4 w3 hf hl) qa qc (g := mkF m pc ls (as.reverse ++ .ref a :: st)) rfl (by rw [C.2.2.1]; exact hsz) (Steps.refl _) (argsL := as) (rest := st) (lenOf hpd hlen) rfl (by simpa using hW) (hb C.2.1 hd) (fun _ _ => ⟨rfl, eT, hc, hs⟩)
  obtain ⟨hP, N'⟩ := hQ
  obtain ⟨U, L2, ce2, sl2⟩ := B
  dsimp only [Pt.U, Pt.locs, Pt.cells, Pt.slots] at X' e1 e2 e3 stp hP
  subst e1 e2 e3
  have hle := stp.heap_le
  have hle' : h.size ≤ U.heap.size := by rw [← eT]; exact hle
  obtain ⟨U', o, h1, r⟩ := k v _ hP vm0 k0 U _ X' hV (Nat.le_trans hk hle') hZ ho (Fr.app N N') rfl
  exact ⟨U', o, stp.trans h1, r⟩
theorem r_new {K0 : String} {index n : Nat} (C : Cx p c meth bytes maxL ret nm) (w1 : (Jvm.Cond.classLink own index K0).before a0 Z = true) (w2 : (Jvm.Cond.instantiable K0 n).before a0 Z = true) (w3 : (Jvm.Cond.initialized K0).before a0 Z = true) (hd : decode bytes pc = .ok (.new index, 3)) (hp : pc + 3 = pc') (hc : cells + 1 ≤ R.cells) (hs : slots + n ≤ R.slots)
    (k : ∀ (a : Addr) h', @Eq Nat a h.size → Keep h h' [] → Exa Z h' a K0 → (∀ {O nm d : String} {ty : FieldType}, Laid Z a0 K0 O nm d → parseFieldDescriptor d = some ty → Fld Z h' a O nm d (defaultValue ty)) → Run p l e R s m args below meth c Z own V n0 G h' (cells + 1) (slots + n) pc' ls (.ref a :: st)) : Run p l e R s m args below meth c Z own V n0 G h cells slots pc ls st := by
  subst hp
  intro vm0 k0 T L X hV hk hZ ho N eT
  have hZ' : Z.Warmed39 (s.setVm vm0).vm := hZ
  obtain ⟨T2, h2, X2, e2, E2, A2, D2, -, st2⟩ := newO X C.1 hZ' (own := own) ho w1 w2 w3 eT (g := mkF m pc ls st) rfl (hb C.2.1 hd) hc hs
  obtain ⟨U, o, h1, r⟩ := k _ h2 rfl ((Keep.refl h []).ext E2) A2 D2 vm0 k0 T2 L X2 hV (Nat.le_trans hk E2.1) hZ ho N e2
  exact ⟨U, o, st2 _ h1, r⟩
theorem r_getfield {R0 O n d : String} {host : String} {index : Nat} {a : Addr} {v : Value} (C : Cx p c meth bytes maxL ret nm) (w1 : (Jvm.Cond.fieldLink own index R0 n d).before a0 Z = true ∨ (Jvm.Cond.fieldLinkNest own index R0 n d host).before a0 Z = true) (via : Via Z R0 O n d) (hd : decode bytes pc = .ok (.getfield index, 3)) (hp : pc + 3 = pc') (F : Fld Z h a O n d v)
    (k : Run p l e R s m args below meth c Z own V n0 G h cells slots pc' ls (v :: st)) : Run p l e R s m args below meth c Z own V n0 G h cells slots pc ls (.ref a :: st) := by
  subst hp
  intro vm0 k0 T L X hV hk hZ ho N eT
  have hZ' : Z.Warmed39 (s.setVm vm0).vm := hZ
  obtain ⟨T2, X2, e2, st2⟩ := getF X C.1 hZ' (own := own) ho w1 via eT F (g := mkF m pc ls (.ref a :: st)) rfl rfl (hb C.2.1 hd)
  obtain ⟨U, o, h1, r⟩ := k vm0 k0 T2 L X2 hV hk hZ ho N e2
  exact ⟨U, o, st2 _ h1, r⟩
theorem r_putfield {R0 O n d K0 : String} {host : String} {index kk : Nat} {ty : FieldType} {a : Addr} {v old : Value} (C : Cx p c meth bytes maxL ret nm) (w1 : (Jvm.Cond.fieldLink own index R0 n d).before a0 Z = true ∨ (Jvm.Cond.fieldLinkNest own index R0 n d host).before a0 Z = true) (via : Via Z R0 O n d) (hL : (Jvm.Cond.lays K0 O n d).before a0 Z = true ∨ ((Jvm.Cond.laysFinal K0 O n d).before a0 Z = true ∧ own = O ∧ nm = "<init>")) (w2 : (Jvm.Cond.instantiable K0 kk).before a0 Z = true) (hty : parseFieldDescriptor d = some ty)
    (hd : decode bytes pc = .ok (.putfield index, 3)) (hp : pc + 3 = pc') (hn : narrow ty v = v) (hfi : fits ty v = true) (hge : n0 ≤ a) (F : Fld Z h a O n d old) (E : Exa Z h a K0)
    (k : ∀ h', Keep h h' [a] → Exa Z h' a K0 → Fld Z h' a O n d v → (∀ {O' n' d' : String} {w : Value} {t' : FieldType}, Laid Z a0 K0 O' n' d' → Laid Z a0 K0 O n d → n' ≠ n → parseFieldDescriptor d' = some t' → Fld Z h a O' n' d' w → Fld Z h' a O' n' d' w) → Run p l e R s m args below meth c Z own V n0 G h' cells slots pc' ls st) : Run p l e R s m args below meth c Z own V n0 G h cells slots pc ls (v :: .ref a :: st) := by
  subst hp
  intro vm0 k0 T L X hV hk hZ ho N eT
  have hZ' : Z.Warmed39 (s.setVm vm0).vm := hZ
  obtain ⟨T2, h2, X2, e2, W2, st2⟩ := putF X C.1 hZ' (own := own) ho w1 via eT F E (hL.imp id fun q => ⟨q.1, q.2.1, C.2.2.2.2.2.trans q.2.2⟩) w2 hty hn hfi (g := mkF m pc ls (v :: .ref a :: st)) rfl rfl (hb C.2.1 hd)
  obtain ⟨U, o, h1, r⟩ := k h2 (Keep.of_wr W2) (E.wr W2) (F.same W2) (fun L1 L2 hne ht F' => F'.other W2 (Or.inr (slot_ne L1 L2 hne ht hty))) vm0 k0 T2 _ X2 hV (by rw [W2.size]; exact hk) hZ ho (Fr.snoc X2 N hge) e2
  exact ⟨U, o, st2 _ h1, r⟩
theorem r_putfieldN {R0 O n d K0 : String} {index kk : Nat} {ty : FieldType} {a : Addr} {v v' old : Value} (C : Cx p c meth bytes maxL ret nm) (w1 : (Jvm.Cond.fieldLink own index R0 n d).before a0 Z = true) (via : Via Z R0 O n d) (hL : (Jvm.Cond.lays K0 O n d).before a0 Z = true ∨ ((Jvm.Cond.laysFinal K0 O n d).before a0 Z = true ∧ own = O ∧ nm = "<init>")) (w2 : (Jvm.Cond.instantiable K0 kk).before a0 Z = true) (hty : parseFieldDescriptor d = some ty)
    (hd : decode bytes pc = .ok (.putfield index, 3)) (hp : pc + 3 = pc') (hn : narrow ty v = v') (hfi : fits ty v' = true) (hge : n0 ≤ a) (F : Fld Z h a O n d old) (E : Exa Z h a K0)
    (k : ∀ h', Keep h h' [a] → Exa Z h' a K0 → Fld Z h' a O n d v' → (∀ {O' n' d' : String} {w : Value} {t' : FieldType}, Laid Z a0 K0 O' n' d' → Laid Z a0 K0 O n d → n' ≠ n → parseFieldDescriptor d' = some t' → Fld Z h a O' n' d' w → Fld Z h' a O' n' d' w) → Run p l e R s m args below meth c Z own V n0 G h' cells slots pc' ls st) : Run p l e R s m args below meth c Z own V n0 G h cells slots pc ls (v :: .ref a :: st) := by
  subst hp
  intro vm0 k0 T L X hV hk hZ ho N eT
  have hZ' : Z.Warmed39 (s.setVm vm0).vm := hZ
  obtain ⟨T2, h2, X2, e2, W2, st2⟩ := putFN X C.1 hZ' (own := own) ho w1 via eT F E (hL.imp id fun q => ⟨q.1, q.2.1, C.2.2.2.2.2.trans q.2.2⟩) w2 hty hn hfi (g := mkF m pc ls (v :: .ref a :: st)) rfl rfl (hb C.2.1 hd)
  obtain ⟨U, o, h1, r⟩ := k h2 (Keep.of_wr W2) (E.wr W2) (F.same W2) (fun L1 L2 hne ht F' => F'.other W2 (Or.inr (slot_ne L1 L2 hne ht hty))) vm0 k0 T2 _ X2 hV (by rw [W2.size]; exact hk) hZ ho (Fr.snoc X2 N hge) e2
  exact ⟨U, o, st2 _ h1, r⟩
theorem r_initO {index W : Nat} {a : Addr} (C : Cx p c meth bytes maxL ret nm) (w1 : (Jvm.Cond.methodLink own index Lib.objectInit).before a0 Z = true) (w2 : (Jvm.Cond.instanceMethod Lib.objectInit).before a0 Z = true) (w3 : (Jvm.Cond.code Lib.objectInit ⟨#[0xb1]⟩ 1 none).before a0 Z = true) (hd : decode bytes pc = .ok (.invokespecial index, 3)) (hp : pc + 3 = pc') (hsz : ls.size = maxL)
    (hf : 1 ≤ R.frames) (hW : (st.map fun v => v.category).sum ≤ W) (hl : W + 12 ≤ R.locals) (k : Run p l e R s m args below meth c Z own V n0 G h cells slots pc' ls st) : Run p l e R s m args below meth c Z own V n0 G h cells slots pc ls (.ref a :: st) := by
  subst hp
  intro vm0 k0 T L X hV hk hZ ho N eT
  have hZ' : Z.Warmed39 (s.setVm vm0).vm := hZ
  obtain ⟨T2, X2, e2, st2⟩ := initO X C.1 hZ' (own := own) ho w1 w2 w3 eT (g := mkF m pc ls (.ref a :: st)) rfl (by rw [C.2.2.1]; exact hsz) rfl (hb C.2.1 hd) hf (W := W) (by simpa using hW) hl
  obtain ⟨U, o, h1, r⟩ := k vm0 k0 T2 L X2 hV hk hZ ho N e2
  exact ⟨U, o, st2 _ h1, r⟩
theorem r_getstatic {R0 O n d host : String} {index : Nat} {v : Value} (C : Cx p c meth bytes maxL ret nm) (w1 : (Jvm.Cond.fieldLink own index R0 n d).before a0 Z = true) (via : Via Z R0 O n d) (hd : decode bytes pc = .ok (.getstatic index, 3)) (hp : pc + 3 = pc') (F : Sta Z h O n d v) (k : Run p l e R s m args below meth c Z own V n0 G h cells slots pc' ls (v :: st)) : Run p l e R s m args below meth c Z own V n0 G h cells slots pc ls st := by
  subst hp
  intro vm0 k0 T L X hV hk hZ ho N eT
  have hZ' : Z.Warmed39 (s.setVm vm0).vm := hZ
  obtain ⟨T2, X2, e2, st2⟩ := getS2 X C.1 hZ' (own := own) ho (host := "") (Or.inl w1) via eT F (g := mkF m pc ls st) rfl (hb C.2.1 hd)
  obtain ⟨U, o, h1, r⟩ := k vm0 k0 T2 L X2 hV hk hZ ho N e2
  exact ⟨U, o, st2 _ h1, r⟩
/-- the array at a: n places of kind ty, place j holds f j -/
def IA (Z : State) (h : Heap) (a : Addr) (ty : FieldType) (n : Nat) (f : Nat → Value) : Prop := ∃ cl : Cell, Arr Z h a cl ty ∧ cl.slots.size = n ∧ n < 2 ^ 31 ∧ ∀ j, j < n → cl.slots[j]? = some (f j)
theorem IA.lt {a : Addr} {ty : FieldType} {n : Nat} {f : Nat → Value} (A : IA Z h a ty n f) : a < h.size := by obtain ⟨cl, A, -⟩ := A; exact A.lt
theorem IA.keep {h' : Heap} {ws : List Addr} {a : Addr} {ty : FieldType} {n : Nat} {f : Nat → Value} (A : IA Z h a ty n f) (K : Keep h h' ws) (q : a ∉ ws) : IA Z h' a ty n f := by
  obtain ⟨cl, A, r⟩ := A
  exact ⟨cl, ⟨K.2.1 a cl A.1 q, A.2⟩, r⟩
theorem IA.congr {a : Addr} {ty : FieldType} {n : Nat} {f g : Nat → Value} (A : IA Z h a ty n f) (q : ∀ j, j < n → f j = g j) : IA Z h a ty n g := by
  obtain ⟨cl, A, r1, r2, r3⟩ := A
  exact ⟨cl, A, r1, r2, fun j hj => by rw [r3 j hj, q j hj]⟩
theorem tnn {j : Int32} {n : Nat} (h : j.toInt = (n : Int)) : ¬ j < 0 ∧ j.toNatClampNeg = n := by
  have h0 : ¬ j < 0 := nlt32.mpr (by rw [h]; show (0 : Int) ≤ _; omega)
  exact ⟨h0, by have := nat_of h0; omega⟩
theorem IA.set {h' : Heap} {a : Addr} {ty : FieldType} {n k : Nat} {f : Nat → Value} {v : Value} (A : IA Z h a ty n f) (W : Wr h h' a k v) : IA Z h' a ty n (fun j => if j = k then v else f j) := by
  obtain ⟨cl, A, r1, r2, r3⟩ := A
  refine ⟨cl.setSlot k v, A.same W, by rw [sz_set, r1], r2, fun j hj => ?_⟩
  show (cl.slots.setIfInBounds k v)[j]? = _
  rw [Array.getElem?_setIfInBounds]
  by_cases q : k = j
  · subst q; simp [r1, hj]
  · rw [if_neg q, r3 j hj]
    show some (f j) = some (if j = k then v else f j)
    rw [if_neg (fun z => q (Eq.symm z))]
theorem r_iaload {a : Addr} {n jn : Nat} {f : Nat → Int32} {j : Int32} {x : Int32} (C : Cx p c meth bytes maxL ret nm) (hd : decode bytes pc = .ok (.iaload, 1)) (hp : pc + 1 = pc') (A : IA Z h a .int n (fun i => .int (f i))) (hj : j.toInt = (jn : Int)) (hlt : jn < n) (hv : f jn = x) (k : Run p l e R s m args below meth c Z own V n0 G h cells slots pc' ls (.int x :: st)) : Run p l e R s m args below meth c Z own V n0 G h cells slots pc ls (.int j :: .ref a :: st) := by
  subst hp
  intro vm0 k0 T L X hV hk hZ ho N eT
  have hZ' : Z.Warmed39 (s.setVm vm0).vm := hZ
  obtain ⟨cl, A, r1, r2, r3⟩ := A
  obtain ⟨t1, t2⟩ := tnn hj
  obtain ⟨U, o, h1, r⟩ := k vm0 k0 T L X hV hk hZ ho N eT
  exact ⟨U, o, X.iaload C.1 (j := j) (v := .int x) (by rw [eT]; exact A.1) (State.isArrayOf_alike hZ'.alike A.2.1) A.2.2 (by rw [r1, t2]; exact fun q => q.elim t1 (Nat.not_le.mpr hlt)) (by rw [t2, r3 jn hlt, ← hv]) (g := mkF m pc ls (.int j :: .ref a :: st)) rfl rfl (hb C.2.1 hd) _ h1, r⟩
theorem r_laload {a : Addr} {n jn : Nat} {f : Nat → Int64} {j : Int32} {x : Int64} (C : Cx p c meth bytes maxL ret nm) (hd : decode bytes pc = .ok (.laload, 1)) (hp : pc + 1 = pc') (A : IA Z h a .long n (fun i => .long (f i))) (hj : j.toInt = (jn : Int)) (hlt : jn < n) (hv : f jn = x) (k : Run p l e R s m args below meth c Z own V n0 G h cells slots pc' ls (.long x :: st)) : Run p l e R s m args below meth c Z own V n0 G h cells slots pc ls (.int j :: .ref a :: st) := by
  subst hp
  intro vm0 k0 T L X hV hk hZ ho N eT
  have hZ' : Z.Warmed39 (s.setVm vm0).vm := hZ
  obtain ⟨cl, A, r1, r2, r3⟩ := A
  obtain ⟨t1, t2⟩ := tnn hj
  obtain ⟨U, o, h1, r⟩ := k vm0 k0 T L X hV hk hZ ho N eT
  exact ⟨U, o, X.laload C.1 (j := j) (v := .long x) (by rw [eT]; exact A.1) (State.isArrayOf_alike hZ'.alike A.2.1) A.2.2 (by rw [r1, t2]; exact fun q => q.elim t1 (Nat.not_le.mpr hlt)) (by rw [t2, r3 jn hlt, ← hv]) (g := mkF m pc ls (.int j :: .ref a :: st)) rfl rfl (hb C.2.1 hd) _ h1, r⟩
theorem r_caload {a : Addr} {n jn : Nat} {f : Nat → Int32} {j : Int32} {x : Int32} (C : Cx p c meth bytes maxL ret nm) (hd : decode bytes pc = .ok (.caload, 1)) (hp : pc + 1 = pc') (A : IA Z h a .char n (fun i => .int (f i))) (hj : j.toInt = (jn : Int)) (hlt : jn < n) (hv : f jn = x) (k : Run p l e R s m args below meth c Z own V n0 G h cells slots pc' ls (.int x :: st)) : Run p l e R s m args below meth c Z own V n0 G h cells slots pc ls (.int j :: .ref a :: st) := by
  subst hp
  intro vm0 k0 T L X hV hk hZ ho N eT
  have hZ' : Z.Warmed39 (s.setVm vm0).vm := hZ
  obtain ⟨cl, A, r1, r2, r3⟩ := A
  obtain ⟨t1, t2⟩ := tnn hj
  obtain ⟨U, o, h1, r⟩ := k vm0 k0 T L X hV hk hZ ho N eT
  exact ⟨U, o, X.caload C.1 (j := j) (v := .int x) (by rw [eT]; exact A.1) (State.isArrayOf_alike hZ'.alike A.2.1) A.2.2 (by rw [r1, t2]; exact fun q => q.elim t1 (Nat.not_le.mpr hlt)) (by rw [t2, r3 jn hlt, ← hv]) (g := mkF m pc ls (.int j :: .ref a :: st)) rfl rfl (hb C.2.1 hd) _ h1, r⟩
theorem r_baload {a : Addr} {n jn : Nat} {f : Nat → Int32} {j : Int32} {x : Int32} (C : Cx p c meth bytes maxL ret nm) (hd : decode bytes pc = .ok (.baload, 1)) (hp : pc + 1 = pc') (A : IA Z h a .byte n (fun i => .int (f i))) (hj : j.toInt = (jn : Int)) (hlt : jn < n) (hv : f jn = x) (k : Run p l e R s m args below meth c Z own V n0 G h cells slots pc' ls (.int x :: st)) : Run p l e R s m args below meth c Z own V n0 G h cells slots pc ls (.int j :: .ref a :: st) := by
  subst hp
  intro vm0 k0 T L X hV hk hZ ho N eT
  have hZ' : Z.Warmed39 (s.setVm vm0).vm := hZ
  obtain ⟨cl, A, r1, r2, r3⟩ := A
  obtain ⟨t1, t2⟩ := tnn hj
  obtain ⟨U, o, h1, r⟩ := k vm0 k0 T L X hV hk hZ ho N eT
  exact ⟨U, o, X.baloadBytes C.1 (j := j) (v := .int x) (by rw [eT]; exact A.1) (State.isArrayOf_alike hZ'.alike A.2.1) A.2.2 (by rw [r1, t2]; exact fun q => q.elim t1 (Nat.not_le.mpr hlt)) (by rw [t2, r3 jn hlt, ← hv]) (g := mkF m pc ls (.int j :: .ref a :: st)) rfl rfl (hb C.2.1 hd) _ h1, r⟩
theorem r_zaload {a : Addr} {n jn : Nat} {f : Nat → Int32} {j : Int32} {x : Int32} (C : Cx p c meth bytes maxL ret nm) (hd : decode bytes pc = .ok (.baload, 1)) (hp : pc + 1 = pc') (A : IA Z h a .boolean n (fun i => .int (f i))) (hj : j.toInt = (jn : Int)) (hlt : jn < n) (hv : f jn = x) (k : Run p l e R s m args below meth c Z own V n0 G h cells slots pc' ls (.int x :: st)) : Run p l e R s m args below meth c Z own V n0 G h cells slots pc ls (.int j :: .ref a :: st) := by
  subst hp
  intro vm0 k0 T L X hV hk hZ ho N eT
  have hZ' : Z.Warmed39 (s.setVm vm0).vm := hZ
  obtain ⟨cl, A, r1, r2, r3⟩ := A
  obtain ⟨t1, t2⟩ := tnn hj
  obtain ⟨U, o, h1, r⟩ := k vm0 k0 T L X hV hk hZ ho N eT
  exact ⟨U, o, X.baloadBooleans C.1 (j := j) (v := .int x) (by rw [eT]; exact A.1) (State.isArrayOf_alike hZ'.alike A.2.1) A.2.2 (by rw [r1, t2]; exact fun q => q.elim t1 (Nat.not_le.mpr hlt)) (by rw [t2, r3 jn hlt, ← hv]) (g := mkF m pc ls (.int j :: .ref a :: st)) rfl rfl (hb C.2.1 hd) _ h1, r⟩
theorem r_iastore {a : Addr} {n jn : Nat} {f : Nat → Int32} {j : Int32} {x : Int32} (C : Cx p c meth bytes maxL ret nm) (hd : decode bytes pc = .ok (.iastore, 1)) (hp : pc + 1 = pc') (A : IA Z h a .int n (fun i => .int (f i))) (hj : j.toInt = (jn : Int)) (hlt : jn < n) (hge : n0 ≤ a) (k : ∀ h', Keep h h' [a] → IA Z h' a .int n (fun i => .int (if i = jn then x else f i)) → Run p l e R s m args below meth c Z own V n0 G h' cells slots pc' ls st) : Run p l e R s m args below meth c Z own V n0 G h cells slots pc ls (.int x :: .int j :: .ref a :: st) := by
  subst hp
  intro vm0 k0 T L X hV hk hZ ho N eT
  have hZ' : Z.Warmed39 (s.setVm vm0).vm := hZ
  have A0 := A
  obtain ⟨cl, A, r1, r2, r3⟩ := A
  obtain ⟨t1, t2⟩ := tnn hj
  obtain ⟨T2, h2, X2, e2, W2, st2⟩ := stI X C.1 hZ' eT A (j := j) (x := x) (by rw [r1, t2]; exact fun q => q.elim t1 (Nat.not_le.mpr hlt)) (g := mkF m pc ls (.int x :: .int j :: .ref a :: st)) rfl rfl (hb C.2.1 hd)
  rw [t2] at W2
  obtain ⟨U, o, h1, r⟩ := k h2 (Keep.of_wr W2) ((A0.set W2).congr fun i _ => by by_cases q : i = jn <;> simp [q]) vm0 k0 T2 _ X2 hV (by rw [W2.size]; exact hk) hZ ho (Fr.snoc X2 N hge) e2
  exact ⟨U, o, st2 _ h1, r⟩
theorem r_lastore {a : Addr} {n jn : Nat} {f : Nat → Int64} {j : Int32} {x : Int64} (C : Cx p c meth bytes maxL ret nm) (hd : decode bytes pc = .ok (.lastore, 1)) (hp : pc + 1 = pc') (A : IA Z h a .long n (fun i => .long (f i))) (hj : j.toInt = (jn : Int)) (hlt : jn < n) (hge : n0 ≤ a) (k : ∀ h', Keep h h' [a] → IA Z h' a .long n (fun i => .long (if i = jn then x else f i)) → Run p l e R s m args below meth c Z own V n0 G h' cells slots pc' ls st) : Run p l e R s m args below meth c Z own V n0 G h cells slots pc ls (.long x :: .int j :: .ref a :: st) := by
  subst hp
  intro vm0 k0 T L X hV hk hZ ho N eT
  have hZ' : Z.Warmed39 (s.setVm vm0).vm := hZ
  have A0 := A
  obtain ⟨cl, A, r1, r2, r3⟩ := A
  obtain ⟨t1, t2⟩ := tnn hj
  obtain ⟨T2, h2, X2, e2, W2, st2⟩ := stJ X C.1 hZ' eT A (j := j) (x := x) (by rw [r1, t2]; exact fun q => q.elim t1 (Nat.not_le.mpr hlt)) (g := mkF m pc ls (.long x :: .int j :: .ref a :: st)) rfl rfl (hb C.2.1 hd)
  rw [t2] at W2
  obtain ⟨U, o, h1, r⟩ := k h2 (Keep.of_wr W2) ((A0.set W2).congr fun i _ => by by_cases q : i = jn <;> simp [q]) vm0 k0 T2 _ X2 hV (by rw [W2.size]; exact hk) hZ ho (Fr.snoc X2 N hge) e2
  exact ⟨U, o, st2 _ h1, r⟩
theorem r_castore {a : Addr} {n jn : Nat} {f : Nat → Int32} {j : Int32} {x : Int32} (C : Cx p c meth bytes maxL ret nm) (hd : decode bytes pc = .ok (.castore, 1)) (hp : pc + 1 = pc') (A : IA Z h a .char n (fun i => .int (f i))) (hj : j.toInt = (jn : Int)) (hlt : jn < n) (hge : n0 ≤ a) (k : ∀ h', Keep h h' [a] → IA Z h' a .char n (fun i => .int (if i = jn then (nar .char x) else f i)) → Run p l e R s m args below meth c Z own V n0 G h' cells slots pc' ls st) : Run p l e R s m args below meth c Z own V n0 G h cells slots pc ls (.int x :: .int j :: .ref a :: st) := by
  subst hp
  intro vm0 k0 T L X hV hk hZ ho N eT
  have hZ' : Z.Warmed39 (s.setVm vm0).vm := hZ
  have A0 := A
  obtain ⟨cl, A, r1, r2, r3⟩ := A
  obtain ⟨t1, t2⟩ := tnn hj
  obtain ⟨T2, h2, X2, e2, W2, st2⟩ := stC X C.1 hZ' eT A (j := j) (x := x) (by rw [r1, t2]; exact fun q => q.elim t1 (Nat.not_le.mpr hlt)) (g := mkF m pc ls (.int x :: .int j :: .ref a :: st)) rfl rfl (hb C.2.1 hd)
  rw [t2] at W2
  obtain ⟨U, o, h1, r⟩ := k h2 (Keep.of_wr W2) ((A0.set W2).congr fun i _ => by by_cases q : i = jn <;> simp [q]) vm0 k0 T2 _ X2 hV (by rw [W2.size]; exact hk) hZ ho (Fr.snoc X2 N hge) e2
  exact ⟨U, o, st2 _ h1, r⟩
theorem r_bastore {a : Addr} {n jn : Nat} {f : Nat → Int32} {j : Int32} {x : Int32} (C : Cx p c meth bytes maxL ret nm) (hd : decode bytes pc = .ok (.bastore, 1)) (hp : pc + 1 = pc') (A : IA Z h a .byte n (fun i => .int (f i))) (hj : j.toInt = (jn : Int)) (hlt : jn < n) (hge : n0 ≤ a) (k : ∀ h', Keep h h' [a] → IA Z h' a .byte n (fun i => .int (if i = jn then (nar .byte x) else f i)) → Run p l e R s m args below meth c Z own V n0 G h' cells slots pc' ls st) : Run p l e R s m args below meth c Z own V n0 G h cells slots pc ls (.int x :: .int j :: .ref a :: st) := by
  subst hp
  intro vm0 k0 T L X hV hk hZ ho N eT
  have hZ' : Z.Warmed39 (s.setVm vm0).vm := hZ
  have A0 := A
  obtain ⟨cl, A, r1, r2, r3⟩ := A
  obtain ⟨t1, t2⟩ := tnn hj
  obtain ⟨T2, h2, X2, e2, W2, st2⟩ := stB X C.1 hZ' eT A (j := j) (x := x) (by rw [r1, t2]; exact fun q => q.elim t1 (Nat.not_le.mpr hlt)) (g := mkF m pc ls (.int x :: .int j :: .ref a :: st)) rfl rfl (hb C.2.1 hd)
  rw [t2] at W2
  obtain ⟨U, o, h1, r⟩ := k h2 (Keep.of_wr W2) ((A0.set W2).congr fun i _ => by by_cases q : i = jn <;> simp [q]) vm0 k0 T2 _ X2 hV (by rw [W2.size]; exact hk) hZ ho (Fr.snoc X2 N hge) e2
  exact ⟨U, o, st2 _ h1, r⟩
theorem r_zastore {a : Addr} {n jn : Nat} {f : Nat → Int32} {j : Int32} {x : Int32} (C : Cx p c meth bytes maxL ret nm) (hd : decode bytes pc = .ok (.bastore, 1)) (hp : pc + 1 = pc') (A : IA Z h a .boolean n (fun i => .int (f i))) (hj : j.toInt = (jn : Int)) (hlt : jn < n) (hge : n0 ≤ a) (k : ∀ h', Keep h h' [a] → IA Z h' a .boolean n (fun i => .int (if i = jn then (nar .boolean x) else f i)) → Run p l e R s m args below meth c Z own V n0 G h' cells slots pc' ls st) : Run p l e R s m args below meth c Z own V n0 G h cells slots pc ls (.int x :: .int j :: .ref a :: st) := by
  subst hp
  intro vm0 k0 T L X hV hk hZ ho N eT
  have hZ' : Z.Warmed39 (s.setVm vm0).vm := hZ
  have A0 := A
  obtain ⟨cl, A, r1, r2, r3⟩ := A
  obtain ⟨t1, t2⟩ := tnn hj
  obtain ⟨T2, h2, X2, e2, W2, st2⟩ := stZ X C.1 hZ' eT A (j := j) (x := x) (by rw [r1, t2]; exact fun q => q.elim t1 (Nat.not_le.mpr hlt)) (g := mkF m pc ls (.int x :: .int j :: .ref a :: st)) rfl rfl (hb C.2.1 hd)
  rw [t2] at W2
  obtain ⟨U, o, h1, r⟩ := k h2 (Keep.of_wr W2) ((A0.set W2).congr fun i _ => by by_cases q : i = jn <;> simp [q]) vm0 k0 T2 _ X2 hV (by rw [W2.size]; exact hk) hZ ho (Fr.snoc X2 N hge) e2
  exact ⟨U, o, st2 _ h1, r⟩
theorem r_arraylength {a : Addr} {ty : FieldType} {n : Nat} {f : Nat → Value} {z : Int32} (C : Cx p c meth bytes maxL ret nm) (hd : decode bytes pc = .ok (.arraylength, 1)) (hp : pc + 1 = pc') (A : IA Z h a ty n f) (hz : z.toInt = (n : Int)) (k : Run p l e R s m args below meth c Z own V n0 G h cells slots pc' ls (.int z :: st)) : Run p l e R s m args below meth c Z own V n0 G h cells slots pc ls (.ref a :: st) := by
  subst hp
  intro vm0 k0 T L X hV hk hZ ho N eT
  have hZ' : Z.Warmed39 (s.setVm vm0).vm := hZ
  obtain ⟨cl, A, r1, r2, r3⟩ := A
  obtain ⟨t1, t2⟩ := tnn hz
  obtain ⟨U, o, h1, r⟩ := k vm0 k0 T L X hV hk hZ ho N eT
  have q : cl.slots.size.toInt32 = z := len_of (by rw [r1, t2]) t1
  exact ⟨U, o, X.arraylength C.1 (by rw [eT]; exact A.1) (State.isArrayOf_alike hZ'.alike A.2.1) (g := mkF m pc ls (.ref a :: st)) rfl rfl (hb C.2.1 hd) _ (by rw [q]; exact h1), r⟩
theorem r_newarray {aty : ArrayType} {ty : FieldType} {dv : Value} (hdv : defaultValue ty = dv) {z : Int32} {n cap : Nat} (C : Cx p c meth bytes maxL ret nm) (w1 : (Jvm.Cond.arrayClass ty).before a0 Z = true) (hty : newarray.typeOf aty = ty) (hd : decode bytes pc = .ok (.newarray aty, 2)) (hp : pc + 2 = pc') (hz : z.toInt = (n : Int)) (hcap : n ≤ cap) (hbg : cap * 8 ≤ 536870912) (hc : cells + 1 ≤ R.cells) (hs : slots + cap ≤ R.slots)
    (k : ∀ (a : Addr) h', @Eq Nat a h.size → Keep h h' [] → IA Z h' a ty n (fun _ => dv) → Run p l e R s m args below meth c Z own V n0 G h' (cells + 1) (slots + cap) pc' ls (.ref a :: st)) : Run p l e R s m args below meth c Z own V n0 G h cells slots pc ls (.int z :: st) := by
  subst hp hty hdv
  intro vm0 k0 T L X hV hk hZ ho N eT
  have hZ' : Z.Warmed39 (s.setVm vm0).vm := hZ
  obtain ⟨t1, t2⟩ := tnn hz
  obtain ⟨T2, h2, k2, X2, e2, E2, A2, st2⟩ := newP X C.1 hZ' w1 eT (g := mkF m pc ls (.int z :: st)) rfl (hb C.2.1 hd) rfl t1 (cap := cap) (by rw [t2]; exact hcap) hbg hc hs
  obtain ⟨U, o, h1, r⟩ := k _ h2 rfl ((Keep.refl h []).ext E2) ⟨_, A2, by rw [sz_new, t2], by have := rng32 z; omega, fun j hj => by simp [newA, t2, hj]⟩ vm0 k0 T2 L X2 hV (Nat.le_trans hk E2.1) hZ ho N e2
  exact ⟨U, o, st2 _ h1, r⟩
theorem Run.mono {ce sl : Nat} (k : Run p l e R s m args below meth c Z own V n0 G h ce sl pc ls st) (h1 : cells ≤ ce) (h2 : slots ≤ sl) : Run p l e R s m args below meth c Z own V n0 G h cells slots pc ls st :=
  fun vm0 k0 T L X => k vm0 k0 T L (X.mono h1 h2)
/-- where roads join: the goal from the join on, said once -/
theorem join {α : Type} (Φ : α → Prop) (hJ : α → Heap) (ce sl pcJ : Nat) (lsJ : α → Array Slot) (stJ : α → List Value) (j : ∀ x, Φ x → Run p l e R s m args below meth c Z own V n0 G (hJ x) ce sl pcJ (lsJ x) (stJ x)) (k : (∀ x, Φ x → Run p l e R s m args below meth c Z own V n0 G (hJ x) ce sl pcJ (lsJ x) (stJ x)) → Run p l e R s m args below meth c Z own V n0 G h cells slots pc ls st) : Run p l e R s m args below meth c Z own V n0 G h cells slots pc ls st := k j
/-- a loop: by a measure -/
theorem loop {α : Type} (μ : α → Nat) (Φ : α → Prop) (hJ : α → Heap) (ce sl pcJ : Nat) (lsJ : α → Array Slot) (stJ : α → List Value)
    (body : ∀ x, Φ x → (∀ x', Φ x' → μ x' < μ x → Run p l e R s m args below meth c Z own V n0 G (hJ x') ce sl pcJ (lsJ x') (stJ x')) → Run p l e R s m args below meth c Z own V n0 G (hJ x) ce sl pcJ (lsJ x) (stJ x)) (k : (∀ x, Φ x → Run p l e R s m args below meth c Z own V n0 G (hJ x) ce sl pcJ (lsJ x) (stJ x)) → Run p l e R s m args below meth c Z own V n0 G h cells slots pc ls st) : Run p l e R s m args below meth c Z own V n0 G h cells slots pc ls st := by
  refine k ?_
  have H : ∀ n x, μ x < n → Φ x → Run p l e R s m args below meth c Z own V n0 G (hJ x) ce sl pcJ (lsJ x) (stJ x) := by
    intro n
    induction n with
    | zero => intro x hx; omega
    | succ n ih => intro x hx hp; exact body x hp fun x' hp' hlt => ih x' (by omega) hp'
  exact fun x hp => H _ x (Nat.lt_succ_self _) hp
theorem xadd64 {x y : Int64} (h1 : -4611686018427387904 ≤ x.toInt + y.toInt) (h2 : x.toInt + y.toInt ≤ 4611686018427387904) : (x + y).toInt = x.toInt + y.toInt := by
  have h3 := c_ladd x y
  have h4 := rng64 (x + y)
  omega
theorem xsub64 {x y : Int64} (h1 : -4611686018427387904 ≤ x.toInt - y.toInt) (h2 : x.toInt - y.toInt ≤ 4611686018427387904) : (x - y).toInt = x.toInt - y.toInt := by
  have h3 := c_lsub x y
  have h4 := rng64 (x - y)
  omega
theorem xmul64 {x c : Int64} {k : Int} (hc : c.toInt = k) (h1 : -4611686018427387904 ≤ x.toInt * k) (h2 : x.toInt * k ≤ 4611686018427387904) : (x * c).toInt = x.toInt * k := by
  have h3 := c_lmul x c
  rw [hc] at h3
  have h4 := rng64 (x * c)
  generalize x.toInt * k = P at *
  omega
theorem xadd32 {x y : Int32} (h1 : -2147483648 ≤ x.toInt + y.toInt) (h2 : x.toInt + y.toInt < 2147483648) : (x + y).toInt = x.toInt + y.toInt := by
  have h3 := c_iadd x y
  have h4 := rng32 (x + y)
  omega
theorem xsub32 {x y : Int32} (h1 : -2147483648 ≤ x.toInt - y.toInt) (h2 : x.toInt - y.toInt < 2147483648) : (x - y).toInt = x.toInt - y.toInt := by
  have h3 := c_isub x y
  have h4 := rng32 (x - y)
  omega
theorem xl2i {x : Int64} (h1 : -2147483648 ≤ x.toInt) (h2 : x.toInt < 2147483648) : x.toInt32.toInt = x.toInt := by
  have h3 := c_l2i x
  have h4 := rng32 x.toInt32
  omega
end Kit
section Facts
theorem t0 {Z : State} {a0 : Array Value} (hw : ∀ d ∈ tables_1, d.before a0 Z = true) : (Jvm.Cond.constant "com/example/bellsplit/bellsplit/search/ImprovedDynamicProgrammeBestStandsForPinLaw" (7 : Nat) (2147483647 : Int32)).before a0 Z = true := hw _ (List.mem_of_getElem? (i := 0) rfl)
theorem t1 {Z : State} {a0 : Array Value} (hw : ∀ d ∈ tables_1, d.before a0 Z = true) : (Jvm.Cond.arrayClass Jvm.ClassFile.FieldType.int).before a0 Z = true := hw _ (List.mem_of_getElem? (i := 1) rfl)
theorem t2 {Z : State} {a0 : Array Value} (hw : ∀ d ∈ tables_1, d.before a0 Z = true) : (Jvm.Cond.methodLink "com/example/bellsplit/bellsplit/search/ImprovedDynamicProgrammeBestStandsForPinLaw" (8 : Nat) ({ cls := "com/example/bellsplit/bellsplit/search/ImprovedDynamicProgramme", name := "bestStandsFor", desc := "(II[I)Z" } : Jvm.MethodName)).before a0 Z = true := hw _ (List.mem_of_getElem? (i := 2) rfl)
theorem t3 {Z : State} {a0 : Array Value} (hw : ∀ d ∈ tables_1, d.before a0 Z = true) : (Jvm.Cond.static ({ cls := "com/example/bellsplit/bellsplit/search/ImprovedDynamicProgramme", name := "bestStandsFor", desc := "(II[I)Z" } : Jvm.MethodName)).before a0 Z = true := hw _ (List.mem_of_getElem? (i := 3) rfl)
theorem t4 {Z : State} {a0 : Array Value} (hw : ∀ d ∈ tables_1, d.before a0 Z = true) : (Jvm.Cond.initialized "com/example/bellsplit/bellsplit/search/ImprovedDynamicProgramme").before a0 Z = true := hw _ (List.mem_of_getElem? (i := 4) rfl)
theorem t5 {Z : State} {a0 : Array Value} (hw : ∀ d ∈ tables_1, d.before a0 Z = true) : (Jvm.Cond.code ({ cls := "com/example/bellsplit/bellsplit/search/ImprovedDynamicProgramme", name := "bestStandsFor", desc := "(II[I)Z" } : Jvm.MethodName) prog_74_method_12_code (9 : Nat) (Option.some Jvm.ClassFile.FieldType.boolean)).before a0 Z = true := hw _ (List.mem_of_getElem? (i := 5) rfl)
theorem t6 {Z : State} {a0 : Array Value} (hw : ∀ d ∈ tables_1, d.before a0 Z = true) : (Jvm.Cond.methodLink "com/example/bellsplit/bellsplit/search/ImprovedDynamicProgramme" (112 : Nat) ({ cls := "com/example/bellsplit/bellsplit/search/ImprovedDynamicProgramme", name := "exactUpTo", desc := "(I)I" } : Jvm.MethodName)).before a0 Z = true := hw _ (List.mem_of_getElem? (i := 6) rfl)
theorem t7 {Z : State} {a0 : Array Value} (hw : ∀ d ∈ tables_1, d.before a0 Z = true) : (Jvm.Cond.static ({ cls := "com/example/bellsplit/bellsplit/search/ImprovedDynamicProgramme", name := "exactUpTo", desc := "(I)I" } : Jvm.MethodName)).before a0 Z = true := hw _ (List.mem_of_getElem? (i := 7) rfl)
theorem t8 {Z : State} {a0 : Array Value} (hw : ∀ d ∈ tables_1, d.before a0 Z = true) : (Jvm.Cond.code ({ cls := "com/example/bellsplit/bellsplit/search/ImprovedDynamicProgramme", name := "exactUpTo", desc := "(I)I" } : Jvm.MethodName) prog_74_method_5_code (1 : Nat) (Option.some Jvm.ClassFile.FieldType.int)).before a0 Z = true := hw _ (List.mem_of_getElem? (i := 8) rfl)
theorem t9 {Z : State} {a0 : Array Value} (hw : ∀ d ∈ tables_1, d.before a0 Z = true) : (Jvm.Cond.methodLink "com/example/bellsplit/bellsplit/search/ImprovedDynamicProgrammeBestStandsForPinLaw" (14 : Nat) ({ cls := "com/example/bellsplit/bellsplit/search/ImprovedDynamicProgrammeBestStandsForPinLaw", name := "fits", desc := "(III)Z" } : Jvm.MethodName)).before a0 Z = true := hw _ (List.mem_of_getElem? (i := 9) rfl)
theorem t10 {Z : State} {a0 : Array Value} (hw : ∀ d ∈ tables_1, d.before a0 Z = true) : (Jvm.Cond.static ({ cls := "com/example/bellsplit/bellsplit/search/ImprovedDynamicProgrammeBestStandsForPinLaw", name := "fits", desc := "(III)Z" } : Jvm.MethodName)).before a0 Z = true := hw _ (List.mem_of_getElem? (i := 10) rfl)
theorem t11 {Z : State} {a0 : Array Value} (hw : ∀ d ∈ tables_1, d.before a0 Z = true) : (Jvm.Cond.initialized "com/example/bellsplit/bellsplit/search/ImprovedDynamicProgrammeBestStandsForPinLaw").before a0 Z = true := hw _ (List.mem_of_getElem? (i := 11) rfl)
theorem t12 {Z : State} {a0 : Array Value} (hw : ∀ d ∈ tables_1, d.before a0 Z = true) : (Jvm.Cond.code ({ cls := "com/example/bellsplit/bellsplit/search/ImprovedDynamicProgrammeBestStandsForPinLaw", name := "fits", desc := "(III)Z" } : Jvm.MethodName) method_3_code (3 : Nat) (Option.some Jvm.ClassFile.FieldType.boolean)).before a0 Z = true := hw _ (List.mem_of_getElem? (i := 12) rfl)
theorem d1_0 : decode prog_74_method_5_code 0 = .ok (.iload_n 0, 1) := by decide +kernel
theorem d1_1 : decode prog_74_method_5_code 1 = .ok (.iconst 1, 1) := by decide +kernel
theorem d1_2 : decode prog_74_method_5_code 2 = .ok (.iadd, 1) := by decide +kernel
theorem d1_3 : decode prog_74_method_5_code 3 = .ok (.iconst 2, 1) := by decide +kernel
theorem d1_4 : decode prog_74_method_5_code 4 = .ok (.idiv, 1) := by decide +kernel
theorem d1_5 : decode prog_74_method_5_code 5 = .ok (.ireturn, 1) := by decide +kernel
theorem d2_0 : decode method_3_code 0 = .ok (.iload_n 0, 1) := by decide +kernel
theorem d2_1 : decode method_3_code 1 = .ok (.iload_n 2, 1) := by decide +kernel
theorem d2_2 : decode method_3_code 2 = .ok (.iload_n 1, 1) := by decide +kernel
theorem d2_3 : decode method_3_code 3 = .ok (.isub, 1) := by decide +kernel
theorem d2_4 : decode method_3_code 4 = .ok (.if_icmp .gt 16, 3) := by decide +kernel
theorem d2_20 : decode method_3_code 20 = .ok (.iconst 0, 1) := by decide +kernel
theorem d2_21 : decode method_3_code 21 = .ok (.ireturn, 1) := by decide +kernel
theorem d2_7 : decode method_3_code 7 = .ok (.iload_n 1, 1) := by decide +kernel
theorem d2_8 : decode method_3_code 8 = .ok (.iload_n 0, 1) := by decide +kernel
theorem d2_9 : decode method_3_code 9 = .ok (.isub, 1) := by decide +kernel
theorem d2_10 : decode method_3_code 10 = .ok (.iload_n 2, 1) := by decide +kernel
theorem d2_11 : decode method_3_code 11 = .ok (.iload_n 1, 1) := by decide +kernel
theorem d2_12 : decode method_3_code 12 = .ok (.isub, 1) := by decide +kernel
theorem d2_13 : decode method_3_code 13 = .ok (.if_icmp .gt 7, 3) := by decide +kernel
theorem d2_16 : decode method_3_code 16 = .ok (.iconst 1, 1) := by decide +kernel
theorem d2_17 : decode method_3_code 17 = .ok (.goto 4, 3) := by decide +kernel
theorem d3_0 : decode prog_74_method_12_code 0 = .ok (.aload_n 2, 1) := by decide +kernel
theorem d3_1 : decode prog_74_method_12_code 1 = .ok (.arraylength, 1) := by decide +kernel
theorem d3_2 : decode prog_74_method_12_code 2 = .ok (.iconst 1, 1) := by decide +kernel
theorem d3_3 : decode prog_74_method_12_code 3 = .ok (.if_icmp .eq 11, 3) := by decide +kernel
theorem d3_14 : decode prog_74_method_12_code 14 = .ok (.iconst 1, 1) := by decide +kernel
theorem d3_15 : decode prog_74_method_12_code 15 = .ok (.ireturn, 1) := by decide +kernel
theorem d3_6 : decode prog_74_method_12_code 6 = .ok (.iload_n 1, 1) := by decide +kernel
theorem d3_7 : decode prog_74_method_12_code 7 = .ok (.iload_n 0, 1) := by decide +kernel
theorem d3_8 : decode prog_74_method_12_code 8 = .ok (.invokestatic 112, 3) := by decide +kernel
theorem d3_11 : decode prog_74_method_12_code 11 = .ok (.if_icmp .gt 5, 3) := by decide +kernel
theorem d3_16 : decode prog_74_method_12_code 16 = .ok (.lconst 1, 1) := by decide +kernel
theorem d3_17 : decode prog_74_method_12_code 17 = .ok (.lstore_n 3, 1) := by decide +kernel
theorem d3_18 : decode prog_74_method_12_code 18 = .ok (.aload_n 2, 1) := by decide +kernel
theorem d3_19 : decode prog_74_method_12_code 19 = .ok (.astore 5, 2) := by decide +kernel
theorem d3_21 : decode prog_74_method_12_code 21 = .ok (.aload 5, 2) := by decide +kernel
theorem d3_23 : decode prog_74_method_12_code 23 = .ok (.arraylength, 1) := by decide +kernel
theorem d3_24 : decode prog_74_method_12_code 24 = .ok (.istore 6, 2) := by decide +kernel
theorem d3_26 : decode prog_74_method_12_code 26 = .ok (.iconst 0, 1) := by decide +kernel
theorem d3_27 : decode prog_74_method_12_code 27 = .ok (.istore 7, 2) := by decide +kernel
theorem d3_29 : decode prog_74_method_12_code 29 = .ok (.iload 7, 2) := by decide +kernel
theorem d3_31 : decode prog_74_method_12_code 31 = .ok (.iload 6, 2) := by decide +kernel
theorem d3_33 : decode prog_74_method_12_code 33 = .ok (.if_icmp .ge 23, 3) := by decide +kernel
theorem d3_36 : decode prog_74_method_12_code 36 = .ok (.aload 5, 2) := by decide +kernel
theorem d3_38 : decode prog_74_method_12_code 38 = .ok (.iload 7, 2) := by decide +kernel
theorem d3_40 : decode prog_74_method_12_code 40 = .ok (.iaload, 1) := by decide +kernel
theorem d3_41 : decode prog_74_method_12_code 41 = .ok (.istore 8, 2) := by decide +kernel
theorem d3_43 : decode prog_74_method_12_code 43 = .ok (.lload_n 3, 1) := by decide +kernel
theorem d3_44 : decode prog_74_method_12_code 44 = .ok (.lload_n 3, 1) := by decide +kernel
theorem d3_45 : decode prog_74_method_12_code 45 = .ok (.iload 8, 2) := by decide +kernel
theorem d3_47 : decode prog_74_method_12_code 47 = .ok (.lshl, 1) := by decide +kernel
theorem d3_48 : decode prog_74_method_12_code 48 = .ok (.lor, 1) := by decide +kernel
theorem d3_49 : decode prog_74_method_12_code 49 = .ok (.lstore_n 3, 1) := by decide +kernel
theorem d3_50 : decode prog_74_method_12_code 50 = .ok (.iinc 7 1, 3) := by decide +kernel
theorem d3_53 : decode prog_74_method_12_code 53 = .ok (.goto (-24), 3) := by decide +kernel
theorem d3_56 : decode prog_74_method_12_code 56 = .ok (.iconst 2, 1) := by decide +kernel
theorem d3_57 : decode prog_74_method_12_code 57 = .ok (.iload_n 1, 1) := by decide +kernel
theorem d3_58 : decode prog_74_method_12_code 58 = .ok (.imul, 1) := by decide +kernel
theorem d3_59 : decode prog_74_method_12_code 59 = .ok (.iload_n 0, 1) := by decide +kernel
theorem d3_60 : decode prog_74_method_12_code 60 = .ok (.isub, 1) := by decide +kernel
theorem d3_61 : decode prog_74_method_12_code 61 = .ok (.istore 5, 2) := by decide +kernel
theorem d3_63 : decode prog_74_method_12_code 63 = .ok (.iload_n 0, 1) := by decide +kernel
theorem d3_64 : decode prog_74_method_12_code 64 = .ok (.iload_n 1, 1) := by decide +kernel
theorem d3_65 : decode prog_74_method_12_code 65 = .ok (.isub, 1) := by decide +kernel
theorem d3_66 : decode prog_74_method_12_code 66 = .ok (.istore 6, 2) := by decide +kernel
theorem d3_68 : decode prog_74_method_12_code 68 = .ok (.iload 6, 2) := by decide +kernel
theorem d3_70 : decode prog_74_method_12_code 70 = .ok (.iload 5, 2) := by decide +kernel
theorem d3_72 : decode prog_74_method_12_code 72 = .ok (.if_icmp .lt 28, 3) := by decide +kernel
theorem d3_100 : decode prog_74_method_12_code 100 = .ok (.iconst 0, 1) := by decide +kernel
theorem d3_101 : decode prog_74_method_12_code 101 = .ok (.ireturn, 1) := by decide +kernel
theorem d3_75 : decode prog_74_method_12_code 75 = .ok (.lload_n 3, 1) := by decide +kernel
theorem d3_76 : decode prog_74_method_12_code 76 = .ok (.iload 5, 2) := by decide +kernel
theorem d3_78 : decode prog_74_method_12_code 78 = .ok (.lushr, 1) := by decide +kernel
theorem d3_79 : decode prog_74_method_12_code 79 = .ok (.lconst 1, 1) := by decide +kernel
theorem d3_80 : decode prog_74_method_12_code 80 = .ok (.iload 6, 2) := by decide +kernel
theorem d3_82 : decode prog_74_method_12_code 82 = .ok (.iload 5, 2) := by decide +kernel
theorem d3_84 : decode prog_74_method_12_code 84 = .ok (.isub, 1) := by decide +kernel
theorem d3_85 : decode prog_74_method_12_code 85 = .ok (.iconst 1, 1) := by decide +kernel
theorem d3_86 : decode prog_74_method_12_code 86 = .ok (.iadd, 1) := by decide +kernel
theorem d3_87 : decode prog_74_method_12_code 87 = .ok (.lshl, 1) := by decide +kernel
theorem d3_88 : decode prog_74_method_12_code 88 = .ok (.lconst 1, 1) := by decide +kernel
theorem d3_89 : decode prog_74_method_12_code 89 = .ok (.lsub, 1) := by decide +kernel
theorem d3_90 : decode prog_74_method_12_code 90 = .ok (.land, 1) := by decide +kernel
theorem d3_91 : decode prog_74_method_12_code 91 = .ok (.lconst 0, 1) := by decide +kernel
theorem d3_92 : decode prog_74_method_12_code 92 = .ok (.lcmp, 1) := by decide +kernel
theorem d3_93 : decode prog_74_method_12_code 93 = .ok (.ifCond .eq 7, 3) := by decide +kernel
theorem d3_96 : decode prog_74_method_12_code 96 = .ok (.iconst 1, 1) := by decide +kernel
theorem d3_97 : decode prog_74_method_12_code 97 = .ok (.goto 4, 3) := by decide +kernel
theorem pd0 : parseMethodDescriptor "(I)I" = some ⟨[.int], some .int⟩ := by decide +kernel
theorem pd1 : parseMethodDescriptor "(II[I)Z" = some ⟨[.int, .int, (.array .int)], some .boolean⟩ := by decide +kernel
theorem pd2 : parseMethodDescriptor "(III)Z" = some ⟨[.int, .int, .int], some .boolean⟩ := by decide +kernel
theorem pn0 : plainName "com/example/bellsplit/bellsplit/search/ImprovedDynamicProgramme" = true := by first | (simp [plainName, overriddenIn]; done) | decide +kernel
theorem pn1 : plainName "com/example/bellsplit/bellsplit/search/ImprovedDynamicProgrammeBestStandsForPinLaw" = true := by first | (simp [plainName, overriddenIn]; done) | decide +kernel
end Facts

theorem own_ofInt {m : Int32} {k : Int} (h : m.toInt = k) : m = Int32.ofInt k := by rw [← h, Int32.ofInt_toInt]
theorem own_i64 (n : Int64) : Int64.ofInt n.toInt = n := Int64.ofInt_toInt n
theorem own_and63 {y : Int32} {b : Nat} (h : y.toInt % 64 = (b : Int)) : y.toInt64 &&& 63 = Int64.ofNat b ∧ b < 64 := by
  have h1 := c_maskL y.toInt64 63 6 (by decide) (by decide)
  have h6 : ((2 ^ 6 : Nat) : Int) = 64 := by decide
  rw [h6, c_i2l, h] at h1
  have hb : b < 64 := by omega
  refine ⟨?_, hb⟩
  rw [← own_i64 (y.toInt64 &&& 63), h1]
  rfl

theorem own_shl {x : Int64} {y : Int32} {b : Nat} (h : y.toInt % 64 = (b : Int)) : (x <<< (y.toInt64 &&& 63)).toBitVec = x.toBitVec <<< b := by
  obtain ⟨h1, h2⟩ := own_and63 h
  rw [h1, Int64.toBitVec_shiftLeft]
  show x.toBitVec <<< ((BitVec.ofNat 64 b).smod 64).toNat = _
  rw [smod64 b h2]
theorem own_shr {x : Int64} {y : Int32} {b : Nat} (h : y.toInt % 64 = (b : Int)) : (XT.ushrL x y).toBitVec = x.toBitVec >>> b := by
  obtain ⟨h1, h2⟩ := own_and63 h
  have h3 : y.toInt64.toUInt64 &&& Int64.toUInt64 63 = UInt64.ofNat b := by
    have : (y.toInt64 &&& 63).toUInt64 = UInt64.ofNat b := by rw [h1]; rfl
    exact this
  unfold XT.ushrL
  rw [h3]
  have h4 : (UInt64.ofNat b % 64).toBitVec.toNat = b := by
    show (BitVec.ofNat 64 b % 64#64).toNat = b
    rw [BitVec.toNat_umod, BitVec.toNat_ofNat]
    show b % 2 ^ 64 % 64 = b
    omega
  show x.toBitVec >>> (UInt64.ofNat b % 64).toBitVec.toNat = _
  rw [h4]
def own_sub (v : Nat → Nat) : Nat → Nat → Bool
  | 0, t => decide (t = 0)
  | i + 1, t => own_sub v i t || (decide (v i ≤ t) && own_sub v i (t - v i))
theorem own_keep {v : Nat → Nat} {i t : Nat} (h : own_sub v i t = true) : own_sub v (i + 1) t = true := by
  show (own_sub v i t || (decide (v i ≤ t) && own_sub v i (t - v i))) = true
  rw [h]; rfl
theorem own_add {v : Nat → Nat} {i t : Nat} (h : own_sub v i t = true) : own_sub v (i + 1) (t + v i) = true := by
  show (own_sub v i (t + v i) || (decide (v i ≤ t + v i) && own_sub v i (t + v i - v i))) = true
  rw [Nat.add_sub_cancel, h, decide_eq_true (Nat.le_add_left _ _)]
  simp
theorem own_zero {v : Nat → Nat} {i t : Nat} (h : v i = 0) : own_sub v (i + 1) t = own_sub v i t := by
  show (own_sub v i t || (decide (v i ≤ t) && own_sub v i (t - v i))) = own_sub v i t
  rw [h, Nat.sub_zero, decide_eq_true (Nat.zero_le _), Bool.true_and, Bool.or_self]
theorem own_or {v : Nat → Nat} {i t : Nat} (h : own_sub v (i + 1) t = true) : own_sub v i t = true ∨ (v i ≤ t ∧ own_sub v i (t - v i) = true) := by
  have h' : (own_sub v i t || (decide (v i ≤ t) && own_sub v i (t - v i))) = true := h
  rw [Bool.or_eq_true, Bool.and_eq_true] at h'
  exact h'.imp id fun q => ⟨of_decide_eq_true q.1, q.2⟩
def own_v (p1 p2 p3 p4 : Nat) (i : Nat) : Nat := if i = 0 then p1 else if i = 1 then p2 else if i = 2 then p3 else p4
theorem own_nil {v : Nat → Nat} {t : Nat} (h : own_sub v 0 t = true) : t = 0 := of_decide_eq_true h
set_option maxHeartbeats 4000000 in
theorem own_le16 {p1 p2 p3 p4 t : Nat} (h : own_sub (own_v p1 p2 p3 p4) 4 t = true) : t = 0 ∨ t = p1 ∨ t = p2 ∨ t = p1 + p2 ∨ t = p3 ∨ t = p1 + p3 ∨ t = p2 + p3 ∨ t = p1 + p2 + p3 ∨ t = p4 ∨ t = p1 + p4 ∨ t = p2 + p4 ∨ t = p1 + p2 + p4 ∨ t = p3 + p4 ∨ t = p1 + p3 + p4 ∨ t = p2 + p3 + p4 ∨ t = p1 + p2 + p3 + p4 := by
  rcases own_or h with h | ⟨hl4, h⟩
  · skip
    rcases own_or h with h | ⟨hl3, h⟩
    · skip
      rcases own_or h with h | ⟨hl2, h⟩
      · skip
        rcases own_or h with h | ⟨hl1, h⟩
        · skip
          have hz := own_nil h
          exact Or.inl (by omega)
        · change p1 ≤ _ at hl1
          change own_sub _ _ (_ - p1) = true at h
          have hz := own_nil h
          exact Or.inr (Or.inl (by omega))
      · change p2 ≤ _ at hl2
        change own_sub _ _ (_ - p2) = true at h
        rcases own_or h with h | ⟨hl1, h⟩
        · skip
          have hz := own_nil h
          exact Or.inr (Or.inr (Or.inl (by omega)))
        · change p1 ≤ _ at hl1
          change own_sub _ _ (_ - p1) = true at h
          have hz := own_nil h
          exact Or.inr (Or.inr (Or.inr (Or.inl (by omega))))
    · change p3 ≤ _ at hl3
      change own_sub _ _ (_ - p3) = true at h
      rcases own_or h with h | ⟨hl2, h⟩
      · skip
        rcases own_or h with h | ⟨hl1, h⟩
        · skip
          have hz := own_nil h
          exact Or.inr (Or.inr (Or.inr (Or.inr (Or.inl (by omega)))))
        · change p1 ≤ _ at hl1
          change own_sub _ _ (_ - p1) = true at h
          have hz := own_nil h
          exact Or.inr (Or.inr (Or.inr (Or.inr (Or.inr (Or.inl (by omega))))))
      · change p2 ≤ _ at hl2
        change own_sub _ _ (_ - p2) = true at h
        rcases own_or h with h | ⟨hl1, h⟩
        · skip
          have hz := own_nil h
          exact Or.inr (Or.inr (Or.inr (Or.inr (Or.inr (Or.inr (Or.inl (by omega)))))))
        · change p1 ≤ _ at hl1
          change own_sub _ _ (_ - p1) = true at h
          have hz := own_nil h
          exact Or.inr (Or.inr (Or.inr (Or.inr (Or.inr (Or.inr (Or.inr (Or.inl (by omega))))))))
  · change p4 ≤ _ at hl4
    change own_sub _ _ (_ - p4) = true at h
    rcases own_or h with h | ⟨hl3, h⟩
    · skip
      rcases own_or h with h | ⟨hl2, h⟩
      · skip
        rcases own_or h with h | ⟨hl1, h⟩
        · skip
          have hz := own_nil h
          exact Or.inr (Or.inr (Or.inr (Or.inr (Or.inr (Or.inr (Or.inr (Or.inr (Or.inl (by omega)))))))))
        · change p1 ≤ _ at hl1
          change own_sub _ _ (_ - p1) = true at h
          have hz := own_nil h
          exact Or.inr (Or.inr (Or.inr (Or.inr (Or.inr (Or.inr (Or.inr (Or.inr (Or.inr (Or.inl (by omega))))))))))
      · change p2 ≤ _ at hl2
        change own_sub _ _ (_ - p2) = true at h
        rcases own_or h with h | ⟨hl1, h⟩
        · skip
          have hz := own_nil h
          exact Or.inr (Or.inr (Or.inr (Or.inr (Or.inr (Or.inr (Or.inr (Or.inr (Or.inr (Or.inr (Or.inl (by omega)))))))))))
        · change p1 ≤ _ at hl1
          change own_sub _ _ (_ - p1) = true at h
          have hz := own_nil h
          exact Or.inr (Or.inr (Or.inr (Or.inr (Or.inr (Or.inr (Or.inr (Or.inr (Or.inr (Or.inr (Or.inr (Or.inl (by omega))))))))))))
    · change p3 ≤ _ at hl3
      change own_sub _ _ (_ - p3) = true at h
      rcases own_or h with h | ⟨hl2, h⟩
      · skip
        rcases own_or h with h | ⟨hl1, h⟩
        · skip
          have hz := own_nil h
          exact Or.inr (Or.inr (Or.inr (Or.inr (Or.inr (Or.inr (Or.inr (Or.inr (Or.inr (Or.inr (Or.inr (Or.inr (Or.inl (by omega)))))))))))))
        · change p1 ≤ _ at hl1
          change own_sub _ _ (_ - p1) = true at h
          have hz := own_nil h
          exact Or.inr (Or.inr (Or.inr (Or.inr (Or.inr (Or.inr (Or.inr (Or.inr (Or.inr (Or.inr (Or.inr (Or.inr (Or.inr (Or.inl (by omega))))))))))))))
      · change p2 ≤ _ at hl2
        change own_sub _ _ (_ - p2) = true at h
        rcases own_or h with h | ⟨hl1, h⟩
        · skip
          have hz := own_nil h
          exact Or.inr (Or.inr (Or.inr (Or.inr (Or.inr (Or.inr (Or.inr (Or.inr (Or.inr (Or.inr (Or.inr (Or.inr (Or.inr (Or.inr (Or.inl (by omega)))))))))))))))
        · change p1 ≤ _ at hl1
          change own_sub _ _ (_ - p1) = true at h
          have hz := own_nil h
          exact Or.inr (Or.inr (Or.inr (Or.inr (Or.inr (Or.inr (Or.inr (Or.inr (Or.inr (Or.inr (Or.inr (Or.inr (Or.inr (Or.inr (Or.inr (by omega)))))))))))))))
theorem own_in0 (p1 p2 p3 p4 : Nat) : own_sub (own_v p1 p2 p3 p4) 4 (0) = true := by
  have h : own_sub (own_v p1 p2 p3 p4) 4 (0) = true := (own_keep (own_keep (own_keep (own_keep (show own_sub (own_v p1 p2 p3 p4) 0 0 = true from rfl)))))
  exact h
theorem own_in1 (p1 p2 p3 p4 : Nat) : own_sub (own_v p1 p2 p3 p4) 4 (p1) = true := by
  have h : own_sub (own_v p1 p2 p3 p4) 4 (0 + p1) = true := (own_keep (own_keep (own_keep (own_add (show own_sub (own_v p1 p2 p3 p4) 0 0 = true from rfl)))))
  rw [Nat.zero_add] at h
  exact h
theorem own_in2 (p1 p2 p3 p4 : Nat) : own_sub (own_v p1 p2 p3 p4) 4 (p2) = true := by
  have h : own_sub (own_v p1 p2 p3 p4) 4 (0 + p2) = true := (own_keep (own_keep (own_add (own_keep (show own_sub (own_v p1 p2 p3 p4) 0 0 = true from rfl)))))
  rw [Nat.zero_add] at h
  exact h
theorem own_in3 (p1 p2 p3 p4 : Nat) : own_sub (own_v p1 p2 p3 p4) 4 (p1 + p2) = true := by
  have h : own_sub (own_v p1 p2 p3 p4) 4 (0 + p1 + p2) = true := (own_keep (own_keep (own_add (own_add (show own_sub (own_v p1 p2 p3 p4) 0 0 = true from rfl)))))
  rw [Nat.zero_add] at h
  exact h
theorem own_in4 (p1 p2 p3 p4 : Nat) : own_sub (own_v p1 p2 p3 p4) 4 (p3) = true := by
  have h : own_sub (own_v p1 p2 p3 p4) 4 (0 + p3) = true := (own_keep (own_add (own_keep (own_keep (show own_sub (own_v p1 p2 p3 p4) 0 0 = true from rfl)))))
  rw [Nat.zero_add] at h
  exact h
theorem own_in5 (p1 p2 p3 p4 : Nat) : own_sub (own_v p1 p2 p3 p4) 4 (p1 + p3) = true := by
  have h : own_sub (own_v p1 p2 p3 p4) 4 (0 + p1 + p3) = true := (own_keep (own_add (own_keep (own_add (show own_sub (own_v p1 p2 p3 p4) 0 0 = true from rfl)))))
  rw [Nat.zero_add] at h
  exact h
theorem own_in6 (p1 p2 p3 p4 : Nat) : own_sub (own_v p1 p2 p3 p4) 4 (p2 + p3) = true := by
  have h : own_sub (own_v p1 p2 p3 p4) 4 (0 + p2 + p3) = true := (own_keep (own_add (own_add (own_keep (show own_sub (own_v p1 p2 p3 p4) 0 0 = true from rfl)))))
  rw [Nat.zero_add] at h
  exact h
theorem own_in7 (p1 p2 p3 p4 : Nat) : own_sub (own_v p1 p2 p3 p4) 4 (p1 + p2 + p3) = true := by
  have h : own_sub (own_v p1 p2 p3 p4) 4 (0 + p1 + p2 + p3) = true := (own_keep (own_add (own_add (own_add (show own_sub (own_v p1 p2 p3 p4) 0 0 = true from rfl)))))
  rw [Nat.zero_add] at h
  exact h
theorem own_in8 (p1 p2 p3 p4 : Nat) : own_sub (own_v p1 p2 p3 p4) 4 (p4) = true := by
  have h : own_sub (own_v p1 p2 p3 p4) 4 (0 + p4) = true := (own_add (own_keep (own_keep (own_keep (show own_sub (own_v p1 p2 p3 p4) 0 0 = true from rfl)))))
  rw [Nat.zero_add] at h
  exact h
theorem own_in9 (p1 p2 p3 p4 : Nat) : own_sub (own_v p1 p2 p3 p4) 4 (p1 + p4) = true := by
  have h : own_sub (own_v p1 p2 p3 p4) 4 (0 + p1 + p4) = true := (own_add (own_keep (own_keep (own_add (show own_sub (own_v p1 p2 p3 p4) 0 0 = true from rfl)))))
  rw [Nat.zero_add] at h
  exact h
theorem own_in10 (p1 p2 p3 p4 : Nat) : own_sub (own_v p1 p2 p3 p4) 4 (p2 + p4) = true := by
  have h : own_sub (own_v p1 p2 p3 p4) 4 (0 + p2 + p4) = true := (own_add (own_keep (own_add (own_keep (show own_sub (own_v p1 p2 p3 p4) 0 0 = true from rfl)))))
  rw [Nat.zero_add] at h
  exact h
theorem own_in11 (p1 p2 p3 p4 : Nat) : own_sub (own_v p1 p2 p3 p4) 4 (p1 + p2 + p4) = true := by
  have h : own_sub (own_v p1 p2 p3 p4) 4 (0 + p1 + p2 + p4) = true := (own_add (own_keep (own_add (own_add (show own_sub (own_v p1 p2 p3 p4) 0 0 = true from rfl)))))
  rw [Nat.zero_add] at h
  exact h
theorem own_in12 (p1 p2 p3 p4 : Nat) : own_sub (own_v p1 p2 p3 p4) 4 (p3 + p4) = true := by
  have h : own_sub (own_v p1 p2 p3 p4) 4 (0 + p3 + p4) = true := (own_add (own_add (own_keep (own_keep (show own_sub (own_v p1 p2 p3 p4) 0 0 = true from rfl)))))
  rw [Nat.zero_add] at h
  exact h
theorem own_in13 (p1 p2 p3 p4 : Nat) : own_sub (own_v p1 p2 p3 p4) 4 (p1 + p3 + p4) = true := by
  have h : own_sub (own_v p1 p2 p3 p4) 4 (0 + p1 + p3 + p4) = true := (own_add (own_add (own_keep (own_add (show own_sub (own_v p1 p2 p3 p4) 0 0 = true from rfl)))))
  rw [Nat.zero_add] at h
  exact h
theorem own_in14 (p1 p2 p3 p4 : Nat) : own_sub (own_v p1 p2 p3 p4) 4 (p2 + p3 + p4) = true := by
  have h : own_sub (own_v p1 p2 p3 p4) 4 (0 + p2 + p3 + p4) = true := (own_add (own_add (own_add (own_keep (show own_sub (own_v p1 p2 p3 p4) 0 0 = true from rfl)))))
  rw [Nat.zero_add] at h
  exact h
theorem own_in15 (p1 p2 p3 p4 : Nat) : own_sub (own_v p1 p2 p3 p4) 4 (p1 + p2 + p3 + p4) = true := by
  have h : own_sub (own_v p1 p2 p3 p4) 4 (0 + p1 + p2 + p3 + p4) = true := (own_add (own_add (own_add (own_add (show own_sub (own_v p1 p2 p3 p4) 0 0 = true from rfl)))))
  rw [Nat.zero_add] at h
  exact h
theorem own_bit0 (v : Nat → Nat) : ∀ t, t < 64 → (1 : Int64).toBitVec.getLsbD t = own_sub v 0 t := fun t ht => by
  show (1#64).getLsbD t = decide (t = 0)
  rw [BitVec.getLsbD_one]
  by_cases h : t = 0 <;> simp [h]
theorem own_bits {v : Nat → Nat} {j : Nat} {x : Int64} {y : Int32} (hx : ∀ t, t < 64 → x.toBitVec.getLsbD t = own_sub v j t) (hy : y.toInt = (v j : Int)) (hv : v j < 64) : ∀ t, t < 64 → (x ||| (x <<< (y.toInt64 &&& 63))).toBitVec.getLsbD t = own_sub v (j + 1) t := fun t ht => by
  show (x.toBitVec ||| (x <<< (y.toInt64 &&& 63)).toBitVec).getLsbD t = (own_sub v j t || (decide (v j ≤ t) && own_sub v j (t - v j)))
  rw [BitVec.getLsbD_or, own_shl (b := v j) (by omega), BitVec.getLsbD_shiftLeft, hx t ht, hx (t - v j) (by omega)]
  by_cases h : v j ≤ t
  · have h2 : ¬ t < v j := by omega
    simp [h, h2, ht]
  · have h2 : t < v j := by omega
    simp [h, h2]
theorem own_mask : ∀ w, w < 32 → ∀ i, i < 64 → (((1 : Int64) <<< Int64.ofNat w) - 1).toBitVec.getLsbD i = decide (i < w) := by decide +kernel
theorem own_test {x : Int64} {f : Nat → Bool} (hx : ∀ t, t < 64 → x.toBitVec.getLsbD t = f t) {le wd : Int32} {a w : Nat} (ha : le.toInt = (a : Int)) (hw : wd.toInt = (w : Int)) (ha2 : a + w ≤ 40) (hw2 : w < 32) : (XT.ushrL x le &&& (((1 : Int64) <<< (wd.toInt64 &&& 63)) - 1)) = 0 ↔ ∀ t, f t = true → ¬ (a ≤ t ∧ t < a + w) := by
  have e : (XT.ushrL x le &&& (((1 : Int64) <<< (wd.toInt64 &&& 63)) - 1)) = XT.ushrL x le &&& (((1 : Int64) <<< Int64.ofNat w) - 1) := by rw [(own_and63 (y := wd) (b := w) (by omega)).1]
  rw [e]
  have hb : ∀ i, i < 64 → (XT.ushrL x le &&& (((1 : Int64) <<< Int64.ofNat w) - 1)).toBitVec.getLsbD i = (x.toBitVec.getLsbD (a + i) && decide (i < w)) := fun i hi => by
    show ((XT.ushrL x le).toBitVec &&& (((1 : Int64) <<< Int64.ofNat w) - 1).toBitVec).getLsbD i = _
    rw [BitVec.getLsbD_and, own_mask w hw2 i hi, own_shr (b := a) (by omega), BitVec.getLsbD_ushiftRight]
  constructor
  · intro h t ht ⟨h1, h2⟩
    have q := hb (t - a) (by omega)
    rw [h, show a + (t - a) = t by omega, hx t (by omega), ht, decide_eq_true (show t - a < w by omega)] at q
    exact absurd q (by rw [show (0 : Int64).toBitVec = 0#64 from rfl, BitVec.getLsbD_zero]; decide)
  · intro h
    apply Int64.toBitVec_inj.mp
    apply BitVec.eq_of_getLsbD_eq
    intro i hi
    rw [hb i hi, show (0 : Int64).toBitVec = 0#64 from rfl, BitVec.getLsbD_zero]
    by_cases q : i < w
    · rw [hx (a + i) (by omega)]
      cases z : f (a + i)
      · rfl
      · exact (h (a + i) z ⟨by omega, by omega⟩).elim
    · rw [decide_eq_false q, Bool.and_false]
theorem own_add32 {x y : Int32} {a b : Nat} (hx : x.toInt = (a : Int)) (hy : y.toInt = (b : Int)) (h : a + b < 1000) : (x + y).toInt = ((a + b : Nat) : Int) := by
  have h1 := c_iadd x y
  have h2 := rng32 (x + y)
  omega
theorem own_sub32 {x y : Int32} {a b : Nat} (hx : x.toInt = (a : Int)) (hy : y.toInt = (b : Int)) (h : a < 1000) (hb : b < 1000) : (x - y).toInt = (a : Int) - (b : Int) := by
  have h1 := c_isub x y
  have h2 := rng32 (x - y)
  omega
theorem own_dbl {y : Int32} {b : Nat} (hy : y.toInt = (b : Int)) (h : b < 1000) : ((2 : Int32) * y).toInt = ((2 * b : Nat) : Int) := by
  have h1 := c_imul 2 y
  have h2 := rng32 (2 * y)
  have e2 : ((2 : Int32)).toInt = 2 := by decide
  rw [e2] at h1
  omega
theorem own_half {x : Int32} {g : Nat} (hx : x.toInt = (g : Int)) (h : g < 900) : ((x + 1) / 2).toInt = (((g + 1) / 2 : Nat) : Int) := by
  have h1 := own_add32 (y := 1) (b := 1) hx (by decide) (by omega)
  have h2 := (c_idiv (x + 1) 2 2 (by decide) (by decide)).1 (by omega)
  omega
theorem own_k (s : Int32) : ∃ k : Nat, ((1 : Int32) + (s &&& 3)).toInt = (k : Int) ∧ 1 ≤ k ∧ k ≤ 4 := by
  have h1 := c_mask s 3 2 (by decide) (by decide)
  have h6 : ((2 ^ 2 : Nat) : Int) = 4 := by decide
  rw [h6] at h1
  have h2 := c_iadd 1 (s &&& 3)
  have e1 : ((1 : Int32)).toInt = 1 := by decide
  rw [e1] at h2
  have h3 := rng32 ((1 : Int32) + (s &&& 3))
  refine ⟨((1 : Int32) + (s &&& 3)).toInt.toNat, ?_, ?_, ?_⟩ <;> omega
theorem own_m {k : Int32} {kn : Nat} (h : k.toInt = (kn : Int)) (h1 : 1 ≤ kn) (h4 : kn ≤ 4) : k ≠ 0 ∧ ((29 : Int32) / k).toInt = ((29 / kn : Nat) : Int) := by
  obtain rfl := own_ofInt h
  have q : kn = 1 ∨ kn = 2 ∨ kn = 3 ∨ kn = 4 := by omega
  rcases q with rfl | rfl | rfl | rfl <;> decide
theorem own_rem (x : Int32) {m : Int32} {d : Nat} (hm : m.toInt = (d : Int)) (hd : 1 ≤ d) (hd2 : d < 1000) : m ≠ 0 ∧ ∃ r : Nat, ((x &&& 2147483647) % m).toInt = (r : Int) ∧ r < d := by
  have h1 := c_mask x 2147483647 31 (by decide) (by decide)
  have h6 : ((2 ^ 31 : Nat) : Int) = 2147483648 := by decide
  rw [h6] at h1
  have h2 := (c_irem (x &&& 2147483647) m _ hm).1 (by omega)
  have h3 := Int.emod_nonneg (x &&& 2147483647).toInt (show (d : Int) ≠ 0 by omega)
  have h4 := Int.emod_lt_of_pos (x &&& 2147483647).toInt (show 0 < (d : Int) by omega)
  refine ⟨fun q => by rw [q] at hm; change (0 : Int) = _ at hm; omega, ((x &&& 2147483647) % m).toInt.toNat, ?_, ?_⟩ <;> omega
theorem own_st {ag sz n i v : Int32} {pc : Addr} {s : Int64} {o : Slot} (hs : One o) : storeLocals #[.val (.int ag), .val (.int sz), .val (.ref pc), .val (.long s), .second, .val (.ref pc), .val (.int n), .val (.int i), o] 8 (.int v) = some #[.val (.int ag), .val (.int sz), .val (.ref pc), .val (.long s), .second, .val (.ref pc), .val (.int n), .val (.int i), .val (.int v)] := by
  rcases hs with rfl | ⟨w, rfl, hw⟩
  · rfl
  · cases w <;> first | rfl | (simp [Value.category] at hw)

set_option maxRecDepth 65536 in
set_option maxHeartbeats 40000000 in
theorem rmE (l : Launch) (Z : State) (a0 : Array Value) (hw : ∀ d ∈ tables_1, d.before a0 Z = true) (x : Int32) (h0 : Heap) (n0 : Nat)  :
    Con l Z (⟨"com/example/bellsplit/bellsplit/search/ImprovedDynamicProgramme", "exactUpTo", "(I)I"⟩ : MethodName) prog_74_method_5_code 1 (some .int) ({ frames := 0, cells := 0, slots := 0, locals := 0 } : Room) #[(.int x)] h0 n0 (fun v h => v = some (.int ((x + 1) / 2)) ∧ h0 = h) := by
  refine Con.of_body (plainFor_of_name pn0) #[.val (.int x)] (fun m => by first | (simp [entryFrame, mkF, argsToLocals, Value.category, maxLocals]; done) | rfl) ?_
  intro p e s m below meth c C
  refine r_iload_n C d1_0 (pc' := 1) rfl rfl ?_
  refine r_iconst C d1_1 (pc' := 2) rfl (z := (1 : Int32)) rfl ?_
  refine r_iadd C d1_2 (pc' := 3) rfl (z := (x + (1 : Int32))) rfl ?_
  refine r_iconst C d1_3 (pc' := 4) rfl (z := (2 : Int32)) rfl ?_
  refine r_idiv C d1_4 (pc' := 5) rfl (by decide) (z := ((x + (1 : Int32)) / (2 : Int32))) rfl ?_
  exact r_ireturn C d1_5 ⟨rfl, rfl⟩ (by decide) (by decide)
set_option maxRecDepth 65536 in
set_option maxHeartbeats 40000000 in
theorem rmF (l : Launch) (Z : State) (a0 : Array Value) (hw : ∀ d ∈ tables_1, d.before a0 Z = true) (si : Int32) (sz : Int32) (ag : Int32) (t sn gn : Nat) (h0 : Heap) (n0 : Nat) (ht : si.toInt = (t : Int)) (hs : sz.toInt = (sn : Int)) (hg : ag.toInt = (gn : Int)) (h1 : t ≤ sn) (h2 : sn < gn) (h3 : gn ≤ 30) :
    Con l Z (⟨"com/example/bellsplit/bellsplit/search/ImprovedDynamicProgrammeBestStandsForPinLaw", "fits", "(III)Z"⟩ : MethodName) method_3_code 3 (some .boolean) ({ frames := 0, cells := 0, slots := 0, locals := 0 } : Room) #[(.int si), (.int sz), (.int ag)] h0 n0 (fun v h => (∃ b : Int32, v = some (.int b) ∧ (b = 1 ∧ (t ≤ gn - sn ∧ 2 * sn ≤ t + gn) ∨ b = 0 ∧ ¬ (t ≤ gn - sn ∧ 2 * sn ≤ t + gn))) ∧ h0 = h) := by
  refine Con.of_body (plainFor_of_name pn1) #[.val (.int si), .val (.int sz), .val (.int ag)] (fun m => by first | (simp [entryFrame, mkF, argsToLocals, Value.category, maxLocals]; done) | rfl) ?_
  intro p e s m below meth c C
  have q1 := own_sub32 hg hs (by omega) (by omega)
  have q2 := own_sub32 hs ht (by omega) (by omega)
  refine r_iload_n C d2_0 (pc' := 1) rfl rfl ?_
  refine r_iload_n C d2_1 (pc' := 2) rfl rfl ?_
  refine r_iload_n C d2_2 (pc' := 3) rfl rfl ?_
  refine r_isub C d2_3 (pc' := 4) rfl (z := (ag - sz)) rfl ?_
  refine r_icmpgt C d2_4 (pcT := 20) (pcF := 7) (by decide) rfl ?_ ?_
  · intro c4
    rw [q1, ht] at c4
    refine r_iconst C d2_20 (pc' := 21) rfl (z := (0 : Int32)) rfl ?_
    exact r_ireturnN (t := .boolean) (by simp) C d2_21 ⟨⟨0, rfl, Or.inr ⟨rfl, by omega⟩⟩, rfl⟩ (by decide) (by decide)
  · intro c4
    rw [q1, ht] at c4
    refine r_iload_n C d2_7 (pc' := 8) rfl rfl ?_
    refine r_iload_n C d2_8 (pc' := 9) rfl rfl ?_
    refine r_isub C d2_9 (pc' := 10) rfl (z := (sz - si)) rfl ?_
    refine r_iload_n C d2_10 (pc' := 11) rfl rfl ?_
    refine r_iload_n C d2_11 (pc' := 12) rfl rfl ?_
    refine r_isub C d2_12 (pc' := 13) rfl (z := (ag - sz)) rfl ?_
    refine r_icmpgt C d2_13 (pcT := 20) (pcF := 16) (by decide) rfl ?_ ?_
    · intro c13
      rw [q1, q2] at c13
      refine r_iconst C d2_20 (pc' := 21) rfl (z := (0 : Int32)) rfl ?_
      exact r_ireturnN (t := .boolean) (by simp) C d2_21 ⟨⟨0, rfl, Or.inr ⟨rfl, by omega⟩⟩, rfl⟩ (by decide) (by decide)
    · intro c13
      rw [q1, q2] at c13
      refine r_iconst C d2_16 (pc' := 17) rfl (z := (1 : Int32)) rfl ?_
      refine r_goto C d2_17 (pc' := 21) (by decide) ?_
      exact r_ireturnN (t := .boolean) (by simp) C d2_21 ⟨⟨1, rfl, Or.inl ⟨rfl, by omega, by omega⟩⟩, rfl⟩ (by decide) (by decide)
set_option maxRecDepth 65536 in
set_option maxHeartbeats 40000000 in
theorem rmB (l : Launch) (Z : State) (a0 : Array Value) (hw : ∀ d ∈ tables_1, d.before a0 Z = true) (ag : Int32) (sz : Int32) (ar : Addr) (kk : Int32) (k sn gn : Nat) (f : Nat → Int32) (v : Nat → Nat) (h0 : Heap) (n0 : Nat) (A_ar : IA Z h0 ar .int k (fun i => .int (f i))) (hkk : kk.toInt = (k : Int)) (hk : k ≤ 4) (hv : ∀ i, i < k → (f i).toInt = (v i : Int)) (hv2 : ∀ i, v i < 64) (hs : sz.toInt = (sn : Int)) (hg : ag.toInt = (gn : Int)) (h2 : sn < gn) (h3 : gn ≤ 30) :
    Con l Z (⟨"com/example/bellsplit/bellsplit/search/ImprovedDynamicProgramme", "bestStandsFor", "(II[I)Z"⟩ : MethodName) prog_74_method_12_code 9 (some .boolean) ({ frames := 1, cells := 0, slots := 0, locals := 13 } : Room) #[(.int ag), (.int sz), (.ref ar)] h0 n0 (fun r h => (∃ b : Int32, r = some (.int b) ∧ (b = 1 ∧ (k = 1 ∨ 2 * sn ≤ gn + 1 ∨ ∃ t, own_sub v k t = true ∧ t ≤ gn - sn ∧ 2 * sn ≤ t + gn) ∨ b = 0 ∧ ¬ k = 1 ∧ ¬ 2 * sn ≤ gn + 1 ∧ ∀ t, own_sub v k t = true → ¬ (t ≤ gn - sn ∧ 2 * sn ≤ t + gn))) ∧ h0 = h) := by
  refine Con.of_body (plainFor_of_name pn0) #[.val (.int ag), .val (.int sz), .val (.ref ar), .unset, .unset, .unset, .unset, .unset, .unset] (fun m => by first | (simp [entryFrame, mkF, argsToLocals, Value.category, maxLocals]; done) | rfl) ?_
  intro p e s m below meth c C
  refine r_aload_n C d3_0 (pc' := 1) rfl rfl rfl ?_
  refine r_arraylength C d3_1 (pc' := 2) rfl A_ar (z := kk) hkk ?_
  refine r_iconst C d3_2 (pc' := 3) rfl (z := (1 : Int32)) rfl ?_
  refine r_icmpeq C d3_3 (pcT := 14) (pcF := 6) (by decide) rfl ?_ ?_
  · intro c3
    have k1 : k = 1 := by rw [c3] at hkk; change (1 : Int) = _ at hkk; omega
    refine r_iconst C d3_14 (pc' := 15) rfl (z := (1 : Int32)) rfl ?_
    exact r_ireturnN (t := .boolean) (by simp) C d3_15 ⟨⟨1, rfl, Or.inl ⟨rfl, Or.inl k1⟩⟩, rfl⟩ (by decide) (by decide)
  · intro c3
    have k1 : ¬ k = 1 := fun q => by rw [q] at hkk; exact c3 (own_ofInt hkk)
    refine r_iload_n C d3_6 (pc' := 7) rfl rfl ?_
    refine r_iload_n C d3_7 (pc' := 8) rfl rfl ?_
    refine r_callS (y := (⟨"com/example/bellsplit/bellsplit/search/ImprovedDynamicProgramme", "exactUpTo", "(I)I"⟩ : MethodName)) (as := [(.int ag)]) (st := [(.int sz)]) C (t6 hw) (t7 hw) (t4 hw) (t8 hw) (by decide) pd0 rfl rfl d3_8 (pc' := 11) rfl rfl (W := 1) (Nat.le_of_eq rfl) (rmE l Z a0 hw ag h0 n0) (by decide) (by decide) (by decide) (by decide) ?_
    rintro _ _ ⟨rfl, rfl⟩
    show Run _ _ _ _ _ _ _ _ _ _ _ _ _ _ _ h0 0 0 11 #[.val (.int ag), .val (.int sz), .val (.ref ar), .unset, .unset, .unset, .unset, .unset, .unset] [(.int ((ag + 1) / 2)), (.int sz)]
    have hh := own_half hg (by omega)
    refine r_icmpgt C d3_11 (pcT := 16) (pcF := 14) (by decide) rfl ?_ ?_
    rotate_left
    · intro c11
      rw [hs, hh] at c11
      refine r_iconst C d3_14 (pc' := 15) rfl (z := (1 : Int32)) rfl ?_
      exact r_ireturnN (t := .boolean) (by simp) C d3_15 ⟨⟨1, rfl, Or.inl ⟨rfl, Or.inr (Or.inl (by omega))⟩⟩, rfl⟩ (by decide) (by decide)
    · intro c11
      rw [hs, hh] at c11
      have n2 : ¬ 2 * sn ≤ gn + 1 := by omega
      refine r_lconst C d3_16 (pc' := 17) rfl (z := (1 : Int64)) rfl ?_
      refine r_lstore_n C d3_17 (pc' := 18) rfl (ls' := #[.val (.int ag), .val (.int sz), .val (.ref ar), .val (.long (1 : Int64)), .second, .unset, .unset, .unset, .unset]) rfl ?_
      refine r_aload_n C d3_18 (pc' := 19) rfl rfl rfl ?_
      refine r_astore C d3_19 (pc' := 21) rfl rfl (ls' := #[.val (.int ag), .val (.int sz), .val (.ref ar), .val (.long (1 : Int64)), .second, .val (.ref ar), .unset, .unset, .unset]) rfl ?_
      refine r_aload C d3_21 (pc' := 23) rfl rfl rfl ?_
      refine r_arraylength C d3_23 (pc' := 24) rfl A_ar (z := kk) hkk ?_
      refine r_istore C d3_24 (pc' := 26) rfl (ls' := #[.val (.int ag), .val (.int sz), .val (.ref ar), .val (.long (1 : Int64)), .second, .val (.ref ar), .val (.int kk), .unset, .unset]) rfl ?_
      refine r_iconst C d3_26 (pc' := 27) rfl (z := (0 : Int32)) rfl ?_
      refine r_istore C d3_27 (pc' := 29) rfl (ls' := #[.val (.int ag), .val (.int sz), .val (.ref ar), .val (.long (1 : Int64)), .second, .val (.ref ar), .val (.int kk), .val (.int (0 : Int32)), .unset]) rfl ?_
      refine loop (α := Int32 × Nat × Int64 × Slot) (fun jq => k - jq.2.1) (fun jq => jq.1.toInt = (jq.2.1 : Int) ∧ jq.2.1 ≤ k ∧ (∀ t, t < 64 → jq.2.2.1.toBitVec.getLsbD t = own_sub v jq.2.1 t) ∧ One jq.2.2.2) (fun jq => h0) 0 0 29 (fun jq => #[.val (.int ag), .val (.int sz), .val (.ref ar), .val (.long jq.2.2.1), .second, .val (.ref ar), .val (.int kk), .val (.int jq.1), jq.2.2.2]) (fun jq => []) ?_ ?_
      rotate_left
      · intro LP
        exact LP (0, 0, 1, .unset) ⟨rfl, Nat.zero_le _, own_bit0 v, One.u⟩
      rintro ⟨i, j, sm, s8⟩ ⟨hi, hj, hb, hs8⟩ IH
      dsimp only at hi hj hb hs8 IH ⊢
      show Run _ _ _ _ _ _ _ _ _ _ _ _ _ _ _ h0 0 0 29 #[.val (.int ag), .val (.int sz), .val (.ref ar), .val (.long sm), .second, .val (.ref ar), .val (.int kk), .val (.int i), s8] []
      refine r_iload C d3_29 (pc' := 31) rfl rfl ?_
      refine r_iload C d3_31 (pc' := 33) rfl rfl ?_
      refine r_icmpge C d3_33 (pcT := 56) (pcF := 36) (by decide) rfl ?_ ?_
      rotate_left
      · intro c33
        rw [hi, hkk] at c33
        refine r_aload C d3_36 (pc' := 38) rfl rfl rfl ?_
        refine r_iload C d3_38 (pc' := 40) rfl rfl ?_
        refine r_iaload C d3_40 (pc' := 41) rfl A_ar (jn := j) hi (by omega) (x := (f j)) rfl ?_
        refine r_istore C d3_41 (pc' := 43) rfl (ls' := #[.val (.int ag), .val (.int sz), .val (.ref ar), .val (.long sm), .second, .val (.ref ar), .val (.int kk), .val (.int i), .val (.int (f j))]) (own_st hs8) ?_
        refine r_lload_n C d3_43 (pc' := 44) rfl rfl ?_
        refine r_lload_n C d3_44 (pc' := 45) rfl rfl ?_
        refine r_iload C d3_45 (pc' := 47) rfl rfl ?_
        refine r_lshl C d3_47 (pc' := 48) rfl (z := (sm <<< (((f j)).toInt64 &&& 63))) rfl ?_
        refine r_lor C d3_48 (pc' := 49) rfl (z := (sm ||| (sm <<< (((f j)).toInt64 &&& 63)))) rfl ?_
        refine r_lstore_n C d3_49 (pc' := 50) rfl (ls' := #[.val (.int ag), .val (.int sz), .val (.ref ar), .val (.long (sm ||| (sm <<< (((f j)).toInt64 &&& 63)))), .second, .val (.ref ar), .val (.int kk), .val (.int i), .val (.int (f j))]) rfl ?_
        refine r_iinc C d3_50 (pc' := 53) rfl rfl (z := (i + (1 : Int32))) rfl (ls' := #[.val (.int ag), .val (.int sz), .val (.ref ar), .val (.long (sm ||| (sm <<< (((f j)).toInt64 &&& 63)))), .second, .val (.ref ar), .val (.int kk), .val (.int (i + (1 : Int32))), .val (.int (f j))]) rfl ?_
        refine r_goto C d3_53 (pc' := 29) (by decide) ?_
        exact IH (i + 1, j + 1, _, _) ⟨own_add32 (b := 1) hi (by decide) (by omega), by dsimp only; omega, own_bits hb (hv j (by omega)) (hv2 j), One.val rfl⟩ (by dsimp only; omega)
      · intro c33
        rw [hi, hkk] at c33
        obtain rfl : j = k := by omega
        have d2 := own_dbl hs (by omega)
        have q1 := own_sub32 d2 hg (by omega) (by omega)
        have q2 := own_sub32 hg hs (by omega) (by omega)
        obtain ⟨le, ele⟩ : ∃ q : Int32, 2 * sz - ag = q := ⟨_, rfl⟩
        obtain ⟨mo, emo⟩ : ∃ q : Int32, ag - sz = q := ⟨_, rfl⟩
        rw [ele] at q1
        rw [emo] at q2
        refine r_iconst C d3_56 (pc' := 57) rfl (z := (2 : Int32)) rfl ?_
        refine r_iload_n C d3_57 (pc' := 58) rfl rfl ?_
        refine r_imul C d3_58 (pc' := 59) rfl (z := ((2 : Int32) * sz)) rfl ?_
        refine r_iload_n C d3_59 (pc' := 60) rfl rfl ?_
        refine r_isub C d3_60 (pc' := 61) rfl (z := le) ele ?_
        refine r_istore C d3_61 (pc' := 63) rfl (ls' := #[.val (.int ag), .val (.int sz), .val (.ref ar), .val (.long sm), .second, .val (.int le), .val (.int kk), .val (.int i), s8]) rfl ?_
        refine r_iload_n C d3_63 (pc' := 64) rfl rfl ?_
        refine r_iload_n C d3_64 (pc' := 65) rfl rfl ?_
        refine r_isub C d3_65 (pc' := 66) rfl (z := mo) emo ?_
        refine r_istore C d3_66 (pc' := 68) rfl (ls' := #[.val (.int ag), .val (.int sz), .val (.ref ar), .val (.long sm), .second, .val (.int le), .val (.int mo), .val (.int i), s8]) rfl ?_
        refine r_iload C d3_68 (pc' := 70) rfl rfl ?_
        refine r_iload C d3_70 (pc' := 72) rfl rfl ?_
        refine r_icmplt C d3_72 (pcT := 100) (pcF := 75) (by decide) rfl ?_ ?_
        · intro c72
          rw [q1, q2] at c72
          refine r_iconst C d3_100 (pc' := 101) rfl (z := (0 : Int32)) rfl ?_
          exact r_ireturnN (t := .boolean) (by simp) C d3_101 ⟨⟨0, rfl, Or.inr ⟨rfl, k1, n2, fun t ht q => by omega⟩⟩, rfl⟩ (by decide) (by decide)
        · intro c72
          rw [q1, q2] at c72
          have w1 : (mo - le).toInt = ((2 * gn - 3 * sn : Nat) : Int) := by
            have z1 := c_isub mo le
            have z2 := rng32 (mo - le)
            omega
          have w2 := own_add32 (b := 1) (y := 1) w1 (by decide) (by omega)
          have htest := own_test hb (le := le) (wd := mo - le + 1) (a := 2 * sn - gn) (w := 2 * gn - 3 * sn + 1) (by omega) w2 (by omega) (by omega)
          refine r_lload_n C d3_75 (pc' := 76) rfl rfl ?_
          refine r_iload C d3_76 (pc' := 78) rfl rfl ?_
          refine r_lushr C d3_78 (pc' := 79) rfl (z := (XT.ushrL sm le)) rfl ?_
          refine r_lconst C d3_79 (pc' := 80) rfl (z := (1 : Int64)) rfl ?_
          refine r_iload C d3_80 (pc' := 82) rfl rfl ?_
          refine r_iload C d3_82 (pc' := 84) rfl rfl ?_
          refine r_isub C d3_84 (pc' := 85) rfl (z := (mo - le)) rfl ?_
          refine r_iconst C d3_85 (pc' := 86) rfl (z := (1 : Int32)) rfl ?_
          refine r_iadd C d3_86 (pc' := 87) rfl (z := ((mo - le) + (1 : Int32))) rfl ?_
          refine r_lshl C d3_87 (pc' := 88) rfl (z := ((1 : Int64) <<< ((((mo - le) + (1 : Int32))).toInt64 &&& 63))) rfl ?_
          refine r_lconst C d3_88 (pc' := 89) rfl (z := (1 : Int64)) rfl ?_
          refine r_lsub C d3_89 (pc' := 90) rfl (z := (((1 : Int64) <<< ((((mo - le) + (1 : Int32))).toInt64 &&& 63)) - (1 : Int64))) rfl ?_
          refine r_land C d3_90 (pc' := 91) rfl (z := ((XT.ushrL sm le) &&& (((1 : Int64) <<< ((((mo - le) + (1 : Int32))).toInt64 &&& 63)) - (1 : Int64)))) rfl ?_
          refine r_lconst C d3_91 (pc' := 92) rfl (z := (0 : Int64)) rfl ?_
          refine r_lcmpeq C d3_92 (pc' := 93) rfl d3_93 (pcT := 100) (pcF := 96) (by decide) rfl ?_ ?_
          · intro c92
            have h0 := htest.mp c92
            refine r_iconst C d3_100 (pc' := 101) rfl (z := (0 : Int32)) rfl ?_
            exact r_ireturnN (t := .boolean) (by simp) C d3_101 ⟨⟨0, rfl, Or.inr ⟨rfl, k1, n2, fun t ht q => h0 t ht (by omega)⟩⟩, rfl⟩ (by decide) (by decide)
          · intro c92
            have hex : ∃ t, own_sub v j t = true ∧ t ≤ gn - sn ∧ 2 * sn ≤ t + gn := Classical.byContradiction fun q => c92 (htest.mpr fun t ht q2 => q ⟨t, ht, by omega, by omega⟩)
            refine r_iconst C d3_96 (pc' := 97) rfl (z := (1 : Int32)) rfl ?_
            refine r_goto C d3_97 (pc' := 101) (by decide) ?_
            exact r_ireturnN (t := .boolean) (by simp) C d3_101 ⟨⟨1, rfl, Or.inl ⟨rfl, Or.inr (Or.inr hex)⟩⟩, rfl⟩ (by decide) (by decide)
set_option maxRecDepth 65536 in
set_option maxHeartbeats 40000000 in
theorem rm0 (l : Launch) (Z : State) (a0 : Array Value) (hw : ∀ d ∈ tables_1, d.before a0 Z = true) (sh : Int32) (a : Int32) (b : Int32) (c1 : Int32) (d : Int32) (ex : Int32) (h0 : Heap) (n0 : Nat) (Z0 : n0 ≤ h0.size) :
    Con l Z x code maxLocals ret room_1 #[(.int sh), (.int a), (.int b), (.int c1), (.int d), (.int ex)] h0 n0 (fun v h => v = some (.int 1)) := by
  refine Con.of_body (plainFor_of_name pn1) #[.val (.int sh), .val (.int a), .val (.int b), .val (.int c1), .val (.int d), .val (.int ex), .unset, .unset, .unset, .unset, .unset, .unset, .unset, .unset, .unset, .unset, .unset] (fun m => by first | (simp [entryFrame, mkF, argsToLocals, Value.category, maxLocals]; done) | rfl) ?_
  intro p e s m below meth c C
  obtain ⟨k, hk, hk1, hk4⟩ := own_k sh
  obtain ⟨kk, ekk⟩ : ∃ q : Int32, (1 : Int32) + (sh &&& 3) = q := ⟨_, rfl⟩
  rw [ekk] at hk
  obtain ⟨knz, hmm⟩ := own_m hk hk1 hk4
  obtain ⟨mm, emm⟩ : ∃ q : Int32, 29 / kk = q := ⟨_, rfl⟩
  rw [emm] at hmm
  obtain ⟨m, em⟩ : ∃ z : Nat, 29 / k = z := ⟨_, rfl⟩
  rw [em] at hmm
  have hkm : (k = 1 ∧ m = 29) ∨ (k = 2 ∧ m = 14) ∨ (k = 3 ∧ m = 9) ∨ (k = 4 ∧ m = 7) := by
    have q : k = 1 ∨ k = 2 ∨ k = 3 ∨ k = 4 := by omega
    rcases q with rfl | rfl | rfl | rfl <;> omega
  obtain ⟨mnz, r1, er1, hr1⟩ := own_rem a hmm (by omega) (by omega)
  obtain ⟨-, r2, er2, hr2⟩ := own_rem b hmm (by omega) (by omega)
  obtain ⟨-, r3, er3, hr3⟩ := own_rem c1 hmm (by omega) (by omega)
  obtain ⟨-, r4, er4, hr4⟩ := own_rem d hmm (by omega) (by omega)
  obtain ⟨q1, eq1⟩ : ∃ q : Int32, (1 : Int32) + (a &&& 2147483647) % mm = q := ⟨_, rfl⟩
  obtain ⟨p1, hq1, hp1, hp1m⟩ : ∃ p : Nat, q1.toInt = (p : Int) ∧ 1 ≤ p ∧ p ≤ m := ⟨1 + r1, by rw [← eq1]; exact own_add32 (a := 1) (by decide) er1 (by omega), by omega, by omega⟩
  refine r_iconst C at_0 (pc' := 1) rfl (z := (1 : Int32)) rfl ?_
  refine r_iload_n C at_1 (pc' := 2) rfl rfl ?_
  refine r_iconst C at_2 (pc' := 3) rfl (z := (3 : Int32)) rfl ?_
  refine r_iand C at_3 (pc' := 4) rfl (z := (sh &&& (3 : Int32))) rfl ?_
  refine r_iadd C at_4 (pc' := 5) rfl (z := kk) ekk ?_
  refine r_istore C at_5 (pc' := 7) rfl (ls' := #[.val (.int sh), .val (.int a), .val (.int b), .val (.int c1), .val (.int d), .val (.int ex), .val (.int kk), .unset, .unset, .unset, .unset, .unset, .unset, .unset, .unset, .unset, .unset]) rfl ?_
  refine r_bipush C at_7 (pc' := 9) rfl (z := (29 : Int32)) rfl ?_
  refine r_iload C at_9 (pc' := 11) rfl rfl ?_
  refine r_idiv C at_11 (pc' := 12) rfl knz (z := mm) emm ?_
  refine r_istore C at_12 (pc' := 14) rfl (ls' := #[.val (.int sh), .val (.int a), .val (.int b), .val (.int c1), .val (.int d), .val (.int ex), .val (.int kk), .val (.int mm), .unset, .unset, .unset, .unset, .unset, .unset, .unset, .unset, .unset]) rfl ?_
  refine r_iconst C at_14 (pc' := 15) rfl (z := (1 : Int32)) rfl ?_
  refine r_iload_n C at_15 (pc' := 16) rfl rfl ?_
  refine r_ldc C (t0 hw) at_16 (pc' := 18) rfl ?_
  refine r_iand C at_18 (pc' := 19) rfl (z := (a &&& (2147483647 : Int32))) rfl ?_
  refine r_iload C at_19 (pc' := 21) rfl rfl ?_
  refine r_irem C at_21 (pc' := 22) rfl mnz (z := ((a &&& (2147483647 : Int32)) % mm)) rfl ?_
  refine r_iadd C at_22 (pc' := 23) rfl (z := q1) eq1 ?_
  refine r_istore C at_23 (pc' := 25) rfl (ls' := #[.val (.int sh), .val (.int a), .val (.int b), .val (.int c1), .val (.int d), .val (.int ex), .val (.int kk), .val (.int mm), .val (.int q1), .unset, .unset, .unset, .unset, .unset, .unset, .unset, .unset]) rfl ?_
  refine join (α := Int32 × Nat) (fun jq => jq.1.toInt = (jq.2 : Int) ∧ (2 ≤ k → 1 ≤ jq.2 ∧ jq.2 ≤ m) ∧ (k < 2 → jq.2 = 0)) (fun jq => h0) 0 0 44 (fun jq => #[.val (.int sh), .val (.int a), .val (.int b), .val (.int c1), .val (.int d), .val (.int ex), .val (.int kk), .val (.int mm), .val (.int q1), .unset, .unset, .unset, .unset, .unset, .unset, .unset, .unset]) (fun jq => [(.int jq.1)]) ?_ ?_
  rotate_left
  · intro J44
    refine r_iload C at_25 (pc' := 27) rfl rfl ?_
    refine r_iconst C at_27 (pc' := 28) rfl (z := (2 : Int32)) rfl ?_
    refine r_icmplt C at_28 (pcT := 43) (pcF := 31) (by decide) rfl ?_ ?_
    · intro cc
      replace cc : kk.toInt < 2 := cc
      refine r_iconst C at_43 (pc' := 44) rfl (z := (0 : Int32)) rfl ?_
      exact J44 (_, 0) ⟨rfl, fun q => by omega, fun _ => rfl⟩
    · intro cc
      replace cc : (2 : Int) ≤ kk.toInt := cc
      refine r_iconst C at_31 (pc' := 32) rfl (z := (1 : Int32)) rfl ?_
      refine r_iload_n C at_32 (pc' := 33) rfl rfl ?_
      refine r_ldc C (t0 hw) at_33 (pc' := 35) rfl ?_
      refine r_iand C at_35 (pc' := 36) rfl (z := (b &&& (2147483647 : Int32))) rfl ?_
      refine r_iload C at_36 (pc' := 38) rfl rfl ?_
      refine r_irem C at_38 (pc' := 39) rfl mnz (z := ((b &&& (2147483647 : Int32)) % mm)) rfl ?_
      refine r_iadd C at_39 (pc' := 40) rfl (z := ((1 : Int32) + ((b &&& (2147483647 : Int32)) % mm))) rfl ?_
      refine r_goto C at_40 (pc' := 44) (by decide) ?_
      exact J44 (_, 1 + r2) ⟨own_add32 (a := 1) (by decide) er2 (by omega), fun q => ⟨by dsimp only; omega, by dsimp only; omega⟩, fun q => by omega⟩
  rintro ⟨q2, p2⟩ ⟨hq2, hp2, hp2z⟩
  dsimp only at hq2 hp2 hp2z ⊢
  show Run _ _ _ _ _ _ _ _ _ _ _ _ _ _ _ h0 0 0 44 #[.val (.int sh), .val (.int a), .val (.int b), .val (.int c1), .val (.int d), .val (.int ex), .val (.int kk), .val (.int mm), .val (.int q1), .unset, .unset, .unset, .unset, .unset, .unset, .unset, .unset] [(.int q2)]
  refine r_istore C at_44 (pc' := 46) rfl (ls' := #[.val (.int sh), .val (.int a), .val (.int b), .val (.int c1), .val (.int d), .val (.int ex), .val (.int kk), .val (.int mm), .val (.int q1), .val (.int q2), .unset, .unset, .unset, .unset, .unset, .unset, .unset]) rfl ?_
  refine join (α := Int32 × Nat) (fun jq => jq.1.toInt = (jq.2 : Int) ∧ (3 ≤ k → 1 ≤ jq.2 ∧ jq.2 ≤ m) ∧ (k < 3 → jq.2 = 0)) (fun jq => h0) 0 0 65 (fun jq => #[.val (.int sh), .val (.int a), .val (.int b), .val (.int c1), .val (.int d), .val (.int ex), .val (.int kk), .val (.int mm), .val (.int q1), .val (.int q2), .unset, .unset, .unset, .unset, .unset, .unset, .unset]) (fun jq => [(.int jq.1)]) ?_ ?_
  rotate_left
  · intro J65
    refine r_iload C at_46 (pc' := 48) rfl rfl ?_
    refine r_iconst C at_48 (pc' := 49) rfl (z := (3 : Int32)) rfl ?_
    refine r_icmplt C at_49 (pcT := 64) (pcF := 52) (by decide) rfl ?_ ?_
    · intro cc
      replace cc : kk.toInt < 3 := cc
      refine r_iconst C at_64 (pc' := 65) rfl (z := (0 : Int32)) rfl ?_
      exact J65 (_, 0) ⟨rfl, fun q => by omega, fun _ => rfl⟩
    · intro cc
      replace cc : (3 : Int) ≤ kk.toInt := cc
      refine r_iconst C at_52 (pc' := 53) rfl (z := (1 : Int32)) rfl ?_
      refine r_iload_n C at_53 (pc' := 54) rfl rfl ?_
      refine r_ldc C (t0 hw) at_54 (pc' := 56) rfl ?_
      refine r_iand C at_56 (pc' := 57) rfl (z := (c1 &&& (2147483647 : Int32))) rfl ?_
      refine r_iload C at_57 (pc' := 59) rfl rfl ?_
      refine r_irem C at_59 (pc' := 60) rfl mnz (z := ((c1 &&& (2147483647 : Int32)) % mm)) rfl ?_
      refine r_iadd C at_60 (pc' := 61) rfl (z := ((1 : Int32) + ((c1 &&& (2147483647 : Int32)) % mm))) rfl ?_
      refine r_goto C at_61 (pc' := 65) (by decide) ?_
      exact J65 (_, 1 + r3) ⟨own_add32 (a := 1) (by decide) er3 (by omega), fun q => ⟨by dsimp only; omega, by dsimp only; omega⟩, fun q => by omega⟩
  rintro ⟨q3, p3⟩ ⟨hq3, hp3, hp3z⟩
  dsimp only at hq3 hp3 hp3z ⊢
  show Run _ _ _ _ _ _ _ _ _ _ _ _ _ _ _ h0 0 0 65 #[.val (.int sh), .val (.int a), .val (.int b), .val (.int c1), .val (.int d), .val (.int ex), .val (.int kk), .val (.int mm), .val (.int q1), .val (.int q2), .unset, .unset, .unset, .unset, .unset, .unset, .unset] [(.int q3)]
  refine r_istore C at_65 (pc' := 67) rfl (ls' := #[.val (.int sh), .val (.int a), .val (.int b), .val (.int c1), .val (.int d), .val (.int ex), .val (.int kk), .val (.int mm), .val (.int q1), .val (.int q2), .val (.int q3), .unset, .unset, .unset, .unset, .unset, .unset]) rfl ?_
  refine join (α := Int32 × Nat) (fun jq => jq.1.toInt = (jq.2 : Int) ∧ (4 ≤ k → 1 ≤ jq.2 ∧ jq.2 ≤ m) ∧ (k < 4 → jq.2 = 0)) (fun jq => h0) 0 0 87 (fun jq => #[.val (.int sh), .val (.int a), .val (.int b), .val (.int c1), .val (.int d), .val (.int ex), .val (.int kk), .val (.int mm), .val (.int q1), .val (.int q2), .val (.int q3), .unset, .unset, .unset, .unset, .unset, .unset]) (fun jq => [(.int jq.1)]) ?_ ?_
  rotate_left
  · intro J87
    refine r_iload C at_67 (pc' := 69) rfl rfl ?_
    refine r_iconst C at_69 (pc' := 70) rfl (z := (4 : Int32)) rfl ?_
    refine r_icmplt C at_70 (pcT := 86) (pcF := 73) (by decide) rfl ?_ ?_
    · intro cc
      replace cc : kk.toInt < 4 := cc
      refine r_iconst C at_86 (pc' := 87) rfl (z := (0 : Int32)) rfl ?_
      exact J87 (_, 0) ⟨rfl, fun q => by omega, fun _ => rfl⟩
    · intro cc
      replace cc : (4 : Int) ≤ kk.toInt := cc
      refine r_iconst C at_73 (pc' := 74) rfl (z := (1 : Int32)) rfl ?_
      refine r_iload C at_74 (pc' := 76) rfl rfl ?_
      refine r_ldc C (t0 hw) at_76 (pc' := 78) rfl ?_
      refine r_iand C at_78 (pc' := 79) rfl (z := (d &&& (2147483647 : Int32))) rfl ?_
      refine r_iload C at_79 (pc' := 81) rfl rfl ?_
      refine r_irem C at_81 (pc' := 82) rfl mnz (z := ((d &&& (2147483647 : Int32)) % mm)) rfl ?_
      refine r_iadd C at_82 (pc' := 83) rfl (z := ((1 : Int32) + ((d &&& (2147483647 : Int32)) % mm))) rfl ?_
      refine r_goto C at_83 (pc' := 87) (by decide) ?_
      exact J87 (_, 1 + r4) ⟨own_add32 (a := 1) (by decide) er4 (by omega), fun q => ⟨by dsimp only; omega, by dsimp only; omega⟩, fun q => by omega⟩
  rintro ⟨q4, p4⟩ ⟨hq4, hp4, hp4z⟩
  dsimp only at hq4 hp4 hp4z ⊢
  show Run _ _ _ _ _ _ _ _ _ _ _ _ _ _ _ h0 0 0 87 #[.val (.int sh), .val (.int a), .val (.int b), .val (.int c1), .val (.int d), .val (.int ex), .val (.int kk), .val (.int mm), .val (.int q1), .val (.int q2), .val (.int q3), .unset, .unset, .unset, .unset, .unset, .unset] [(.int q4)]
  refine r_istore C at_87 (pc' := 89) rfl (ls' := #[.val (.int sh), .val (.int a), .val (.int b), .val (.int c1), .val (.int d), .val (.int ex), .val (.int kk), .val (.int mm), .val (.int q1), .val (.int q2), .val (.int q3), .val (.int q4), .unset, .unset, .unset, .unset, .unset]) rfl ?_
  have u2 := own_add32 hq1 hq2 (by omega)
  have u3 := own_add32 u2 hq3 (by omega)
  have u4 := own_add32 u3 hq4 (by omega)
  obtain ⟨sz, esz⟩ : ∃ q : Int32, ((q1 + q2) + q3) + q4 = q := ⟨_, rfl⟩
  rw [esz] at u4
  obtain ⟨s, hs⟩ : ∃ z : Nat, z = p1 + p2 + p3 + p4 := ⟨_, rfl⟩
  rw [← hs] at u4
  have hs29 : s ≤ 29 := by omega
  have d1 := own_sub32 (x := 30) (a := 30) (by decide) u4 (by decide) (by omega)
  obtain ⟨dnz, r5, er5, hr5⟩ := own_rem ex (m := 30 - sz) (d := 30 - s) (by omega) (by omega) (by omega)
  have d2 := own_add32 (own_add32 (b := 1) (y := 1) u4 (by decide) (by omega)) er5 (by omega)
  obtain ⟨ag, eag⟩ : ∃ q : Int32, (sz + 1) + (ex &&& 2147483647) % (30 - sz) = q := ⟨_, rfl⟩
  rw [eag] at d2
  obtain ⟨g, hg⟩ : ∃ z : Nat, z = s + 1 + r5 := ⟨_, rfl⟩
  rw [← hg] at d2
  refine r_iload C at_89 (pc' := 91) rfl rfl ?_
  refine r_iload C at_91 (pc' := 93) rfl rfl ?_
  refine r_iadd C at_93 (pc' := 94) rfl (z := (q1 + q2)) rfl ?_
  refine r_iload C at_94 (pc' := 96) rfl rfl ?_
  refine r_iadd C at_96 (pc' := 97) rfl (z := ((q1 + q2) + q3)) rfl ?_
  refine r_iload C at_97 (pc' := 99) rfl rfl ?_
  refine r_iadd C at_99 (pc' := 100) rfl (z := sz) esz ?_
  refine r_istore C at_100 (pc' := 102) rfl (ls' := #[.val (.int sh), .val (.int a), .val (.int b), .val (.int c1), .val (.int d), .val (.int ex), .val (.int kk), .val (.int mm), .val (.int q1), .val (.int q2), .val (.int q3), .val (.int q4), .val (.int sz), .unset, .unset, .unset, .unset]) rfl ?_
  refine r_iload C at_102 (pc' := 104) rfl rfl ?_
  refine r_iconst C at_104 (pc' := 105) rfl (z := (1 : Int32)) rfl ?_
  refine r_iadd C at_105 (pc' := 106) rfl (z := (sz + (1 : Int32))) rfl ?_
  refine r_iload C at_106 (pc' := 108) rfl rfl ?_
  refine r_ldc C (t0 hw) at_108 (pc' := 110) rfl ?_
  refine r_iand C at_110 (pc' := 111) rfl (z := (ex &&& (2147483647 : Int32))) rfl ?_
  refine r_bipush C at_111 (pc' := 113) rfl (z := (30 : Int32)) rfl ?_
  refine r_iload C at_113 (pc' := 115) rfl rfl ?_
  refine r_isub C at_115 (pc' := 116) rfl (z := ((30 : Int32) - sz)) rfl ?_
  refine r_irem C at_116 (pc' := 117) rfl dnz (z := ((ex &&& (2147483647 : Int32)) % ((30 : Int32) - sz))) rfl ?_
  refine r_iadd C at_117 (pc' := 118) rfl (z := ag) eag ?_
  refine r_istore C at_118 (pc' := 120) rfl (ls' := #[.val (.int sh), .val (.int a), .val (.int b), .val (.int c1), .val (.int d), .val (.int ex), .val (.int kk), .val (.int mm), .val (.int q1), .val (.int q2), .val (.int q3), .val (.int q4), .val (.int sz), .val (.int ag), .unset, .unset, .unset]) rfl ?_
  refine join (α := Heap × Addr × (Nat → Int32)) (fun jq => n0 ≤ jq.1.size ∧ IA Z jq.1 jq.2.1 .int k (fun i => .int (jq.2.2 i)) ∧ ∀ i, i < k → (jq.2.2 i).toInt = (own_v p1 p2 p3 p4 i : Int)) (fun jq => jq.1) 1 4 217 (fun jq => #[.val (.int sh), .val (.int a), .val (.int b), .val (.int c1), .val (.int d), .val (.int ex), .val (.int kk), .val (.int mm), .val (.int q1), .val (.int q2), .val (.int q3), .val (.int q4), .val (.int sz), .val (.int ag), .val (.ref jq.2.1), .unset, .unset]) (fun jq => []) ?_ ?_
  rotate_left
  · intro J217
    refine r_iload C at_120 (pc' := 122) rfl rfl ?_
    refine r_iconst C at_122 (pc' := 123) rfl (z := (1 : Int32)) rfl ?_
    refine r_icmpne C at_123 (pcT := 139) (pcF := 126) (by decide) rfl ?_ ?_
    rotate_left
    · intro c123
      have e : k = 1 := by rw [c123] at hk; change (1 : Int) = _ at hk; omega
      subst e
      refine r_iconst C at_126 (pc' := 127) rfl (z := (1 : Int32)) rfl ?_
      refine r_newarray (ty := .int) (dv := (.int (0 : Int32))) rfl (n := 1) (cap := 1) C (t1 hw) rfl at_127 (pc' := 129) rfl (by decide) (by decide) (by decide) (by decide) (by decide) ?_
      intro ar h1 ha_ar K1 A_ar
      have ge_ar : n0 ≤ ar := Nat.le_trans Z0 (Nat.le_of_eq (Eq.symm ha_ar))
      have Z0 := Nat.le_trans Z0 K1.1
      have A_ar : IA Z h1 ar .int 1 (fun i => .int ((fun _ => (0 : Int32)) i)) := A_ar
      refine r_dup C at_129 (pc' := 130) rfl rfl ?_
      refine r_iconst C at_130 (pc' := 131) rfl (z := (0 : Int32)) rfl ?_
      refine r_iload C at_131 (pc' := 133) rfl rfl ?_
      refine r_iastore C at_133 (pc' := 134) rfl A_ar (jn := 0) (by decide) (by decide) ge_ar ?_
      intro h2 K2 A_ar
      have Z0 := Nat.le_trans Z0 K2.1
      have A_ar : IA Z h2 ar .int 1 (fun i => .int ((fun zi => if zi = 0 then q1 else (fun _ => (0 : Int32)) zi) i)) := A_ar
      refine r_astore C at_134 (pc' := 136) rfl rfl (ls' := #[.val (.int sh), .val (.int a), .val (.int b), .val (.int c1), .val (.int d), .val (.int ex), .val (.int kk), .val (.int mm), .val (.int q1), .val (.int q2), .val (.int q3), .val (.int q4), .val (.int sz), .val (.int ag), .val (.ref ar), .unset, .unset]) rfl ?_
      refine r_goto C at_136 (pc' := 217) (by decide) ?_
      exact (J217 (h2, ar, _) ⟨Z0, A_ar, fun i hi => by
          have q : i = 0 := by omega
          rcases q with rfl
          · exact hq1⟩).mono (by decide) (by decide)
    · intro c123
      have n1 : k ≠ 1 := fun q => by rw [q] at hk; exact c123 (own_ofInt hk)
      refine r_iload C at_139 (pc' := 141) rfl rfl ?_
      refine r_iconst C at_141 (pc' := 142) rfl (z := (2 : Int32)) rfl ?_
      refine r_icmpne C at_142 (pcT := 163) (pcF := 145) (by decide) rfl ?_ ?_
      rotate_left
      · intro c142
        have e : k = 2 := by rw [c142] at hk; change (2 : Int) = _ at hk; omega
        subst e
        refine r_iconst C at_145 (pc' := 146) rfl (z := (2 : Int32)) rfl ?_
        refine r_newarray (ty := .int) (dv := (.int (0 : Int32))) rfl (n := 2) (cap := 2) C (t1 hw) rfl at_146 (pc' := 148) rfl (by decide) (by decide) (by decide) (by decide) (by decide) ?_
        intro ar h3 ha_ar K3 A_ar
        have ge_ar : n0 ≤ ar := Nat.le_trans Z0 (Nat.le_of_eq (Eq.symm ha_ar))
        have Z0 := Nat.le_trans Z0 K3.1
        have A_ar : IA Z h3 ar .int 2 (fun i => .int ((fun _ => (0 : Int32)) i)) := A_ar
        refine r_dup C at_148 (pc' := 149) rfl rfl ?_
        refine r_iconst C at_149 (pc' := 150) rfl (z := (0 : Int32)) rfl ?_
        refine r_iload C at_150 (pc' := 152) rfl rfl ?_
        refine r_iastore C at_152 (pc' := 153) rfl A_ar (jn := 0) (by decide) (by decide) ge_ar ?_
        intro h4 K4 A_ar
        have Z0 := Nat.le_trans Z0 K4.1
        have A_ar : IA Z h4 ar .int 2 (fun i => .int ((fun zi => if zi = 0 then q1 else (fun _ => (0 : Int32)) zi) i)) := A_ar
        refine r_dup C at_153 (pc' := 154) rfl rfl ?_
        refine r_iconst C at_154 (pc' := 155) rfl (z := (1 : Int32)) rfl ?_
        refine r_iload C at_155 (pc' := 157) rfl rfl ?_
        refine r_iastore C at_157 (pc' := 158) rfl A_ar (jn := 1) (by decide) (by decide) ge_ar ?_
        intro h5 K5 A_ar
        have Z0 := Nat.le_trans Z0 K5.1
        have A_ar : IA Z h5 ar .int 2 (fun i => .int ((fun zi => if zi = 1 then q2 else (fun zi => if zi = 0 then q1 else (fun _ => (0 : Int32)) zi) zi) i)) := A_ar
        refine r_astore C at_158 (pc' := 160) rfl rfl (ls' := #[.val (.int sh), .val (.int a), .val (.int b), .val (.int c1), .val (.int d), .val (.int ex), .val (.int kk), .val (.int mm), .val (.int q1), .val (.int q2), .val (.int q3), .val (.int q4), .val (.int sz), .val (.int ag), .val (.ref ar), .unset, .unset]) rfl ?_
        refine r_goto C at_160 (pc' := 217) (by decide) ?_
        exact (J217 (h5, ar, _) ⟨Z0, A_ar, fun i hi => by
            have q : i = 0 ∨ i = 1 := by omega
            rcases q with rfl | rfl
            · exact hq1
            · exact hq2⟩).mono (by decide) (by decide)
      · intro c142
        have n2 : k ≠ 2 := fun q => by rw [q] at hk; exact c142 (own_ofInt hk)
        refine r_iload C at_163 (pc' := 165) rfl rfl ?_
        refine r_iconst C at_165 (pc' := 166) rfl (z := (3 : Int32)) rfl ?_
        refine r_icmpne C at_166 (pcT := 192) (pcF := 169) (by decide) rfl ?_ ?_
        rotate_left
        · intro c166
          have e : k = 3 := by rw [c166] at hk; change (3 : Int) = _ at hk; omega
          subst e
          refine r_iconst C at_169 (pc' := 170) rfl (z := (3 : Int32)) rfl ?_
          refine r_newarray (ty := .int) (dv := (.int (0 : Int32))) rfl (n := 3) (cap := 3) C (t1 hw) rfl at_170 (pc' := 172) rfl (by decide) (by decide) (by decide) (by decide) (by decide) ?_
          intro ar h6 ha_ar K6 A_ar
          have ge_ar : n0 ≤ ar := Nat.le_trans Z0 (Nat.le_of_eq (Eq.symm ha_ar))
          have Z0 := Nat.le_trans Z0 K6.1
          have A_ar : IA Z h6 ar .int 3 (fun i => .int ((fun _ => (0 : Int32)) i)) := A_ar
          refine r_dup C at_172 (pc' := 173) rfl rfl ?_
          refine r_iconst C at_173 (pc' := 174) rfl (z := (0 : Int32)) rfl ?_
          refine r_iload C at_174 (pc' := 176) rfl rfl ?_
          refine r_iastore C at_176 (pc' := 177) rfl A_ar (jn := 0) (by decide) (by decide) ge_ar ?_
          intro h7 K7 A_ar
          have Z0 := Nat.le_trans Z0 K7.1
          have A_ar : IA Z h7 ar .int 3 (fun i => .int ((fun zi => if zi = 0 then q1 else (fun _ => (0 : Int32)) zi) i)) := A_ar
          refine r_dup C at_177 (pc' := 178) rfl rfl ?_
          refine r_iconst C at_178 (pc' := 179) rfl (z := (1 : Int32)) rfl ?_
          refine r_iload C at_179 (pc' := 181) rfl rfl ?_
          refine r_iastore C at_181 (pc' := 182) rfl A_ar (jn := 1) (by decide) (by decide) ge_ar ?_
          intro h8 K8 A_ar
          have Z0 := Nat.le_trans Z0 K8.1
          have A_ar : IA Z h8 ar .int 3 (fun i => .int ((fun zi => if zi = 1 then q2 else (fun zi => if zi = 0 then q1 else (fun _ => (0 : Int32)) zi) zi) i)) := A_ar
          refine r_dup C at_182 (pc' := 183) rfl rfl ?_
          refine r_iconst C at_183 (pc' := 184) rfl (z := (2 : Int32)) rfl ?_
          refine r_iload C at_184 (pc' := 186) rfl rfl ?_
          refine r_iastore C at_186 (pc' := 187) rfl A_ar (jn := 2) (by decide) (by decide) ge_ar ?_
          intro h9 K9 A_ar
          have Z0 := Nat.le_trans Z0 K9.1
          have A_ar : IA Z h9 ar .int 3 (fun i => .int ((fun zi => if zi = 2 then q3 else (fun zi => if zi = 1 then q2 else (fun zi => if zi = 0 then q1 else (fun _ => (0 : Int32)) zi) zi) zi) i)) := A_ar
          refine r_astore C at_187 (pc' := 189) rfl rfl (ls' := #[.val (.int sh), .val (.int a), .val (.int b), .val (.int c1), .val (.int d), .val (.int ex), .val (.int kk), .val (.int mm), .val (.int q1), .val (.int q2), .val (.int q3), .val (.int q4), .val (.int sz), .val (.int ag), .val (.ref ar), .unset, .unset]) rfl ?_
          refine r_goto C at_189 (pc' := 217) (by decide) ?_
          exact (J217 (h9, ar, _) ⟨Z0, A_ar, fun i hi => by
              have q : i = 0 ∨ i = 1 ∨ i = 2 := by omega
              rcases q with rfl | rfl | rfl
              · exact hq1
              · exact hq2
              · exact hq3⟩).mono (by decide) (by decide)
        · intro c166
          have n3 : k ≠ 3 := fun q => by rw [q] at hk; exact c166 (own_ofInt hk)
          refine r_iconst C at_192 (pc' := 193) rfl (z := (4 : Int32)) rfl ?_
          have e : k = 4 := by omega
          subst e
          refine r_newarray (ty := .int) (dv := (.int (0 : Int32))) rfl (n := 4) (cap := 4) C (t1 hw) rfl at_193 (pc' := 195) rfl (by decide) (by decide) (by decide) (by decide) (by decide) ?_
          intro ar h10 ha_ar K10 A_ar
          have ge_ar : n0 ≤ ar := Nat.le_trans Z0 (Nat.le_of_eq (Eq.symm ha_ar))
          have Z0 := Nat.le_trans Z0 K10.1
          have A_ar : IA Z h10 ar .int 4 (fun i => .int ((fun _ => (0 : Int32)) i)) := A_ar
          refine r_dup C at_195 (pc' := 196) rfl rfl ?_
          refine r_iconst C at_196 (pc' := 197) rfl (z := (0 : Int32)) rfl ?_
          refine r_iload C at_197 (pc' := 199) rfl rfl ?_
          refine r_iastore C at_199 (pc' := 200) rfl A_ar (jn := 0) (by decide) (by decide) ge_ar ?_
          intro h11 K11 A_ar
          have Z0 := Nat.le_trans Z0 K11.1
          have A_ar : IA Z h11 ar .int 4 (fun i => .int ((fun zi => if zi = 0 then q1 else (fun _ => (0 : Int32)) zi) i)) := A_ar
          refine r_dup C at_200 (pc' := 201) rfl rfl ?_
          refine r_iconst C at_201 (pc' := 202) rfl (z := (1 : Int32)) rfl ?_
          refine r_iload C at_202 (pc' := 204) rfl rfl ?_
          refine r_iastore C at_204 (pc' := 205) rfl A_ar (jn := 1) (by decide) (by decide) ge_ar ?_
          intro h12 K12 A_ar
          have Z0 := Nat.le_trans Z0 K12.1
          have A_ar : IA Z h12 ar .int 4 (fun i => .int ((fun zi => if zi = 1 then q2 else (fun zi => if zi = 0 then q1 else (fun _ => (0 : Int32)) zi) zi) i)) := A_ar
          refine r_dup C at_205 (pc' := 206) rfl rfl ?_
          refine r_iconst C at_206 (pc' := 207) rfl (z := (2 : Int32)) rfl ?_
          refine r_iload C at_207 (pc' := 209) rfl rfl ?_
          refine r_iastore C at_209 (pc' := 210) rfl A_ar (jn := 2) (by decide) (by decide) ge_ar ?_
          intro h13 K13 A_ar
          have Z0 := Nat.le_trans Z0 K13.1
          have A_ar : IA Z h13 ar .int 4 (fun i => .int ((fun zi => if zi = 2 then q3 else (fun zi => if zi = 1 then q2 else (fun zi => if zi = 0 then q1 else (fun _ => (0 : Int32)) zi) zi) zi) i)) := A_ar
          refine r_dup C at_210 (pc' := 211) rfl rfl ?_
          refine r_iconst C at_211 (pc' := 212) rfl (z := (3 : Int32)) rfl ?_
          refine r_iload C at_212 (pc' := 214) rfl rfl ?_
          refine r_iastore C at_214 (pc' := 215) rfl A_ar (jn := 3) (by decide) (by decide) ge_ar ?_
          intro h14 K14 A_ar
          have Z0 := Nat.le_trans Z0 K14.1
          have A_ar : IA Z h14 ar .int 4 (fun i => .int ((fun zi => if zi = 3 then q4 else (fun zi => if zi = 2 then q3 else (fun zi => if zi = 1 then q2 else (fun zi => if zi = 0 then q1 else (fun _ => (0 : Int32)) zi) zi) zi) zi) i)) := A_ar
          refine r_astore C at_215 (pc' := 217) rfl rfl (ls' := #[.val (.int sh), .val (.int a), .val (.int b), .val (.int c1), .val (.int d), .val (.int ex), .val (.int kk), .val (.int mm), .val (.int q1), .val (.int q2), .val (.int q3), .val (.int q4), .val (.int sz), .val (.int ag), .val (.ref ar), .unset, .unset]) rfl ?_
          exact (J217 (h14, ar, _) ⟨Z0, A_ar, fun i hi => by
              have q : i = 0 ∨ i = 1 ∨ i = 2 ∨ i = 3 := by omega
              rcases q with rfl | rfl | rfl | rfl
              · exact hq1
              · exact hq2
              · exact hq3
              · exact hq4⟩).mono (by decide) (by decide)
  rintro ⟨h15, ar, f⟩ ⟨Z0, A_ar, hf⟩
  dsimp only at Z0 A_ar hf ⊢
  show Run _ _ _ _ _ _ _ _ _ _ _ _ _ _ _ h15 1 4 217 #[.val (.int sh), .val (.int a), .val (.int b), .val (.int c1), .val (.int d), .val (.int ex), .val (.int kk), .val (.int mm), .val (.int q1), .val (.int q2), .val (.int q3), .val (.int q4), .val (.int sz), .val (.int ag), .val (.ref ar), .unset, .unset] []
  refine r_iload C at_217 (pc' := 219) rfl rfl ?_
  refine r_iload C at_219 (pc' := 221) rfl rfl ?_
  refine r_aload C at_221 (pc' := 223) rfl rfl rfl ?_
  have hsg : s < g := by omega
  have hg30 : g ≤ 30 := by omega
  have sv0 : ((0 : Int32)).toInt = ((0 : Nat) : Int) := rfl
  have sl0 : 0 ≤ s := by omega
  have sv1 : (q1).toInt = ((p1 : Nat) : Int) := hq1
  have sl1 : p1 ≤ s := by omega
  have sv2 : (q2).toInt = ((p2 : Nat) : Int) := hq2
  have sl2 : p2 ≤ s := by omega
  have sv3 : ((q1 + q2)).toInt = ((p1 + p2 : Nat) : Int) := (own_add32 hq1 hq2 (by omega))
  have sl3 : p1 + p2 ≤ s := by omega
  have sv4 : (q3).toInt = ((p3 : Nat) : Int) := hq3
  have sl4 : p3 ≤ s := by omega
  have sv5 : ((q1 + q3)).toInt = ((p1 + p3 : Nat) : Int) := (own_add32 hq1 hq3 (by omega))
  have sl5 : p1 + p3 ≤ s := by omega
  have sv6 : ((q2 + q3)).toInt = ((p2 + p3 : Nat) : Int) := (own_add32 hq2 hq3 (by omega))
  have sl6 : p2 + p3 ≤ s := by omega
  have sv7 : (((q1 + q2) + q3)).toInt = ((p1 + p2 + p3 : Nat) : Int) := (own_add32 (own_add32 hq1 hq2 (by omega)) hq3 (by omega))
  have sl7 : p1 + p2 + p3 ≤ s := by omega
  have sv8 : (q4).toInt = ((p4 : Nat) : Int) := hq4
  have sl8 : p4 ≤ s := by omega
  have sv9 : ((q1 + q4)).toInt = ((p1 + p4 : Nat) : Int) := (own_add32 hq1 hq4 (by omega))
  have sl9 : p1 + p4 ≤ s := by omega
  have sv10 : ((q2 + q4)).toInt = ((p2 + p4 : Nat) : Int) := (own_add32 hq2 hq4 (by omega))
  have sl10 : p2 + p4 ≤ s := by omega
  have sv11 : (((q1 + q2) + q4)).toInt = ((p1 + p2 + p4 : Nat) : Int) := (own_add32 (own_add32 hq1 hq2 (by omega)) hq4 (by omega))
  have sl11 : p1 + p2 + p4 ≤ s := by omega
  have sv12 : ((q3 + q4)).toInt = ((p3 + p4 : Nat) : Int) := (own_add32 hq3 hq4 (by omega))
  have sl12 : p3 + p4 ≤ s := by omega
  have sv13 : (((q1 + q3) + q4)).toInt = ((p1 + p3 + p4 : Nat) : Int) := (own_add32 (own_add32 hq1 hq3 (by omega)) hq4 (by omega))
  have sl13 : p1 + p3 + p4 ≤ s := by omega
  have sv14 : (((q2 + q3) + q4)).toInt = ((p2 + p3 + p4 : Nat) : Int) := (own_add32 (own_add32 hq2 hq3 (by omega)) hq4 (by omega))
  have sl14 : p2 + p3 + p4 ≤ s := by omega
  have sv15 : ((((q1 + q2) + q3) + q4)).toInt = ((p1 + p2 + p3 + p4 : Nat) : Int) := (own_add32 (own_add32 (own_add32 hq1 hq2 (by omega)) hq3 (by omega)) hq4 (by omega))
  have sl15 : p1 + p2 + p3 + p4 ≤ s := by omega
  refine r_callS (y := (⟨"com/example/bellsplit/bellsplit/search/ImprovedDynamicProgramme", "bestStandsFor", "(II[I)Z"⟩ : MethodName)) (as := [(.int ag), (.int sz), (.ref ar)]) (st := []) C (t2 hw) (t3 hw) (t4 hw) (t5 hw) (by decide) pd1 rfl rfl at_223 (pc' := 226) rfl rfl (W := 0) (Nat.le_of_eq rfl) (rmB l Z a0 hw ag sz ar kk k s g f (own_v p1 p2 p3 p4) h15 n0 A_ar hk hk4 hf (fun i => by unfold own_v; split <;> (try split) <;> (try split) <;> omega) u4 d2 (by omega) (by omega)) (by decide) (by decide) (by decide) (by decide) ?_
  rintro _ _ ⟨⟨bb, rfl, hb⟩, rfl⟩
  show Run _ _ _ _ _ _ _ _ _ _ _ _ _ _ _ h15 1 4 226 #[.val (.int sh), .val (.int a), .val (.int b), .val (.int c1), .val (.int d), .val (.int ex), .val (.int kk), .val (.int mm), .val (.int q1), .val (.int q2), .val (.int q3), .val (.int q4), .val (.int sz), .val (.int ag), .val (.ref ar), .unset, .unset] [(.int bb)]
  refine r_istore C at_226 (pc' := 228) rfl (ls' := #[.val (.int sh), .val (.int a), .val (.int b), .val (.int c1), .val (.int d), .val (.int ex), .val (.int kk), .val (.int mm), .val (.int q1), .val (.int q2), .val (.int q3), .val (.int q4), .val (.int sz), .val (.int ag), .val (.ref ar), .val (.int bb), .unset]) rfl ?_
  have h4 : ∀ t, own_sub (own_v p1 p2 p3 p4) k t = own_sub (own_v p1 p2 p3 p4) 4 t := fun t => by
    rcases hkm with ⟨rfl, -⟩ | ⟨rfl, -⟩ | ⟨rfl, -⟩ | ⟨rfl, -⟩
    · rw [own_zero (i := 3) (hp4z (by decide)), own_zero (i := 2) (hp3z (by decide)), own_zero (i := 1) (hp2z (by decide))]
    · rw [own_zero (i := 3) (hp4z (by decide)), own_zero (i := 2) (hp3z (by decide))]
    · rw [own_zero (i := 3) (hp4z (by decide))]
    · rfl
  simp only [h4] at hb
  replace hb := fun (_ : Unit) => hb
  refine join (α := Int32) (fun jq => bb = jq) (fun jq => h15) 1 4 500 (fun jq => #[.val (.int sh), .val (.int a), .val (.int b), .val (.int c1), .val (.int d), .val (.int ex), .val (.int kk), .val (.int mm), .val (.int q1), .val (.int q2), .val (.int q3), .val (.int q4), .val (.int sz), .val (.int ag), .val (.ref ar), .val (.int bb), .val (.int jq)]) (fun jq => []) ?_ ?_
  rotate_left
  · intro J500
    refine r_iload C at_228 (pc' := 230) rfl rfl ?_
    refine r_iconst C at_230 (pc' := 231) rfl (z := (1 : Int32)) rfl ?_
    refine r_icmpeq C at_231 (pcT := 245) (pcF := 234) (by decide) rfl ?_ ?_
    · intro c231
      have k1 : k = 1 := by rw [c231] at hk; change (1 : Int) = _ at hk; omega
      refine r_iconst C at_245 (pc' := 246) rfl (z := (1 : Int32)) rfl ?_
      refine r_istore C at_246 (pc' := 248) rfl (ls' := #[.val (.int sh), .val (.int a), .val (.int b), .val (.int c1), .val (.int d), .val (.int ex), .val (.int kk), .val (.int mm), .val (.int q1), .val (.int q2), .val (.int q3), .val (.int q4), .val (.int sz), .val (.int ag), .val (.ref ar), .val (.int bb), .val (.int (1 : Int32))]) rfl ?_
      refine r_goto C at_248 (pc' := 500) (by decide) ?_
      exact J500 _ (by
        rcases hb () with ⟨q, -⟩ | ⟨-, n1, n2, n3⟩
        · exact q
        · exact absurd k1 n1)
    · intro c231
      have k1 : k ≠ 1 := fun q => by rw [q] at hk; exact c231 (own_ofInt hk)
      have dd := own_dbl u4 (by omega)
      have da := own_add32 (b := 1) (y := 1) d2 (by decide) (by omega)
      refine r_iconst C at_234 (pc' := 235) rfl (z := (2 : Int32)) rfl ?_
      refine r_iload C at_235 (pc' := 237) rfl rfl ?_
      refine r_imul C at_237 (pc' := 238) rfl (z := ((2 : Int32) * sz)) rfl ?_
      refine r_iload C at_238 (pc' := 240) rfl rfl ?_
      refine r_iconst C at_240 (pc' := 241) rfl (z := (1 : Int32)) rfl ?_
      refine r_iadd C at_241 (pc' := 242) rfl (z := (ag + (1 : Int32))) rfl ?_
      refine r_icmpgt C at_242 (pcT := 251) (pcF := 245) (by decide) rfl ?_ ?_
      rotate_left
      · intro c242
        rw [dd, da] at c242
        have k2 : 2 * s ≤ g + 1 := by omega
        refine r_iconst C at_245 (pc' := 246) rfl (z := (1 : Int32)) rfl ?_
        refine r_istore C at_246 (pc' := 248) rfl (ls' := #[.val (.int sh), .val (.int a), .val (.int b), .val (.int c1), .val (.int d), .val (.int ex), .val (.int kk), .val (.int mm), .val (.int q1), .val (.int q2), .val (.int q3), .val (.int q4), .val (.int sz), .val (.int ag), .val (.ref ar), .val (.int bb), .val (.int (1 : Int32))]) rfl ?_
        refine r_goto C at_248 (pc' := 500) (by decide) ?_
        exact J500 _ (by
          rcases hb () with ⟨q, -⟩ | ⟨-, n1, n2, n3⟩
          · exact q
          · exact absurd k2 n2)
      · intro c242
        rw [dd, da] at c242
        have k2 : ¬ 2 * s ≤ g + 1 := by omega
        refine join (α := Unit) (fun jq => bb = 1) (fun jq => h15) 1 4 493 (fun jq => #[.val (.int sh), .val (.int a), .val (.int b), .val (.int c1), .val (.int d), .val (.int ex), .val (.int kk), .val (.int mm), .val (.int q1), .val (.int q2), .val (.int q3), .val (.int q4), .val (.int sz), .val (.int ag), .val (.ref ar), .val (.int bb), .unset]) (fun jq => []) ?_ ?_
        rotate_left
        · intro J493
          refine r_iconst C at_251 (pc' := 252) rfl (z := (0 : Int32)) rfl ?_
          refine r_iload C at_252 (pc' := 254) rfl rfl ?_
          refine r_iload C at_254 (pc' := 256) rfl rfl ?_
          refine r_callS (y := (⟨"com/example/bellsplit/bellsplit/search/ImprovedDynamicProgrammeBestStandsForPinLaw", "fits", "(III)Z"⟩ : MethodName)) (as := [(.int (0 : Int32)), (.int sz), (.int ag)]) (st := []) C (t9 hw) (t10 hw) (t11 hw) (t12 hw) (by decide) pd2 rfl rfl at_256 (pc' := 259) rfl rfl (W := 0) (Nat.le_of_eq rfl) (rmF l Z a0 hw (0 : Int32) sz ag (0) s g h15 n0 sv0 u4 d2 sl0 hsg hg30) (by decide) (by decide) (by decide) (by decide) ?_
          rintro _ _ ⟨⟨b0, rfl, hin⟩, rfl⟩
          rcases hin with ⟨rfl, hin⟩ | ⟨rfl, hn0⟩
          · skip
            show Run _ _ _ _ _ _ _ _ _ _ _ _ _ _ _ h15 1 4 259 #[.val (.int sh), .val (.int a), .val (.int b), .val (.int c1), .val (.int d), .val (.int ex), .val (.int kk), .val (.int mm), .val (.int q1), .val (.int q2), .val (.int q3), .val (.int q4), .val (.int sz), .val (.int ag), .val (.ref ar), .val (.int bb), .unset] [(.int (1 : Int32))]
            refine r_ifne C at_259 (pcT := 493) (pcF := 262) (by decide) rfl ?_ ?_
            rotate_left
            · intro c259
              first | exact absurd rfl c259 | exact absurd c259 (by decide)
            intro c259
            exact J493 () (by
              rcases hb () with ⟨q, -⟩ | ⟨-, n1, n2, n3⟩
              · exact q
              · exact absurd hin (n3 _ (own_in0 p1 p2 p3 p4)))
          · skip
            show Run _ _ _ _ _ _ _ _ _ _ _ _ _ _ _ h15 1 4 259 #[.val (.int sh), .val (.int a), .val (.int b), .val (.int c1), .val (.int d), .val (.int ex), .val (.int kk), .val (.int mm), .val (.int q1), .val (.int q2), .val (.int q3), .val (.int q4), .val (.int sz), .val (.int ag), .val (.ref ar), .val (.int bb), .unset] [(.int (0 : Int32))]
            refine r_ifne C at_259 (pcT := 493) (pcF := 262) (by decide) rfl ?_ ?_
            · intro c259
              first | exact absurd rfl c259 | exact absurd c259 (by decide)
            intro c259
            refine r_iload C at_262 (pc' := 264) rfl rfl ?_
            refine r_iload C at_264 (pc' := 266) rfl rfl ?_
            refine r_iload C at_266 (pc' := 268) rfl rfl ?_
            refine r_callS (y := (⟨"com/example/bellsplit/bellsplit/search/ImprovedDynamicProgrammeBestStandsForPinLaw", "fits", "(III)Z"⟩ : MethodName)) (as := [(.int q1), (.int sz), (.int ag)]) (st := []) C (t9 hw) (t10 hw) (t11 hw) (t12 hw) (by decide) pd2 rfl rfl at_268 (pc' := 271) rfl rfl (W := 0) (Nat.le_of_eq rfl) (rmF l Z a0 hw q1 sz ag (p1) s g h15 n0 sv1 u4 d2 sl1 hsg hg30) (by decide) (by decide) (by decide) (by decide) ?_
            rintro _ _ ⟨⟨b1, rfl, hin⟩, rfl⟩
            rcases hin with ⟨rfl, hin⟩ | ⟨rfl, hn1⟩
            · skip
              show Run _ _ _ _ _ _ _ _ _ _ _ _ _ _ _ h15 1 4 271 #[.val (.int sh), .val (.int a), .val (.int b), .val (.int c1), .val (.int d), .val (.int ex), .val (.int kk), .val (.int mm), .val (.int q1), .val (.int q2), .val (.int q3), .val (.int q4), .val (.int sz), .val (.int ag), .val (.ref ar), .val (.int bb), .unset] [(.int (1 : Int32))]
              refine r_ifne C at_271 (pcT := 493) (pcF := 274) (by decide) rfl ?_ ?_
              rotate_left
              · intro c271
                first | exact absurd rfl c271 | exact absurd c271 (by decide)
              intro c271
              exact J493 () (by
                rcases hb () with ⟨q, -⟩ | ⟨-, n1, n2, n3⟩
                · exact q
                · exact absurd hin (n3 _ (own_in1 p1 p2 p3 p4)))
            · skip
              show Run _ _ _ _ _ _ _ _ _ _ _ _ _ _ _ h15 1 4 271 #[.val (.int sh), .val (.int a), .val (.int b), .val (.int c1), .val (.int d), .val (.int ex), .val (.int kk), .val (.int mm), .val (.int q1), .val (.int q2), .val (.int q3), .val (.int q4), .val (.int sz), .val (.int ag), .val (.ref ar), .val (.int bb), .unset] [(.int (0 : Int32))]
              refine r_ifne C at_271 (pcT := 493) (pcF := 274) (by decide) rfl ?_ ?_
              · intro c271
                first | exact absurd rfl c271 | exact absurd c271 (by decide)
              intro c271
              refine r_iload C at_274 (pc' := 276) rfl rfl ?_
              refine r_iload C at_276 (pc' := 278) rfl rfl ?_
              refine r_iload C at_278 (pc' := 280) rfl rfl ?_
              refine r_callS (y := (⟨"com/example/bellsplit/bellsplit/search/ImprovedDynamicProgrammeBestStandsForPinLaw", "fits", "(III)Z"⟩ : MethodName)) (as := [(.int q2), (.int sz), (.int ag)]) (st := []) C (t9 hw) (t10 hw) (t11 hw) (t12 hw) (by decide) pd2 rfl rfl at_280 (pc' := 283) rfl rfl (W := 0) (Nat.le_of_eq rfl) (rmF l Z a0 hw q2 sz ag (p2) s g h15 n0 sv2 u4 d2 sl2 hsg hg30) (by decide) (by decide) (by decide) (by decide) ?_
              rintro _ _ ⟨⟨b2, rfl, hin⟩, rfl⟩
              rcases hin with ⟨rfl, hin⟩ | ⟨rfl, hn2⟩
              · skip
                show Run _ _ _ _ _ _ _ _ _ _ _ _ _ _ _ h15 1 4 283 #[.val (.int sh), .val (.int a), .val (.int b), .val (.int c1), .val (.int d), .val (.int ex), .val (.int kk), .val (.int mm), .val (.int q1), .val (.int q2), .val (.int q3), .val (.int q4), .val (.int sz), .val (.int ag), .val (.ref ar), .val (.int bb), .unset] [(.int (1 : Int32))]
                refine r_ifne C at_283 (pcT := 493) (pcF := 286) (by decide) rfl ?_ ?_
                rotate_left
                · intro c283
                  first | exact absurd rfl c283 | exact absurd c283 (by decide)
                intro c283
                exact J493 () (by
                  rcases hb () with ⟨q, -⟩ | ⟨-, n1, n2, n3⟩
                  · exact q
                  · exact absurd hin (n3 _ (own_in2 p1 p2 p3 p4)))
              · skip
                show Run _ _ _ _ _ _ _ _ _ _ _ _ _ _ _ h15 1 4 283 #[.val (.int sh), .val (.int a), .val (.int b), .val (.int c1), .val (.int d), .val (.int ex), .val (.int kk), .val (.int mm), .val (.int q1), .val (.int q2), .val (.int q3), .val (.int q4), .val (.int sz), .val (.int ag), .val (.ref ar), .val (.int bb), .unset] [(.int (0 : Int32))]
                refine r_ifne C at_283 (pcT := 493) (pcF := 286) (by decide) rfl ?_ ?_
                · intro c283
                  first | exact absurd rfl c283 | exact absurd c283 (by decide)
                intro c283
                refine r_iload C at_286 (pc' := 288) rfl rfl ?_
                refine r_iload C at_288 (pc' := 290) rfl rfl ?_
                refine r_iadd C at_290 (pc' := 291) rfl (z := (q1 + q2)) rfl ?_
                refine r_iload C at_291 (pc' := 293) rfl rfl ?_
                refine r_iload C at_293 (pc' := 295) rfl rfl ?_
                refine r_callS (y := (⟨"com/example/bellsplit/bellsplit/search/ImprovedDynamicProgrammeBestStandsForPinLaw", "fits", "(III)Z"⟩ : MethodName)) (as := [(.int (q1 + q2)), (.int sz), (.int ag)]) (st := []) C (t9 hw) (t10 hw) (t11 hw) (t12 hw) (by decide) pd2 rfl rfl at_295 (pc' := 298) rfl rfl (W := 0) (Nat.le_of_eq rfl) (rmF l Z a0 hw (q1 + q2) sz ag (p1 + p2) s g h15 n0 sv3 u4 d2 sl3 hsg hg30) (by decide) (by decide) (by decide) (by decide) ?_
                rintro _ _ ⟨⟨b3, rfl, hin⟩, rfl⟩
                rcases hin with ⟨rfl, hin⟩ | ⟨rfl, hn3⟩
                · skip
                  show Run _ _ _ _ _ _ _ _ _ _ _ _ _ _ _ h15 1 4 298 #[.val (.int sh), .val (.int a), .val (.int b), .val (.int c1), .val (.int d), .val (.int ex), .val (.int kk), .val (.int mm), .val (.int q1), .val (.int q2), .val (.int q3), .val (.int q4), .val (.int sz), .val (.int ag), .val (.ref ar), .val (.int bb), .unset] [(.int (1 : Int32))]
                  refine r_ifne C at_298 (pcT := 493) (pcF := 301) (by decide) rfl ?_ ?_
                  rotate_left
                  · intro c298
                    first | exact absurd rfl c298 | exact absurd c298 (by decide)
                  intro c298
                  exact J493 () (by
                    rcases hb () with ⟨q, -⟩ | ⟨-, n1, n2, n3⟩
                    · exact q
                    · exact absurd hin (n3 _ (own_in3 p1 p2 p3 p4)))
                · skip
                  show Run _ _ _ _ _ _ _ _ _ _ _ _ _ _ _ h15 1 4 298 #[.val (.int sh), .val (.int a), .val (.int b), .val (.int c1), .val (.int d), .val (.int ex), .val (.int kk), .val (.int mm), .val (.int q1), .val (.int q2), .val (.int q3), .val (.int q4), .val (.int sz), .val (.int ag), .val (.ref ar), .val (.int bb), .unset] [(.int (0 : Int32))]
                  refine r_ifne C at_298 (pcT := 493) (pcF := 301) (by decide) rfl ?_ ?_
                  · intro c298
                    first | exact absurd rfl c298 | exact absurd c298 (by decide)
                  intro c298
                  refine r_iload C at_301 (pc' := 303) rfl rfl ?_
                  refine r_iload C at_303 (pc' := 305) rfl rfl ?_
                  refine r_iload C at_305 (pc' := 307) rfl rfl ?_
                  refine r_callS (y := (⟨"com/example/bellsplit/bellsplit/search/ImprovedDynamicProgrammeBestStandsForPinLaw", "fits", "(III)Z"⟩ : MethodName)) (as := [(.int q3), (.int sz), (.int ag)]) (st := []) C (t9 hw) (t10 hw) (t11 hw) (t12 hw) (by decide) pd2 rfl rfl at_307 (pc' := 310) rfl rfl (W := 0) (Nat.le_of_eq rfl) (rmF l Z a0 hw q3 sz ag (p3) s g h15 n0 sv4 u4 d2 sl4 hsg hg30) (by decide) (by decide) (by decide) (by decide) ?_
                  rintro _ _ ⟨⟨b4, rfl, hin⟩, rfl⟩
                  rcases hin with ⟨rfl, hin⟩ | ⟨rfl, hn4⟩
                  · skip
                    show Run _ _ _ _ _ _ _ _ _ _ _ _ _ _ _ h15 1 4 310 #[.val (.int sh), .val (.int a), .val (.int b), .val (.int c1), .val (.int d), .val (.int ex), .val (.int kk), .val (.int mm), .val (.int q1), .val (.int q2), .val (.int q3), .val (.int q4), .val (.int sz), .val (.int ag), .val (.ref ar), .val (.int bb), .unset] [(.int (1 : Int32))]
                    refine r_ifne C at_310 (pcT := 493) (pcF := 313) (by decide) rfl ?_ ?_
                    rotate_left
                    · intro c310
                      first | exact absurd rfl c310 | exact absurd c310 (by decide)
                    intro c310
                    exact J493 () (by
                      rcases hb () with ⟨q, -⟩ | ⟨-, n1, n2, n3⟩
                      · exact q
                      · exact absurd hin (n3 _ (own_in4 p1 p2 p3 p4)))
                  · skip
                    show Run _ _ _ _ _ _ _ _ _ _ _ _ _ _ _ h15 1 4 310 #[.val (.int sh), .val (.int a), .val (.int b), .val (.int c1), .val (.int d), .val (.int ex), .val (.int kk), .val (.int mm), .val (.int q1), .val (.int q2), .val (.int q3), .val (.int q4), .val (.int sz), .val (.int ag), .val (.ref ar), .val (.int bb), .unset] [(.int (0 : Int32))]
                    refine r_ifne C at_310 (pcT := 493) (pcF := 313) (by decide) rfl ?_ ?_
                    · intro c310
                      first | exact absurd rfl c310 | exact absurd c310 (by decide)
                    intro c310
                    refine r_iload C at_313 (pc' := 315) rfl rfl ?_
                    refine r_iload C at_315 (pc' := 317) rfl rfl ?_
                    refine r_iadd C at_317 (pc' := 318) rfl (z := (q1 + q3)) rfl ?_
                    refine r_iload C at_318 (pc' := 320) rfl rfl ?_
                    refine r_iload C at_320 (pc' := 322) rfl rfl ?_
                    refine r_callS (y := (⟨"com/example/bellsplit/bellsplit/search/ImprovedDynamicProgrammeBestStandsForPinLaw", "fits", "(III)Z"⟩ : MethodName)) (as := [(.int (q1 + q3)), (.int sz), (.int ag)]) (st := []) C (t9 hw) (t10 hw) (t11 hw) (t12 hw) (by decide) pd2 rfl rfl at_322 (pc' := 325) rfl rfl (W := 0) (Nat.le_of_eq rfl) (rmF l Z a0 hw (q1 + q3) sz ag (p1 + p3) s g h15 n0 sv5 u4 d2 sl5 hsg hg30) (by decide) (by decide) (by decide) (by decide) ?_
                    rintro _ _ ⟨⟨b5, rfl, hin⟩, rfl⟩
                    rcases hin with ⟨rfl, hin⟩ | ⟨rfl, hn5⟩
                    · skip
                      show Run _ _ _ _ _ _ _ _ _ _ _ _ _ _ _ h15 1 4 325 #[.val (.int sh), .val (.int a), .val (.int b), .val (.int c1), .val (.int d), .val (.int ex), .val (.int kk), .val (.int mm), .val (.int q1), .val (.int q2), .val (.int q3), .val (.int q4), .val (.int sz), .val (.int ag), .val (.ref ar), .val (.int bb), .unset] [(.int (1 : Int32))]
                      refine r_ifne C at_325 (pcT := 493) (pcF := 328) (by decide) rfl ?_ ?_
                      rotate_left
                      · intro c325
                        first | exact absurd rfl c325 | exact absurd c325 (by decide)
                      intro c325
                      exact J493 () (by
                        rcases hb () with ⟨q, -⟩ | ⟨-, n1, n2, n3⟩
                        · exact q
                        · exact absurd hin (n3 _ (own_in5 p1 p2 p3 p4)))
                    · skip
                      show Run _ _ _ _ _ _ _ _ _ _ _ _ _ _ _ h15 1 4 325 #[.val (.int sh), .val (.int a), .val (.int b), .val (.int c1), .val (.int d), .val (.int ex), .val (.int kk), .val (.int mm), .val (.int q1), .val (.int q2), .val (.int q3), .val (.int q4), .val (.int sz), .val (.int ag), .val (.ref ar), .val (.int bb), .unset] [(.int (0 : Int32))]
                      refine r_ifne C at_325 (pcT := 493) (pcF := 328) (by decide) rfl ?_ ?_
                      · intro c325
                        first | exact absurd rfl c325 | exact absurd c325 (by decide)
                      intro c325
                      refine r_iload C at_328 (pc' := 330) rfl rfl ?_
                      refine r_iload C at_330 (pc' := 332) rfl rfl ?_
                      refine r_iadd C at_332 (pc' := 333) rfl (z := (q2 + q3)) rfl ?_
                      refine r_iload C at_333 (pc' := 335) rfl rfl ?_
                      refine r_iload C at_335 (pc' := 337) rfl rfl ?_
                      refine r_callS (y := (⟨"com/example/bellsplit/bellsplit/search/ImprovedDynamicProgrammeBestStandsForPinLaw", "fits", "(III)Z"⟩ : MethodName)) (as := [(.int (q2 + q3)), (.int sz), (.int ag)]) (st := []) C (t9 hw) (t10 hw) (t11 hw) (t12 hw) (by decide) pd2 rfl rfl at_337 (pc' := 340) rfl rfl (W := 0) (Nat.le_of_eq rfl) (rmF l Z a0 hw (q2 + q3) sz ag (p2 + p3) s g h15 n0 sv6 u4 d2 sl6 hsg hg30) (by decide) (by decide) (by decide) (by decide) ?_
                      rintro _ _ ⟨⟨b6, rfl, hin⟩, rfl⟩
                      rcases hin with ⟨rfl, hin⟩ | ⟨rfl, hn6⟩
                      · skip
                        show Run _ _ _ _ _ _ _ _ _ _ _ _ _ _ _ h15 1 4 340 #[.val (.int sh), .val (.int a), .val (.int b), .val (.int c1), .val (.int d), .val (.int ex), .val (.int kk), .val (.int mm), .val (.int q1), .val (.int q2), .val (.int q3), .val (.int q4), .val (.int sz), .val (.int ag), .val (.ref ar), .val (.int bb), .unset] [(.int (1 : Int32))]
                        refine r_ifne C at_340 (pcT := 493) (pcF := 343) (by decide) rfl ?_ ?_
                        rotate_left
                        · intro c340
                          first | exact absurd rfl c340 | exact absurd c340 (by decide)
                        intro c340
                        exact J493 () (by
                          rcases hb () with ⟨q, -⟩ | ⟨-, n1, n2, n3⟩
                          · exact q
                          · exact absurd hin (n3 _ (own_in6 p1 p2 p3 p4)))
                      · skip
                        show Run _ _ _ _ _ _ _ _ _ _ _ _ _ _ _ h15 1 4 340 #[.val (.int sh), .val (.int a), .val (.int b), .val (.int c1), .val (.int d), .val (.int ex), .val (.int kk), .val (.int mm), .val (.int q1), .val (.int q2), .val (.int q3), .val (.int q4), .val (.int sz), .val (.int ag), .val (.ref ar), .val (.int bb), .unset] [(.int (0 : Int32))]
                        refine r_ifne C at_340 (pcT := 493) (pcF := 343) (by decide) rfl ?_ ?_
                        · intro c340
                          first | exact absurd rfl c340 | exact absurd c340 (by decide)
                        intro c340
                        refine r_iload C at_343 (pc' := 345) rfl rfl ?_
                        refine r_iload C at_345 (pc' := 347) rfl rfl ?_
                        refine r_iadd C at_347 (pc' := 348) rfl (z := (q1 + q2)) rfl ?_
                        refine r_iload C at_348 (pc' := 350) rfl rfl ?_
                        refine r_iadd C at_350 (pc' := 351) rfl (z := ((q1 + q2) + q3)) rfl ?_
                        refine r_iload C at_351 (pc' := 353) rfl rfl ?_
                        refine r_iload C at_353 (pc' := 355) rfl rfl ?_
                        refine r_callS (y := (⟨"com/example/bellsplit/bellsplit/search/ImprovedDynamicProgrammeBestStandsForPinLaw", "fits", "(III)Z"⟩ : MethodName)) (as := [(.int ((q1 + q2) + q3)), (.int sz), (.int ag)]) (st := []) C (t9 hw) (t10 hw) (t11 hw) (t12 hw) (by decide) pd2 rfl rfl at_355 (pc' := 358) rfl rfl (W := 0) (Nat.le_of_eq rfl) (rmF l Z a0 hw ((q1 + q2) + q3) sz ag (p1 + p2 + p3) s g h15 n0 sv7 u4 d2 sl7 hsg hg30) (by decide) (by decide) (by decide) (by decide) ?_
                        rintro _ _ ⟨⟨b7, rfl, hin⟩, rfl⟩
                        rcases hin with ⟨rfl, hin⟩ | ⟨rfl, hn7⟩
                        · skip
                          show Run _ _ _ _ _ _ _ _ _ _ _ _ _ _ _ h15 1 4 358 #[.val (.int sh), .val (.int a), .val (.int b), .val (.int c1), .val (.int d), .val (.int ex), .val (.int kk), .val (.int mm), .val (.int q1), .val (.int q2), .val (.int q3), .val (.int q4), .val (.int sz), .val (.int ag), .val (.ref ar), .val (.int bb), .unset] [(.int (1 : Int32))]
                          refine r_ifne C at_358 (pcT := 493) (pcF := 361) (by decide) rfl ?_ ?_
                          rotate_left
                          · intro c358
                            first | exact absurd rfl c358 | exact absurd c358 (by decide)
                          intro c358
                          exact J493 () (by
                            rcases hb () with ⟨q, -⟩ | ⟨-, n1, n2, n3⟩
                            · exact q
                            · exact absurd hin (n3 _ (own_in7 p1 p2 p3 p4)))
                        · skip
                          show Run _ _ _ _ _ _ _ _ _ _ _ _ _ _ _ h15 1 4 358 #[.val (.int sh), .val (.int a), .val (.int b), .val (.int c1), .val (.int d), .val (.int ex), .val (.int kk), .val (.int mm), .val (.int q1), .val (.int q2), .val (.int q3), .val (.int q4), .val (.int sz), .val (.int ag), .val (.ref ar), .val (.int bb), .unset] [(.int (0 : Int32))]
                          refine r_ifne C at_358 (pcT := 493) (pcF := 361) (by decide) rfl ?_ ?_
                          · intro c358
                            first | exact absurd rfl c358 | exact absurd c358 (by decide)
                          intro c358
                          refine r_iload C at_361 (pc' := 363) rfl rfl ?_
                          refine r_iload C at_363 (pc' := 365) rfl rfl ?_
                          refine r_iload C at_365 (pc' := 367) rfl rfl ?_
                          refine r_callS (y := (⟨"com/example/bellsplit/bellsplit/search/ImprovedDynamicProgrammeBestStandsForPinLaw", "fits", "(III)Z"⟩ : MethodName)) (as := [(.int q4), (.int sz), (.int ag)]) (st := []) C (t9 hw) (t10 hw) (t11 hw) (t12 hw) (by decide) pd2 rfl rfl at_367 (pc' := 370) rfl rfl (W := 0) (Nat.le_of_eq rfl) (rmF l Z a0 hw q4 sz ag (p4) s g h15 n0 sv8 u4 d2 sl8 hsg hg30) (by decide) (by decide) (by decide) (by decide) ?_
                          rintro _ _ ⟨⟨b8, rfl, hin⟩, rfl⟩
                          rcases hin with ⟨rfl, hin⟩ | ⟨rfl, hn8⟩
                          · skip
                            show Run _ _ _ _ _ _ _ _ _ _ _ _ _ _ _ h15 1 4 370 #[.val (.int sh), .val (.int a), .val (.int b), .val (.int c1), .val (.int d), .val (.int ex), .val (.int kk), .val (.int mm), .val (.int q1), .val (.int q2), .val (.int q3), .val (.int q4), .val (.int sz), .val (.int ag), .val (.ref ar), .val (.int bb), .unset] [(.int (1 : Int32))]
                            refine r_ifne C at_370 (pcT := 493) (pcF := 373) (by decide) rfl ?_ ?_
                            rotate_left
                            · intro c370
                              first | exact absurd rfl c370 | exact absurd c370 (by decide)
                            intro c370
                            exact J493 () (by
                              rcases hb () with ⟨q, -⟩ | ⟨-, n1, n2, n3⟩
                              · exact q
                              · exact absurd hin (n3 _ (own_in8 p1 p2 p3 p4)))
                          · skip
                            show Run _ _ _ _ _ _ _ _ _ _ _ _ _ _ _ h15 1 4 370 #[.val (.int sh), .val (.int a), .val (.int b), .val (.int c1), .val (.int d), .val (.int ex), .val (.int kk), .val (.int mm), .val (.int q1), .val (.int q2), .val (.int q3), .val (.int q4), .val (.int sz), .val (.int ag), .val (.ref ar), .val (.int bb), .unset] [(.int (0 : Int32))]
                            refine r_ifne C at_370 (pcT := 493) (pcF := 373) (by decide) rfl ?_ ?_
                            · intro c370
                              first | exact absurd rfl c370 | exact absurd c370 (by decide)
                            intro c370
                            refine r_iload C at_373 (pc' := 375) rfl rfl ?_
                            refine r_iload C at_375 (pc' := 377) rfl rfl ?_
                            refine r_iadd C at_377 (pc' := 378) rfl (z := (q1 + q4)) rfl ?_
                            refine r_iload C at_378 (pc' := 380) rfl rfl ?_
                            refine r_iload C at_380 (pc' := 382) rfl rfl ?_
                            refine r_callS (y := (⟨"com/example/bellsplit/bellsplit/search/ImprovedDynamicProgrammeBestStandsForPinLaw", "fits", "(III)Z"⟩ : MethodName)) (as := [(.int (q1 + q4)), (.int sz), (.int ag)]) (st := []) C (t9 hw) (t10 hw) (t11 hw) (t12 hw) (by decide) pd2 rfl rfl at_382 (pc' := 385) rfl rfl (W := 0) (Nat.le_of_eq rfl) (rmF l Z a0 hw (q1 + q4) sz ag (p1 + p4) s g h15 n0 sv9 u4 d2 sl9 hsg hg30) (by decide) (by decide) (by decide) (by decide) ?_
                            rintro _ _ ⟨⟨b9, rfl, hin⟩, rfl⟩
                            rcases hin with ⟨rfl, hin⟩ | ⟨rfl, hn9⟩
                            · skip
                              show Run _ _ _ _ _ _ _ _ _ _ _ _ _ _ _ h15 1 4 385 #[.val (.int sh), .val (.int a), .val (.int b), .val (.int c1), .val (.int d), .val (.int ex), .val (.int kk), .val (.int mm), .val (.int q1), .val (.int q2), .val (.int q3), .val (.int q4), .val (.int sz), .val (.int ag), .val (.ref ar), .val (.int bb), .unset] [(.int (1 : Int32))]
                              refine r_ifne C at_385 (pcT := 493) (pcF := 388) (by decide) rfl ?_ ?_
                              rotate_left
                              · intro c385
                                first | exact absurd rfl c385 | exact absurd c385 (by decide)
                              intro c385
                              exact J493 () (by
                                rcases hb () with ⟨q, -⟩ | ⟨-, n1, n2, n3⟩
                                · exact q
                                · exact absurd hin (n3 _ (own_in9 p1 p2 p3 p4)))
                            · skip
                              show Run _ _ _ _ _ _ _ _ _ _ _ _ _ _ _ h15 1 4 385 #[.val (.int sh), .val (.int a), .val (.int b), .val (.int c1), .val (.int d), .val (.int ex), .val (.int kk), .val (.int mm), .val (.int q1), .val (.int q2), .val (.int q3), .val (.int q4), .val (.int sz), .val (.int ag), .val (.ref ar), .val (.int bb), .unset] [(.int (0 : Int32))]
                              refine r_ifne C at_385 (pcT := 493) (pcF := 388) (by decide) rfl ?_ ?_
                              · intro c385
                                first | exact absurd rfl c385 | exact absurd c385 (by decide)
                              intro c385
                              refine r_iload C at_388 (pc' := 390) rfl rfl ?_
                              refine r_iload C at_390 (pc' := 392) rfl rfl ?_
                              refine r_iadd C at_392 (pc' := 393) rfl (z := (q2 + q4)) rfl ?_
                              refine r_iload C at_393 (pc' := 395) rfl rfl ?_
                              refine r_iload C at_395 (pc' := 397) rfl rfl ?_
                              refine r_callS (y := (⟨"com/example/bellsplit/bellsplit/search/ImprovedDynamicProgrammeBestStandsForPinLaw", "fits", "(III)Z"⟩ : MethodName)) (as := [(.int (q2 + q4)), (.int sz), (.int ag)]) (st := []) C (t9 hw) (t10 hw) (t11 hw) (t12 hw) (by decide) pd2 rfl rfl at_397 (pc' := 400) rfl rfl (W := 0) (Nat.le_of_eq rfl) (rmF l Z a0 hw (q2 + q4) sz ag (p2 + p4) s g h15 n0 sv10 u4 d2 sl10 hsg hg30) (by decide) (by decide) (by decide) (by decide) ?_
                              rintro _ _ ⟨⟨b10, rfl, hin⟩, rfl⟩
                              rcases hin with ⟨rfl, hin⟩ | ⟨rfl, hn10⟩
                              · skip
                                show Run _ _ _ _ _ _ _ _ _ _ _ _ _ _ _ h15 1 4 400 #[.val (.int sh), .val (.int a), .val (.int b), .val (.int c1), .val (.int d), .val (.int ex), .val (.int kk), .val (.int mm), .val (.int q1), .val (.int q2), .val (.int q3), .val (.int q4), .val (.int sz), .val (.int ag), .val (.ref ar), .val (.int bb), .unset] [(.int (1 : Int32))]
                                refine r_ifne C at_400 (pcT := 493) (pcF := 403) (by decide) rfl ?_ ?_
                                rotate_left
                                · intro c400
                                  first | exact absurd rfl c400 | exact absurd c400 (by decide)
                                intro c400
                                exact J493 () (by
                                  rcases hb () with ⟨q, -⟩ | ⟨-, n1, n2, n3⟩
                                  · exact q
                                  · exact absurd hin (n3 _ (own_in10 p1 p2 p3 p4)))
                              · skip
                                show Run _ _ _ _ _ _ _ _ _ _ _ _ _ _ _ h15 1 4 400 #[.val (.int sh), .val (.int a), .val (.int b), .val (.int c1), .val (.int d), .val (.int ex), .val (.int kk), .val (.int mm), .val (.int q1), .val (.int q2), .val (.int q3), .val (.int q4), .val (.int sz), .val (.int ag), .val (.ref ar), .val (.int bb), .unset] [(.int (0 : Int32))]
                                refine r_ifne C at_400 (pcT := 493) (pcF := 403) (by decide) rfl ?_ ?_
                                · intro c400
                                  first | exact absurd rfl c400 | exact absurd c400 (by decide)
                                intro c400
                                refine r_iload C at_403 (pc' := 405) rfl rfl ?_
                                refine r_iload C at_405 (pc' := 407) rfl rfl ?_
                                refine r_iadd C at_407 (pc' := 408) rfl (z := (q1 + q2)) rfl ?_
                                refine r_iload C at_408 (pc' := 410) rfl rfl ?_
                                refine r_iadd C at_410 (pc' := 411) rfl (z := ((q1 + q2) + q4)) rfl ?_
                                refine r_iload C at_411 (pc' := 413) rfl rfl ?_
                                refine r_iload C at_413 (pc' := 415) rfl rfl ?_
                                refine r_callS (y := (⟨"com/example/bellsplit/bellsplit/search/ImprovedDynamicProgrammeBestStandsForPinLaw", "fits", "(III)Z"⟩ : MethodName)) (as := [(.int ((q1 + q2) + q4)), (.int sz), (.int ag)]) (st := []) C (t9 hw) (t10 hw) (t11 hw) (t12 hw) (by decide) pd2 rfl rfl at_415 (pc' := 418) rfl rfl (W := 0) (Nat.le_of_eq rfl) (rmF l Z a0 hw ((q1 + q2) + q4) sz ag (p1 + p2 + p4) s g h15 n0 sv11 u4 d2 sl11 hsg hg30) (by decide) (by decide) (by decide) (by decide) ?_
                                rintro _ _ ⟨⟨b11, rfl, hin⟩, rfl⟩
                                rcases hin with ⟨rfl, hin⟩ | ⟨rfl, hn11⟩
                                · skip
                                  show Run _ _ _ _ _ _ _ _ _ _ _ _ _ _ _ h15 1 4 418 #[.val (.int sh), .val (.int a), .val (.int b), .val (.int c1), .val (.int d), .val (.int ex), .val (.int kk), .val (.int mm), .val (.int q1), .val (.int q2), .val (.int q3), .val (.int q4), .val (.int sz), .val (.int ag), .val (.ref ar), .val (.int bb), .unset] [(.int (1 : Int32))]
                                  refine r_ifne C at_418 (pcT := 493) (pcF := 421) (by decide) rfl ?_ ?_
                                  rotate_left
                                  · intro c418
                                    first | exact absurd rfl c418 | exact absurd c418 (by decide)
                                  intro c418
                                  exact J493 () (by
                                    rcases hb () with ⟨q, -⟩ | ⟨-, n1, n2, n3⟩
                                    · exact q
                                    · exact absurd hin (n3 _ (own_in11 p1 p2 p3 p4)))
                                · skip
                                  show Run _ _ _ _ _ _ _ _ _ _ _ _ _ _ _ h15 1 4 418 #[.val (.int sh), .val (.int a), .val (.int b), .val (.int c1), .val (.int d), .val (.int ex), .val (.int kk), .val (.int mm), .val (.int q1), .val (.int q2), .val (.int q3), .val (.int q4), .val (.int sz), .val (.int ag), .val (.ref ar), .val (.int bb), .unset] [(.int (0 : Int32))]
                                  refine r_ifne C at_418 (pcT := 493) (pcF := 421) (by decide) rfl ?_ ?_
                                  · intro c418
                                    first | exact absurd rfl c418 | exact absurd c418 (by decide)
                                  intro c418
                                  refine r_iload C at_421 (pc' := 423) rfl rfl ?_
                                  refine r_iload C at_423 (pc' := 425) rfl rfl ?_
                                  refine r_iadd C at_425 (pc' := 426) rfl (z := (q3 + q4)) rfl ?_
                                  refine r_iload C at_426 (pc' := 428) rfl rfl ?_
                                  refine r_iload C at_428 (pc' := 430) rfl rfl ?_
                                  refine r_callS (y := (⟨"com/example/bellsplit/bellsplit/search/ImprovedDynamicProgrammeBestStandsForPinLaw", "fits", "(III)Z"⟩ : MethodName)) (as := [(.int (q3 + q4)), (.int sz), (.int ag)]) (st := []) C (t9 hw) (t10 hw) (t11 hw) (t12 hw) (by decide) pd2 rfl rfl at_430 (pc' := 433) rfl rfl (W := 0) (Nat.le_of_eq rfl) (rmF l Z a0 hw (q3 + q4) sz ag (p3 + p4) s g h15 n0 sv12 u4 d2 sl12 hsg hg30) (by decide) (by decide) (by decide) (by decide) ?_
                                  rintro _ _ ⟨⟨b12, rfl, hin⟩, rfl⟩
                                  rcases hin with ⟨rfl, hin⟩ | ⟨rfl, hn12⟩
                                  · skip
                                    show Run _ _ _ _ _ _ _ _ _ _ _ _ _ _ _ h15 1 4 433 #[.val (.int sh), .val (.int a), .val (.int b), .val (.int c1), .val (.int d), .val (.int ex), .val (.int kk), .val (.int mm), .val (.int q1), .val (.int q2), .val (.int q3), .val (.int q4), .val (.int sz), .val (.int ag), .val (.ref ar), .val (.int bb), .unset] [(.int (1 : Int32))]
                                    refine r_ifne C at_433 (pcT := 493) (pcF := 436) (by decide) rfl ?_ ?_
                                    rotate_left
                                    · intro c433
                                      first | exact absurd rfl c433 | exact absurd c433 (by decide)
                                    intro c433
                                    exact J493 () (by
                                      rcases hb () with ⟨q, -⟩ | ⟨-, n1, n2, n3⟩
                                      · exact q
                                      · exact absurd hin (n3 _ (own_in12 p1 p2 p3 p4)))
                                  · skip
                                    show Run _ _ _ _ _ _ _ _ _ _ _ _ _ _ _ h15 1 4 433 #[.val (.int sh), .val (.int a), .val (.int b), .val (.int c1), .val (.int d), .val (.int ex), .val (.int kk), .val (.int mm), .val (.int q1), .val (.int q2), .val (.int q3), .val (.int q4), .val (.int sz), .val (.int ag), .val (.ref ar), .val (.int bb), .unset] [(.int (0 : Int32))]
                                    refine r_ifne C at_433 (pcT := 493) (pcF := 436) (by decide) rfl ?_ ?_
                                    · intro c433
                                      first | exact absurd rfl c433 | exact absurd c433 (by decide)
                                    intro c433
                                    refine r_iload C at_436 (pc' := 438) rfl rfl ?_
                                    refine r_iload C at_438 (pc' := 440) rfl rfl ?_
                                    refine r_iadd C at_440 (pc' := 441) rfl (z := (q1 + q3)) rfl ?_
                                    refine r_iload C at_441 (pc' := 443) rfl rfl ?_
                                    refine r_iadd C at_443 (pc' := 444) rfl (z := ((q1 + q3) + q4)) rfl ?_
                                    refine r_iload C at_444 (pc' := 446) rfl rfl ?_
                                    refine r_iload C at_446 (pc' := 448) rfl rfl ?_
                                    refine r_callS (y := (⟨"com/example/bellsplit/bellsplit/search/ImprovedDynamicProgrammeBestStandsForPinLaw", "fits", "(III)Z"⟩ : MethodName)) (as := [(.int ((q1 + q3) + q4)), (.int sz), (.int ag)]) (st := []) C (t9 hw) (t10 hw) (t11 hw) (t12 hw) (by decide) pd2 rfl rfl at_448 (pc' := 451) rfl rfl (W := 0) (Nat.le_of_eq rfl) (rmF l Z a0 hw ((q1 + q3) + q4) sz ag (p1 + p3 + p4) s g h15 n0 sv13 u4 d2 sl13 hsg hg30) (by decide) (by decide) (by decide) (by decide) ?_
                                    rintro _ _ ⟨⟨b13, rfl, hin⟩, rfl⟩
                                    rcases hin with ⟨rfl, hin⟩ | ⟨rfl, hn13⟩
                                    · skip
                                      show Run _ _ _ _ _ _ _ _ _ _ _ _ _ _ _ h15 1 4 451 #[.val (.int sh), .val (.int a), .val (.int b), .val (.int c1), .val (.int d), .val (.int ex), .val (.int kk), .val (.int mm), .val (.int q1), .val (.int q2), .val (.int q3), .val (.int q4), .val (.int sz), .val (.int ag), .val (.ref ar), .val (.int bb), .unset] [(.int (1 : Int32))]
                                      refine r_ifne C at_451 (pcT := 493) (pcF := 454) (by decide) rfl ?_ ?_
                                      rotate_left
                                      · intro c451
                                        first | exact absurd rfl c451 | exact absurd c451 (by decide)
                                      intro c451
                                      exact J493 () (by
                                        rcases hb () with ⟨q, -⟩ | ⟨-, n1, n2, n3⟩
                                        · exact q
                                        · exact absurd hin (n3 _ (own_in13 p1 p2 p3 p4)))
                                    · skip
                                      show Run _ _ _ _ _ _ _ _ _ _ _ _ _ _ _ h15 1 4 451 #[.val (.int sh), .val (.int a), .val (.int b), .val (.int c1), .val (.int d), .val (.int ex), .val (.int kk), .val (.int mm), .val (.int q1), .val (.int q2), .val (.int q3), .val (.int q4), .val (.int sz), .val (.int ag), .val (.ref ar), .val (.int bb), .unset] [(.int (0 : Int32))]
                                      refine r_ifne C at_451 (pcT := 493) (pcF := 454) (by decide) rfl ?_ ?_
                                      · intro c451
                                        first | exact absurd rfl c451 | exact absurd c451 (by decide)
                                      intro c451
                                      refine r_iload C at_454 (pc' := 456) rfl rfl ?_
                                      refine r_iload C at_456 (pc' := 458) rfl rfl ?_
                                      refine r_iadd C at_458 (pc' := 459) rfl (z := (q2 + q3)) rfl ?_
                                      refine r_iload C at_459 (pc' := 461) rfl rfl ?_
                                      refine r_iadd C at_461 (pc' := 462) rfl (z := ((q2 + q3) + q4)) rfl ?_
                                      refine r_iload C at_462 (pc' := 464) rfl rfl ?_
                                      refine r_iload C at_464 (pc' := 466) rfl rfl ?_
                                      refine r_callS (y := (⟨"com/example/bellsplit/bellsplit/search/ImprovedDynamicProgrammeBestStandsForPinLaw", "fits", "(III)Z"⟩ : MethodName)) (as := [(.int ((q2 + q3) + q4)), (.int sz), (.int ag)]) (st := []) C (t9 hw) (t10 hw) (t11 hw) (t12 hw) (by decide) pd2 rfl rfl at_466 (pc' := 469) rfl rfl (W := 0) (Nat.le_of_eq rfl) (rmF l Z a0 hw ((q2 + q3) + q4) sz ag (p2 + p3 + p4) s g h15 n0 sv14 u4 d2 sl14 hsg hg30) (by decide) (by decide) (by decide) (by decide) ?_
                                      rintro _ _ ⟨⟨b14, rfl, hin⟩, rfl⟩
                                      rcases hin with ⟨rfl, hin⟩ | ⟨rfl, hn14⟩
                                      · skip
                                        show Run _ _ _ _ _ _ _ _ _ _ _ _ _ _ _ h15 1 4 469 #[.val (.int sh), .val (.int a), .val (.int b), .val (.int c1), .val (.int d), .val (.int ex), .val (.int kk), .val (.int mm), .val (.int q1), .val (.int q2), .val (.int q3), .val (.int q4), .val (.int sz), .val (.int ag), .val (.ref ar), .val (.int bb), .unset] [(.int (1 : Int32))]
                                        refine r_ifne C at_469 (pcT := 493) (pcF := 472) (by decide) rfl ?_ ?_
                                        rotate_left
                                        · intro c469
                                          first | exact absurd rfl c469 | exact absurd c469 (by decide)
                                        intro c469
                                        exact J493 () (by
                                          rcases hb () with ⟨q, -⟩ | ⟨-, n1, n2, n3⟩
                                          · exact q
                                          · exact absurd hin (n3 _ (own_in14 p1 p2 p3 p4)))
                                      · skip
                                        show Run _ _ _ _ _ _ _ _ _ _ _ _ _ _ _ h15 1 4 469 #[.val (.int sh), .val (.int a), .val (.int b), .val (.int c1), .val (.int d), .val (.int ex), .val (.int kk), .val (.int mm), .val (.int q1), .val (.int q2), .val (.int q3), .val (.int q4), .val (.int sz), .val (.int ag), .val (.ref ar), .val (.int bb), .unset] [(.int (0 : Int32))]
                                        refine r_ifne C at_469 (pcT := 493) (pcF := 472) (by decide) rfl ?_ ?_
                                        · intro c469
                                          first | exact absurd rfl c469 | exact absurd c469 (by decide)
                                        intro c469
                                        refine r_iload C at_472 (pc' := 474) rfl rfl ?_
                                        refine r_iload C at_474 (pc' := 476) rfl rfl ?_
                                        refine r_iadd C at_476 (pc' := 477) rfl (z := (q1 + q2)) rfl ?_
                                        refine r_iload C at_477 (pc' := 479) rfl rfl ?_
                                        refine r_iadd C at_479 (pc' := 480) rfl (z := ((q1 + q2) + q3)) rfl ?_
                                        refine r_iload C at_480 (pc' := 482) rfl rfl ?_
                                        refine r_iadd C at_482 (pc' := 483) rfl (z := (((q1 + q2) + q3) + q4)) rfl ?_
                                        refine r_iload C at_483 (pc' := 485) rfl rfl ?_
                                        refine r_iload C at_485 (pc' := 487) rfl rfl ?_
                                        refine r_callS (y := (⟨"com/example/bellsplit/bellsplit/search/ImprovedDynamicProgrammeBestStandsForPinLaw", "fits", "(III)Z"⟩ : MethodName)) (as := [(.int (((q1 + q2) + q3) + q4)), (.int sz), (.int ag)]) (st := []) C (t9 hw) (t10 hw) (t11 hw) (t12 hw) (by decide) pd2 rfl rfl at_487 (pc' := 490) rfl rfl (W := 0) (Nat.le_of_eq rfl) (rmF l Z a0 hw (((q1 + q2) + q3) + q4) sz ag (p1 + p2 + p3 + p4) s g h15 n0 sv15 u4 d2 sl15 hsg hg30) (by decide) (by decide) (by decide) (by decide) ?_
                                        rintro _ _ ⟨⟨b15, rfl, hin⟩, rfl⟩
                                        rcases hin with ⟨rfl, hin⟩ | ⟨rfl, hn15⟩
                                        · skip
                                          show Run _ _ _ _ _ _ _ _ _ _ _ _ _ _ _ h15 1 4 490 #[.val (.int sh), .val (.int a), .val (.int b), .val (.int c1), .val (.int d), .val (.int ex), .val (.int kk), .val (.int mm), .val (.int q1), .val (.int q2), .val (.int q3), .val (.int q4), .val (.int sz), .val (.int ag), .val (.ref ar), .val (.int bb), .unset] [(.int (1 : Int32))]
                                          refine r_ifeq C at_490 (pcT := 497) (pcF := 493) (by decide) rfl ?_ ?_
                                          · intro c490
                                            first | exact absurd rfl c490 | exact absurd c490 (by decide)
                                          intro c490
                                          exact J493 () (by
                                            rcases hb () with ⟨q, -⟩ | ⟨-, n1, n2, n3⟩
                                            · exact q
                                            · exact absurd hin (n3 _ (own_in15 p1 p2 p3 p4)))
                                        · skip
                                          show Run _ _ _ _ _ _ _ _ _ _ _ _ _ _ _ h15 1 4 490 #[.val (.int sh), .val (.int a), .val (.int b), .val (.int c1), .val (.int d), .val (.int ex), .val (.int kk), .val (.int mm), .val (.int q1), .val (.int q2), .val (.int q3), .val (.int q4), .val (.int sz), .val (.int ag), .val (.ref ar), .val (.int bb), .unset] [(.int (0 : Int32))]
                                          refine r_ifeq C at_490 (pcT := 497) (pcF := 493) (by decide) rfl ?_ ?_
                                          rotate_left
                                          · intro c490
                                            first | exact absurd rfl c490 | exact absurd c490 (by decide)
                                          intro c490
                                          refine r_iconst C at_497 (pc' := 498) rfl (z := (0 : Int32)) rfl ?_
                                          refine r_istore C at_498 (pc' := 500) rfl (ls' := #[.val (.int sh), .val (.int a), .val (.int b), .val (.int c1), .val (.int d), .val (.int ex), .val (.int kk), .val (.int mm), .val (.int q1), .val (.int q2), .val (.int q3), .val (.int q4), .val (.int sz), .val (.int ag), .val (.ref ar), .val (.int bb), .val (.int (0 : Int32))]) rfl ?_
                                          exact J500 _ (by
                                            rcases hb () with ⟨-, q | q | ⟨t, ht, q⟩⟩ | ⟨q, -⟩
                                            · exact absurd q k1
                                            · exact absurd q k2
                                            · rcases own_le16 ht with rfl | rfl | rfl | rfl | rfl | rfl | rfl | rfl | rfl | rfl | rfl | rfl | rfl | rfl | rfl | rfl
                                              · exact absurd q hn0
                                              · exact absurd q hn1
                                              · exact absurd q hn2
                                              · exact absurd q hn3
                                              · exact absurd q hn4
                                              · exact absurd q hn5
                                              · exact absurd q hn6
                                              · exact absurd q hn7
                                              · exact absurd q hn8
                                              · exact absurd q hn9
                                              · exact absurd q hn10
                                              · exact absurd q hn11
                                              · exact absurd q hn12
                                              · exact absurd q hn13
                                              · exact absurd q hn14
                                              · exact absurd q hn15
                                            · exact q)
        rintro _ hb1
        show Run _ _ _ _ _ _ _ _ _ _ _ _ _ _ _ h15 1 4 493 #[.val (.int sh), .val (.int a), .val (.int b), .val (.int c1), .val (.int d), .val (.int ex), .val (.int kk), .val (.int mm), .val (.int q1), .val (.int q2), .val (.int q3), .val (.int q4), .val (.int sz), .val (.int ag), .val (.ref ar), .val (.int bb), .unset] []
        refine r_iconst C at_493 (pc' := 494) rfl (z := (1 : Int32)) rfl ?_
        refine r_goto C at_494 (pc' := 498) (by decide) ?_
        refine r_istore C at_498 (pc' := 500) rfl (ls' := #[.val (.int sh), .val (.int a), .val (.int b), .val (.int c1), .val (.int d), .val (.int ex), .val (.int kk), .val (.int mm), .val (.int q1), .val (.int q2), .val (.int q3), .val (.int q4), .val (.int sz), .val (.int ag), .val (.ref ar), .val (.int bb), .val (.int (1 : Int32))]) rfl ?_
        exact J500 _ hb1
  rintro q hq
  cases hq
  show Run _ _ _ _ _ _ _ _ _ _ _ _ _ _ _ h15 1 4 500 #[.val (.int sh), .val (.int a), .val (.int b), .val (.int c1), .val (.int d), .val (.int ex), .val (.int kk), .val (.int mm), .val (.int q1), .val (.int q2), .val (.int q3), .val (.int q4), .val (.int sz), .val (.int ag), .val (.ref ar), .val (.int bb), .val (.int bb)] []
  refine r_iload C at_500 (pc' := 502) rfl rfl ?_
  refine r_iload C at_502 (pc' := 504) rfl rfl ?_
  refine r_icmpne C at_504 (pcT := 511) (pcF := 507) (by decide) rfl ?_ ?_
  · intro c504
    exact absurd rfl c504
  intro c504
  refine r_iconst C at_507 (pc' := 508) rfl (z := (1 : Int32)) rfl ?_
  refine r_goto C at_508 (pc' := 512) (by decide) ?_
  exact r_ireturnN (t := .boolean) (by simp) C at_512 rfl (by decide) (by decide)
set_option maxRecDepth 65536 in
set_option maxHeartbeats 40000000 in
theorem comes_1 {Post : Tables → Env → Array Value → State → Outcome → State → Prop} (hpost : ∀ tb e args s v u, (limb_1_1.after args s (.returned v) u = true ∧ limb_1_2.after args s (.returned v) u = true ∧ True) → FrameEnd s (.returned v) u (Jvm.fieldLocs frame_1_writes args s ++ Jvm.arrayLocs frame_1_arrays args s ++ Jvm.staticLocs frame_1_statics s) 16 128 → Post tb e args s (.returned v) u) :
    ArmFor flags0 classFile x code maxLocals ret World_1 tables_1 room_1 Calls_1 rest_1 Pre_1 Post := by
  intro l hfl _ _ p e ha hc hk s m args below hf hA hF happ hP
  obtain ⟨hcalls, hrest, hpre⟩ := hP
  obtain ⟨-, -, -, hnamed, -, -, -, hat⟩ := (Spec.applies_iff hf).mp happ
  obtain ⟨hg, hn⟩ := and_e (Cond.before_iff.mp (show (Jvm.Cond.and given_1 narrow_1).before args s = true from hpre))
  obtain ⟨g0, k0⟩ := and_e hg
  obtain ⟨w0, w1, w2, w3, w4, w5, rfl⟩ : ∃ w0 w1 w2 w3 w4 w5 : Value, args = #[w0, w1, w2, w3, w4, w5] := by
    have hs : args.size = 6 := by simpa [Cond.value, given_1] using g0
    obtain ⟨L⟩ := args
    match L, hs with
    | [w0, w1, w2, w3, w4, w5], _ => exact ⟨w0, w1, w2, w3, w4, w5, rfl⟩
  have hw := fun d (hd : d ∈ tables_1) => atoms_spec (ws := Jvm.Cond.code x code maxLocals ret :: tables_1) hat d (List.mem_cons_of_mem _ hd)
  obtain ⟨j0, k1⟩ := and_e k0
  obtain ⟨i0, e0⟩ := is_v j0
  obtain rfl : w0 = (.int i0) := Option.some.inj e0
  obtain ⟨j1, k2⟩ := and_e k1
  obtain ⟨i1, e1⟩ := is_v j1
  obtain rfl : w1 = (.int i1) := Option.some.inj e1
  obtain ⟨j2, k3⟩ := and_e k2
  obtain ⟨i2, e2⟩ := is_v j2
  obtain rfl : w2 = (.int i2) := Option.some.inj e2
  obtain ⟨j3, k4⟩ := and_e k3
  obtain ⟨i3, e3⟩ := is_v j3
  obtain rfl : w3 = (.int i3) := Option.some.inj e3
  obtain ⟨j4, k5⟩ := and_e k4
  obtain ⟨i4, e4⟩ := is_v j4
  obtain rfl : w4 = (.int i4) := Option.some.inj e4
  have j5 := k5
  obtain ⟨i5, e5⟩ := is_v j5
  obtain rfl : w5 = (.int i5) := Option.some.inj e5
  obtain ⟨n, o, h1, h2, h3, _, L, rfl, ⟨rfl, N⟩, hq⟩ := rm0 l s _ hw i0 i1 i2 i3 i4 i5 s.heap s.heap.size (Nat.le_refl _) tables_1 p e ha hc hk s m _ below hf ((Spec.applies_iff_loose hf).mp happ).1 ⟨rfl, State.Warmed39.refl s, rfl⟩ trivial
  refine ⟨n, _, h1, h2, h3, hpost _ _ _ _ _ _ ⟨Cond.after_iff.mpr rfl, Cond.after_iff.mpr (eq_i res_at (Term.int_eval (1)) rfl), trivial⟩ ⟨hq.1, hq.2.1, (hq.2.2.sift fun y hy => Or.inr (N y hy)).mono (by decide) (by decide)⟩⟩
theorem main_1_1 : Claimed_1_1 := comes_1 fun _ _ _ _ _ _ h hF => ⟨h.1, hF⟩
theorem main_1_2 : Claimed_1_2 := comes_1 fun _ _ _ _ _ _ h hF => ⟨h.2.1, hF⟩
end Jvm.Pilot.@@N@@
namespace Jvm.Pilot.@@N@@
open Jvm Jvm.ClassFile Sem Op Lib Jvm.Free Jvm.Stand Jvm.Pilot.@@N@@.Jvm.D
/-! MADE BY PROGRAM (witnessworld.py) out of the Statement's table words and the real class files: 9 classes; the members and pool entries that the words name. The judged class is class 1, her method 1. -/
namespace start1
open Jvm.ClassFile
def u (s : String) : CpInfo := .utf8 (stringToUtf16 s)
/-- a pool by its gaps: so many unusable entries, then the entry; so many at the end -/
def gap : Nat → List CpInfo → List CpInfo
  | 0, r => r
  | n + 1, r => .unusable :: gap n r
def poolList (es : List (Nat × CpInfo)) (last : Nat) : List CpInfo := es.foldr (fun e r => gap e.1 (e.2 :: r)) (gap last [])
def pool (es : List (Nat × CpInfo)) (last : Nat) : Array CpInfo := ⟨poolList es last⟩
def fileOf (pool : Array CpInfo) (this : Nat) (attrs : Array Attribute := #[]) (ms : Array MethodInfo := #[]) (fl : Nat := 33) (sup : Nat := 0) (ifs : Array Nat := #[]) (fds : Array FieldInfo := #[]) : ClassFile where
  minorVersion := 0
  majorVersion := 65
  constantPool := pool
  accessFlags := fl
  thisClass := this
  superClass := sup
  interfaces := ifs
  fields := fds
  methods := ms
  attributes := attrs
def plain (name : String) (sup : Option ClassId) : Class where
  name := name
  kind := .ordinary
  loader := none
  accessFlags := 33
  super := sup
  interfaces := #[]
  cf := none
  fields := #[]
  methods := #[]
  instanceTypes := #[]
  staticTypes := #[]
  resolved := #[]
  callSites := []
  init := .initialized
  statics := none
  mirror := none

def pool0 : Array CpInfo := pool [(5, u "<init>"), (0, u "()V"), (1, .class_ 10), (1, u "java/lang/Object")] 113

def k0m0 : Method := { name := "<init>", desc := "()V", sig := { parameters := [], returnType := none }, accessFlags := 1, code := none }
/-- java/lang/Object -/
def k0 : Class := { plain "java/lang/Object" none with
  accessFlags := 33
  interfaces := #[]
  cf := some (fileOf pool0 8 #[] #[{ accessFlags := 1, nameIndex := 5, descriptorIndex := 6, attributes := #[] }] 33 0 #[] #[])
  fields := #[]
  methods := #[k0m0]
  instanceTypes := #[]
  staticTypes := #[]
  resolved := Array.replicate 124 none
  statics := none }

def pool1 : Array CpInfo := pool [(2, .class_ 4), (1, u "java/lang/Object"), (0, u "<init>"), (0, u "()V"), (0, .integer 2147483647), (0, .methodref 9 10), (0, .class_ 11), (0, .nameAndType 12 13), (0, u "com/example/bellsplit/bellsplit/search/ImprovedDynamicProgramme"), (0, u "bestStandsFor"), (0, u "(II[I)Z"), (0, .methodref 15 16), (0, .class_ 17), (0, .nameAndType 18 19), (0, u "com/example/bellsplit/bellsplit/search/ImprovedDynamicProgrammeBestStandsForPinLaw"), (0, u "fits"), (0, u "(III)Z"), (2, u "law"), (0, u "(IIIIII)Z")] 5

def k1m0 : Method := { name := "<init>", desc := "()V", sig := { parameters := [], returnType := none }, accessFlags := 1, code := none }
def k1c1 : Code := { maxStack := 4, maxLocals := 17, code := code, exceptionTable := #[], attributes := #[] }
def k1m1 : Method := { name := "law", desc := "(IIIIII)Z", sig := { parameters := [.int, .int, .int, .int, .int, .int], returnType := some .boolean }, accessFlags := 9, code := some k1c1 }
def k1c2 : Code := { maxStack := 3, maxLocals := 3, code := method_3_code, exceptionTable := #[], attributes := #[] }
def k1m2 : Method := { name := "fits", desc := "(III)Z", sig := { parameters := [.int, .int, .int], returnType := some .boolean }, accessFlags := 10, code := some k1c2 }
/-- com/example/bellsplit/bellsplit/search/ImprovedDynamicProgrammeBestStandsForPinLaw -/
def k1 : Class := { plain "com/example/bellsplit/bellsplit/search/ImprovedDynamicProgrammeBestStandsForPinLaw" (some 0) with
  accessFlags := 49
  interfaces := #[]
  cf := some (fileOf pool1 15 #[] #[{ accessFlags := 1, nameIndex := 5, descriptorIndex := 6, attributes := #[] }, { accessFlags := 9, nameIndex := 22, descriptorIndex := 23, attributes := #[] }, { accessFlags := 10, nameIndex := 18, descriptorIndex := 19, attributes := #[] }] 49 2 #[] #[])
  fields := #[]
  methods := #[k1m0, k1m1, k1m2]
  instanceTypes := #[]
  staticTypes := #[]
  resolved := Array.replicate 29 none
  statics := none }

def pool2 : Array CpInfo := pool [(2, .class_ 4), (1, u "java/lang/Object"), (3, .class_ 10), (1, u "com/example/bellsplit/bellsplit/search/ImprovedDynamicProgramme"), (0, u "values"), (0, u "Lcom/example/bellsplit/bellsplit/model/CoalitionValues;"), (4, u "agents"), (3, u "I"), (5, u "all"), (2, u "best"), (0, u "[D"), (7, u "bests"), (0, u "Lcom/example/bellsplit/bellsplit/model/GreatestBySize;"), (9, u "evaluated"), (8, .class_ 60), (0, u "com/example/bellsplit/bellsplit/search/ImprovedDynamicProgramme$Result"), (11, u "splittings"), (0, u "J"), (20, u "(I)I"), (2, u "stopped"), (0, u "Z"), (13, .methodref 8 113), (0, .nameAndType 114 94), (0, u "exactUpTo"), (16, u "bestStandsFor"), (0, u "(II[I)Z")] 54

def k2c0 : Code := { maxStack := 2, maxLocals := 1, code := prog_74_method_5_code, exceptionTable := #[], attributes := #[] }
def k2m0 : Method := { name := "exactUpTo", desc := "(I)I", sig := { parameters := [.int], returnType := some .int }, accessFlags := 8, code := some k2c0 }
def k2c1 : Code := { maxStack := 6, maxLocals := 9, code := prog_74_method_12_code, exceptionTable := #[], attributes := #[] }
def k2m1 : Method := { name := "bestStandsFor", desc := "(II[I)Z", sig := { parameters := [.int, .int, (.array .int)], returnType := some .boolean }, accessFlags := 8, code := some k2c1 }
/-- com/example/bellsplit/bellsplit/search/ImprovedDynamicProgramme -/
def k2 : Class := { plain "com/example/bellsplit/bellsplit/search/ImprovedDynamicProgramme" (some 0) with
  accessFlags := 49
  interfaces := #[]
  cf := some (fileOf pool2 8 #[.nestMembers #[59]] #[{ accessFlags := 8, nameIndex := 114, descriptorIndex := 94, attributes := #[] }, { accessFlags := 8, nameIndex := 131, descriptorIndex := 132, attributes := #[] }] 49 2 #[] #[{ accessFlags := 18, nameIndex := 11, descriptorIndex := 12, attributes := #[] }, { accessFlags := 18, nameIndex := 17, descriptorIndex := 21, attributes := #[] }, { accessFlags := 18, nameIndex := 27, descriptorIndex := 21, attributes := #[] }, { accessFlags := 18, nameIndex := 30, descriptorIndex := 31, attributes := #[] }, { accessFlags := 18, nameIndex := 39, descriptorIndex := 40, attributes := #[] }, { accessFlags := 2, nameIndex := 72, descriptorIndex := 73, attributes := #[] }, { accessFlags := 2, nameIndex := 50, descriptorIndex := 21, attributes := #[] }, { accessFlags := 66, nameIndex := 97, descriptorIndex := 98, attributes := #[] }])
  fields := #[{ name := "values", type := (.object "com/example/bellsplit/bellsplit/model/CoalitionValues"), accessFlags := 18, slot := 0, constantValue := 0 }, { name := "agents", type := .int, accessFlags := 18, slot := 1, constantValue := 0 }, { name := "all", type := .int, accessFlags := 18, slot := 2, constantValue := 0 }, { name := "best", type := (.array .double), accessFlags := 18, slot := 3, constantValue := 0 }, { name := "bests", type := (.object "com/example/bellsplit/bellsplit/model/GreatestBySize"), accessFlags := 18, slot := 4, constantValue := 0 }, { name := "splittings", type := .long, accessFlags := 2, slot := 5, constantValue := 0 }, { name := "evaluated", type := .int, accessFlags := 2, slot := 6, constantValue := 0 }, { name := "stopped", type := .boolean, accessFlags := 66, slot := 7, constantValue := 0 }]
  methods := #[k2m0, k2m1]
  instanceTypes := #[(.object "com/example/bellsplit/bellsplit/model/CoalitionValues"), .int, .int, (.array .double), (.object "com/example/bellsplit/bellsplit/model/GreatestBySize"), .long, .int, .boolean]
  staticTypes := #[]
  resolved := Array.replicate 187 none
  statics := none }

def pool3 : Array CpInfo := pool [(1, u "java/lang/Cloneable"), (0, .class_ 1), (0, u "java/lang/Object"), (0, .class_ 3)] 3

/-- java/lang/Cloneable -/
def k3 : Class := { plain "java/lang/Cloneable" (some 0) with
  accessFlags := 1537
  interfaces := #[]
  cf := some (fileOf pool3 2 #[] #[] 1537 4 #[] #[])
  fields := #[]
  methods := #[]
  instanceTypes := #[]
  staticTypes := #[]
  resolved := Array.replicate 8 none
  statics := none }

def pool4 : Array CpInfo := pool [(1, u "java/io/Serializable"), (0, .class_ 1), (0, u "java/lang/Object"), (0, .class_ 3)] 3

/-- java/io/Serializable -/
def k4 : Class := { plain "java/io/Serializable" (some 0) with
  accessFlags := 1537
  interfaces := #[]
  cf := some (fileOf pool4 2 #[] #[] 1537 4 #[] #[])
  fields := #[]
  methods := #[]
  instanceTypes := #[]
  staticTypes := #[]
  resolved := Array.replicate 8 none
  statics := none }

/-- the primitive byte -/
def k5 : Class := { plain "byte" none with kind := .primitive 'B', accessFlags := 0x411 }
/-- [B -/
def k6 : Class := { plain "[B" (some 0) with kind := .array 5 .byte, interfaces := #[3, 4], accessFlags := 1041 }

/-- the primitive int -/
def k7 : Class := { plain "int" none with kind := .primitive 'I', accessFlags := 0x411 }
/-- [I -/
def k8 : Class := { plain "[I" (some 0) with kind := .array 7 .int, interfaces := #[3, 4], accessFlags := 1041 }

def heap : Heap := #[]
def classes : Array Class := #[k0, k1, k2, k3, k4, k5, k6, k7, k8]
def interned : List (Array UInt16 × Addr) := []
def slotsUsed : Nat := 0
def theMethod : MethodId := ⟨1, 1⟩
def args0 : Array Value := #[.int 5, .int 5, .int 5, .int 5, .int 5, .int 5]
def aboutOver (below : List Frame) : State where
  vm := { classes := classes, interned := interned.toArray }
  heap := heap
  slotsUsed := slotsUsed
  threads := #[{ frames := .invoking theMethod args0 :: below }]
def below0 : List Frame := [.native { method := ⟨0, 0⟩, args := #[] }]
def about1 : State := aboutOver below0
def p0 : Program := .bare "" "" ""
def e0 : Env := launch0.env 0 0 0
theorem w_frames : about1.frames = Frame.invoking theMethod args0 :: below0 := rfl
set_option maxRecDepth 65536 in
theorem w_args : argsFit about1.vm theMethod args0 = true := by decide +kernel
set_option maxRecDepth 65536 in
theorem w_heap : heapFits about1 = true := by decide +kernel
set_option maxRecDepth 65536 in
theorem w_runnable : about1.curStatus? = some .runnable := by decide +kernel
set_option maxRecDepth 65536 in
theorem w_alone : about1.alone = true := by decide +kernel
set_option maxRecDepth 65536 in
theorem w_named : about1.methodNamed? x = some theMethod := by decide +kernel
set_option maxRecDepth 65536 in
theorem w_hears : about1.hears theMethod below0 = true := by decide +kernel
set_option maxRecDepth 65536 in
theorem w_ripe : about1.ripe theMethod args0 below0 = true := by decide +kernel
theorem w_running : about1.status = .running := rfl
set_option maxRecDepth 65536 in
theorem w_room : about1.hasRoom e0.platform room_1 = true :=
  launch0.hasRoom_least _ room_1 (by decide +kernel) (by decide +kernel) (by decide +kernel) (by decide +kernel) (by decide +kernel) (by decide +kernel)
theorem allAtoms_all (ts : List Jvm.Cond) (a : Array Jvm.Value) (st : Jvm.State) : (allAtoms ts).before a st = ts.all (fun c => c.before a st) := by
  induction ts with
  | nil => rfl
  | cons c t ih =>
    show (Jvm.Cond.and c (allAtoms t)).before a st = _
    rw [Jvm.Cond.before_and, ih, List.all_cons]
def words1 : List Jvm.Cond := Jvm.Cond.code x code maxLocals ret :: tables_1
/-- a 'code' word, met by the world's own term for the bytes: nothing is compared byte by byte -/
theorem code_word {y : MethodName} {bytes : ByteArray} {mx : Nat} {rt : Option FieldType} {a : Array Value} {s : State} {m : MethodId} {meth : Method} {c : Code} (h1 : s.methodNamed? y = some m) (h2 : s.vm.method? m = some meth) (h3 : meth.code = some c) (h4 : c.code = bytes)
    (h5 : (c.maxLocals == mx && c.exceptionTable.isEmpty && decide (c.maxStack ≤ mostOperands) && decide (meth.sig.returnType = rt) && !meth.locks && decide (parseMethodDescriptor y.desc = some meth.sig)) = true) : (Jvm.Cond.code y bytes mx rt).before a s = true := by
  simp only [Bool.and_eq_true, beq_iff_eq, Bool.not_eq_true', decide_eq_true_eq] at h5
  obtain ⟨⟨⟨⟨⟨g1, g2⟩, g3⟩, g4⟩, g5⟩, g6⟩ := h5
  simp [Cond.before, Cond.holds, Cond.value, h1, h2, h3, h4, g1, g2, g3, g4, g5, g6]
def isCode : Jvm.Cond → Bool
  | .code _ _ _ _ => true
  | _ => false
theorem all_split {L : List Jvm.Cond} {P : Jvm.Cond → Bool} (h1 : L.all (fun c => isCode c || P c) = true) (h2 : ∀ c ∈ L.filter isCode, P c = true) : L.all P = true := by
  refine List.all_eq_true.mpr fun c hc => ?_
  have h := List.all_eq_true.mp h1 c hc
  rcases Bool.eq_false_or_eq_true (isCode c) with hi | hi
  · exact h2 c (List.mem_filter.mpr ⟨hc, hi⟩)
  · simpa [hi] using h
set_option maxRecDepth 65536 in
theorem w_c0 : (Jvm.Cond.code x code maxLocals ret).before args0 about1 = true := code_word (m := ⟨1, 1⟩) (meth := k1m1) (c := k1c1) (by decide +kernel) rfl rfl rfl (by decide +kernel)
set_option maxRecDepth 65536 in
theorem w_c1 : (Jvm.Cond.code ({ cls := "com/example/bellsplit/bellsplit/search/ImprovedDynamicProgramme", name := "bestStandsFor", desc := "(II[I)Z" } : Jvm.MethodName) prog_74_method_12_code (9 : Nat) (Option.some Jvm.ClassFile.FieldType.boolean)).before args0 about1 = true := code_word (m := ⟨2, 1⟩) (meth := k2m1) (c := k2c1) (by decide +kernel) rfl rfl rfl (by decide +kernel)
set_option maxRecDepth 65536 in
theorem w_c2 : (Jvm.Cond.code ({ cls := "com/example/bellsplit/bellsplit/search/ImprovedDynamicProgramme", name := "exactUpTo", desc := "(I)I" } : Jvm.MethodName) prog_74_method_5_code (1 : Nat) (Option.some Jvm.ClassFile.FieldType.int)).before args0 about1 = true := code_word (m := ⟨2, 0⟩) (meth := k2m0) (c := k2c0) (by decide +kernel) rfl rfl rfl (by decide +kernel)
set_option maxRecDepth 65536 in
theorem w_c3 : (Jvm.Cond.code ({ cls := "com/example/bellsplit/bellsplit/search/ImprovedDynamicProgrammeBestStandsForPinLaw", name := "fits", desc := "(III)Z" } : Jvm.MethodName) method_3_code (3 : Nat) (Option.some Jvm.ClassFile.FieldType.boolean)).before args0 about1 = true := code_word (m := ⟨1, 2⟩) (meth := k1m2) (c := k1c2) (by decide +kernel) rfl rfl rfl (by decide +kernel)
def codes1 : List Jvm.Cond := [Jvm.Cond.code x code maxLocals ret, Jvm.Cond.code ({ cls := "com/example/bellsplit/bellsplit/search/ImprovedDynamicProgramme", name := "bestStandsFor", desc := "(II[I)Z" } : Jvm.MethodName) prog_74_method_12_code (9 : Nat) (Option.some Jvm.ClassFile.FieldType.boolean), Jvm.Cond.code ({ cls := "com/example/bellsplit/bellsplit/search/ImprovedDynamicProgramme", name := "exactUpTo", desc := "(I)I" } : Jvm.MethodName) prog_74_method_5_code (1 : Nat) (Option.some Jvm.ClassFile.FieldType.int), Jvm.Cond.code ({ cls := "com/example/bellsplit/bellsplit/search/ImprovedDynamicProgrammeBestStandsForPinLaw", name := "fits", desc := "(III)Z" } : Jvm.MethodName) method_3_code (3 : Nat) (Option.some Jvm.ClassFile.FieldType.boolean)]
set_option maxRecDepth 65536 in
theorem codes_eq : words1.filter isCode = codes1 := rfl
theorem w_codes : ∀ c ∈ words1.filter isCode, c.before args0 about1 = true := by
  rw [codes_eq]
  intro c hc
  simp only [codes1, List.mem_cons, List.not_mem_nil, or_false] at hc
  rcases hc with rfl | rfl | rfl | rfl
  · exact w_c0
  · exact w_c1
  · exact w_c2
  · exact w_c3
set_option maxRecDepth 65536 in
theorem w_t1 : words1.all (fun c => isCode c || c.before args0 about1) = true := by decide +kernel
theorem w_tables : (allAtoms (Jvm.Cond.code x code maxLocals ret :: tables_1)).before args0 about1 = true := by
  rw [allAtoms_all]
  show words1.all (fun c => c.before args0 about1) = true
  refine all_split ?_ w_codes
  rw [w_t1]
set_option maxRecDepth 65536 in
theorem w_case : (Jvm.Cond.and given_1 narrow_1).before args0 about1 = true := by decide +kernel
theorem w_applies : (headSpec (Jvm.Cond.code x code maxLocals ret :: tables_1) room_1).applies x e0.platform about1 = true :=
  (Spec.applies_iff w_frames).mpr ⟨w_running, w_runnable, w_alone, w_named, w_hears, w_ripe, w_room, w_tables⟩
theorem atStart : AtStart classFile x code maxLocals ret World_1 tables_1 room_1 Calls_1 rest_1 Pre_1 launch0 p0 e0 about1 theMethod args0 below0 :=
  ⟨lists_1, trivial, launch0.admits_env _ _ _, launch0.least_env, fairChoices_fair.cas, fairChoices_fair.clock, w_frames, w_args, w_heap, w_applies, trivial, trivial, w_case⟩
end start1
theorem witness_1 : WitnessClaimed_1 := ⟨start1.p0, start1.e0, start1.about1, start1.theMethod, start1.args0, start1.below0, start1.atStart⟩
end Jvm.Pilot.@@N@@
