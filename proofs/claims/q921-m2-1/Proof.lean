import JvmDerived
import JvmDerived.Pilot.@@N@@Statement
import JvmDerived.Pilot.@@N@@Code
set_option linter.unusedVariables false
set_option linter.unusedSimpArgs false
namespace Jvm.Pilot.@@N@@
open Jvm Jvm.ClassFile Sem Op Lib Jvm.Free Jvm.Stand Jvm.LawKit Jvm.RoadKit Bundle Jvm.Pilot.@@N@@.Jvm.D
/-- from the frame (pc, ls, st) over the heap h the goal G is reached -/
def Run (p : Program) (l : Launch) (e : Env) (R : Room) (s : State) (m : MethodId) (args : Array Value) (below : List Frame) (meth : Method) (c : Code) (Z : State) (own : String) (V : Vm → Nat → Prop) (n0 : Nat) (G : State → Outcome → Prop) (h : Heap) (cells slots pc : Nat) (ls : Array Slot) (st : List Value) : Prop :=
  ∀ (vm0 : Vm) (k0 : Nat) (T : State) (L : List Loc), Stand p l e R (s.setVm vm0) m args below meth c T L cells slots → V vm0 k0 → k0 ≤ h.size → Z.Warmed39 vm0 → vm0.findClass own = some m.cls → Fr n0 L → T.heap = h →
    ∃ U o, Steps p.tables e below (T.setTop (mkF m pc ls st)) U ∧ U.status = .running ∧ Ended U below o ∧ G U o
/-- what is known of the body -/
def Cx (p : Program) (c : Code) (meth : Method) (bytes : ByteArray) (maxL : Nat) (ret : Option FieldType) (nm : String) : Prop := p.tables.exec = Jvm.exec ∧ c.code = bytes ∧ c.maxLocals = maxL ∧ meth.sig.returnType = ret ∧ meth.locks = false ∧ meth.name = nm
def plainV (s : State) (vm : Vm) (_ : Nat) : Prop := vm = s.vm
def Gq (s : State) (n0 : Nat) (rm : Room) (P : Option Value → Heap → Prop) (U : State) (o : Outcome) : Prop := ∃ v L, o = .returned v ∧ (P v U.heap ∧ Fr n0 L) ∧ FrameEnd s o U L rm.cells rm.slots
/-- a contract -/
def Con (l : Launch) (Z : State) (y : MethodName) (bytes : ByteArray) (maxL : Nat) (ret : Option FieldType) (rm : Room) (as : Array Value) (h0 : Heap) (n0 : Nat) (P : Option Value → Heap → Prop) : Prop :=
  ∀ ws : List Jvm.Cond, MetFree l y (head1 (Jvm.Cond.code y bytes maxL ret :: ws) rm) (fun a U => a = as ∧ Z.Warmed39 U.vm ∧ U.heap = h0) (fun _ _ _ _ _ => True) (fun _ U o U' => Gq U n0 rm P U' o)
section Kit
variable {p : Program} {l : Launch} {e : Env} {R : Room} {s : State} {m : MethodId} {args : Array Value} {below : List Frame} {meth : Method} {c : Code} {Z : State} {own : String} {V : Vm → Nat → Prop} {n0 : Nat} {G : State → Outcome → Prop} {h : Heap} {cells slots pc pc' : Nat} {ls ls' : Array Slot} {st st' : List Value} {bytes : ByteArray} {maxL : Nat} {ret : Option FieldType} {nm : String} {a0 : Array Value}
theorem Con.of_body {y : MethodName} {rm : Room} {as : Array Value} {h0 : Heap} {P : Option Value → Heap → Prop} (hp : plainFor y = true) (Ls : Array Slot) (hent : ∀ m, entryFrame m as maxL = mkF m 0 Ls [])
    (body : ∀ p e s m below meth c, Cx p c meth bytes maxL ret y.name → Run p l e rm s m as below meth c Z y.cls (plainV s) n0 (Gq s n0 rm P) h0 0 0 0 Ls []) : Con l Z y bytes maxL ret rm as h0 n0 P := by
  intro ws
  refine MetFree.of_bodySF hp hisR ?_
  intro p e s m args below meth c s₁ Bd hml0 hP hK
  obtain ⟨rfl, hZ, hh⟩ := hP
  have hown : s.vm.findClass y.cls = some m.cls := findClass_of_methodNamed Bd.named
  have hnm := (name_of_methodNamed Bd.named Bd.method).1
  obtain ⟨U, o, h1, h2, h3, h4⟩ := body p e s m below meth c ⟨Bd.exec, Bd.bytes, hml0, Bd.returns, BodyLoose.notSynchronized Bd, hnm⟩ s.vm 0 s₁ [] (Stand.of_body Bd) rfl (Nat.zero_le _) hZ hown (Fr.nil n0) (by rw [← hh, Bd.state]; rfl)
  exact ⟨U, o, castTop (hent m) h1, h2, h3, h4⟩
theorem Run.go (hs : ∀ (T t : State), At T m c below → Steps p.tables e below (T.setTop (mkF m pc' ls' st')) t → Steps p.tables e below (T.setTop (mkF m pc ls st)) t) (k : Run p l e R s m args below meth c Z own V n0 G h cells slots pc' ls' st') : Run p l e R s m args below meth c Z own V n0 G h cells slots pc ls st :=
  fun vm0 k0 T L X hV hk hZ ho N eT => by
    obtain ⟨U, o, h1, r⟩ := k vm0 k0 T L X hV hk hZ ho N eT
    exact ⟨U, o, hs T U X.here h1, r⟩
theorem r_iadd {x y z : Int32} (C : Cx p c meth bytes maxL ret nm) (hd : decode bytes pc = .ok (.iadd, 1)) (hp : pc + 1 = pc') (hz : x + y = z) (k : Run p l e R s m args below meth c Z own V n0 G h cells slots pc' ls (.int z :: st)) : Run p l e R s m args below meth c Z own V n0 G h cells slots pc ls (.int y :: .int x :: st) := by
  subst hp hz
  exact k.go fun T t A q => XS.iadd (g := mkF m pc ls (.int y :: .int x :: st)) A C.1 rfl (hb C.2.1 hd) rfl q
theorem r_isub {x y z : Int32} (C : Cx p c meth bytes maxL ret nm) (hd : decode bytes pc = .ok (.isub, 1)) (hp : pc + 1 = pc') (hz : x - y = z) (k : Run p l e R s m args below meth c Z own V n0 G h cells slots pc' ls (.int z :: st)) : Run p l e R s m args below meth c Z own V n0 G h cells slots pc ls (.int y :: .int x :: st) := by
  subst hp hz
  exact k.go fun T t A q => XS.isub (g := mkF m pc ls (.int y :: .int x :: st)) A C.1 rfl (hb C.2.1 hd) rfl q
theorem r_imul {x y z : Int32} (C : Cx p c meth bytes maxL ret nm) (hd : decode bytes pc = .ok (.imul, 1)) (hp : pc + 1 = pc') (hz : x * y = z) (k : Run p l e R s m args below meth c Z own V n0 G h cells slots pc' ls (.int z :: st)) : Run p l e R s m args below meth c Z own V n0 G h cells slots pc ls (.int y :: .int x :: st) := by
  subst hp hz
  exact k.go fun T t A q => XS.imul (g := mkF m pc ls (.int y :: .int x :: st)) A C.1 rfl (hb C.2.1 hd) rfl q
theorem r_iand {x y z : Int32} (C : Cx p c meth bytes maxL ret nm) (hd : decode bytes pc = .ok (.iand, 1)) (hp : pc + 1 = pc') (hz : x &&& y = z) (k : Run p l e R s m args below meth c Z own V n0 G h cells slots pc' ls (.int z :: st)) : Run p l e R s m args below meth c Z own V n0 G h cells slots pc ls (.int y :: .int x :: st) := by
  subst hp hz
  exact k.go fun T t A q => XS.iand (g := mkF m pc ls (.int y :: .int x :: st)) A C.1 rfl (hb C.2.1 hd) rfl q
theorem r_ixor {x y z : Int32} (C : Cx p c meth bytes maxL ret nm) (hd : decode bytes pc = .ok (.ixor, 1)) (hp : pc + 1 = pc') (hz : x ^^^ y = z) (k : Run p l e R s m args below meth c Z own V n0 G h cells slots pc' ls (.int z :: st)) : Run p l e R s m args below meth c Z own V n0 G h cells slots pc ls (.int y :: .int x :: st) := by
  subst hp hz
  exact k.go fun T t A q => XT.ixor (g := mkF m pc ls (.int y :: .int x :: st)) A C.1 rfl (hb C.2.1 hd) rfl q
theorem r_ior {x y z : Int32} (C : Cx p c meth bytes maxL ret nm) (hd : decode bytes pc = .ok (.ior, 1)) (hp : pc + 1 = pc') (hz : x ||| y = z) (k : Run p l e R s m args below meth c Z own V n0 G h cells slots pc' ls (.int z :: st)) : Run p l e R s m args below meth c Z own V n0 G h cells slots pc ls (.int y :: .int x :: st) := by
  subst hp hz
  exact k.go fun T t A q => XT.ior (g := mkF m pc ls (.int y :: .int x :: st)) A C.1 rfl (hb C.2.1 hd) rfl q
theorem r_ishl {x y z : Int32} (C : Cx p c meth bytes maxL ret nm) (hd : decode bytes pc = .ok (.ishl, 1)) (hp : pc + 1 = pc') (hz : x <<< (y &&& 31) = z) (k : Run p l e R s m args below meth c Z own V n0 G h cells slots pc' ls (.int z :: st)) : Run p l e R s m args below meth c Z own V n0 G h cells slots pc ls (.int y :: .int x :: st) := by
  subst hp hz
  exact k.go fun T t A q => XT.ishl (g := mkF m pc ls (.int y :: .int x :: st)) A C.1 rfl (hb C.2.1 hd) rfl q
theorem r_ishr {x y z : Int32} (C : Cx p c meth bytes maxL ret nm) (hd : decode bytes pc = .ok (.ishr, 1)) (hp : pc + 1 = pc') (hz : x >>> (y &&& 31) = z) (k : Run p l e R s m args below meth c Z own V n0 G h cells slots pc' ls (.int z :: st)) : Run p l e R s m args below meth c Z own V n0 G h cells slots pc ls (.int y :: .int x :: st) := by
  subst hp hz
  exact k.go fun T t A q => XT.ishr (g := mkF m pc ls (.int y :: .int x :: st)) A C.1 rfl (hb C.2.1 hd) rfl q
theorem r_iushr {x y z : Int32} (C : Cx p c meth bytes maxL ret nm) (hd : decode bytes pc = .ok (.iushr, 1)) (hp : pc + 1 = pc') (hz : XT.ushr x y = z) (k : Run p l e R s m args below meth c Z own V n0 G h cells slots pc' ls (.int z :: st)) : Run p l e R s m args below meth c Z own V n0 G h cells slots pc ls (.int y :: .int x :: st) := by
  subst hp hz
  exact k.go fun T t A q => XT.iushr (g := mkF m pc ls (.int y :: .int x :: st)) A C.1 rfl (hb C.2.1 hd) rfl q
theorem r_ladd {x y z : Int64} (C : Cx p c meth bytes maxL ret nm) (hd : decode bytes pc = .ok (.ladd, 1)) (hp : pc + 1 = pc') (hz : x + y = z) (k : Run p l e R s m args below meth c Z own V n0 G h cells slots pc' ls (.long z :: st)) : Run p l e R s m args below meth c Z own V n0 G h cells slots pc ls (.long y :: .long x :: st) := by
  subst hp hz
  exact k.go fun T t A q => XT.ladd (g := mkF m pc ls (.long y :: .long x :: st)) A C.1 rfl (hb C.2.1 hd) rfl q
theorem r_lsub {x y z : Int64} (C : Cx p c meth bytes maxL ret nm) (hd : decode bytes pc = .ok (.lsub, 1)) (hp : pc + 1 = pc') (hz : x - y = z) (k : Run p l e R s m args below meth c Z own V n0 G h cells slots pc' ls (.long z :: st)) : Run p l e R s m args below meth c Z own V n0 G h cells slots pc ls (.long y :: .long x :: st) := by
  subst hp hz
  exact k.go fun T t A q => XT.lsub (g := mkF m pc ls (.long y :: .long x :: st)) A C.1 rfl (hb C.2.1 hd) rfl q
theorem r_lmul {x y z : Int64} (C : Cx p c meth bytes maxL ret nm) (hd : decode bytes pc = .ok (.lmul, 1)) (hp : pc + 1 = pc') (hz : x * y = z) (k : Run p l e R s m args below meth c Z own V n0 G h cells slots pc' ls (.long z :: st)) : Run p l e R s m args below meth c Z own V n0 G h cells slots pc ls (.long y :: .long x :: st) := by
  subst hp hz
  exact k.go fun T t A q => XT.lmul (g := mkF m pc ls (.long y :: .long x :: st)) A C.1 rfl (hb C.2.1 hd) rfl q
theorem r_land {x y z : Int64} (C : Cx p c meth bytes maxL ret nm) (hd : decode bytes pc = .ok (.land, 1)) (hp : pc + 1 = pc') (hz : x &&& y = z) (k : Run p l e R s m args below meth c Z own V n0 G h cells slots pc' ls (.long z :: st)) : Run p l e R s m args below meth c Z own V n0 G h cells slots pc ls (.long y :: .long x :: st) := by
  subst hp hz
  exact k.go fun T t A q => XT.land (g := mkF m pc ls (.long y :: .long x :: st)) A C.1 rfl (hb C.2.1 hd) rfl q
theorem r_lor {x y z : Int64} (C : Cx p c meth bytes maxL ret nm) (hd : decode bytes pc = .ok (.lor, 1)) (hp : pc + 1 = pc') (hz : x ||| y = z) (k : Run p l e R s m args below meth c Z own V n0 G h cells slots pc' ls (.long z :: st)) : Run p l e R s m args below meth c Z own V n0 G h cells slots pc ls (.long y :: .long x :: st) := by
  subst hp hz
  exact k.go fun T t A q => XT.lor (g := mkF m pc ls (.long y :: .long x :: st)) A C.1 rfl (hb C.2.1 hd) rfl q
theorem r_lxor {x y z : Int64} (C : Cx p c meth bytes maxL ret nm) (hd : decode bytes pc = .ok (.lxor, 1)) (hp : pc + 1 = pc') (hz : x ^^^ y = z) (k : Run p l e R s m args below meth c Z own V n0 G h cells slots pc' ls (.long z :: st)) : Run p l e R s m args below meth c Z own V n0 G h cells slots pc ls (.long y :: .long x :: st) := by
  subst hp hz
  exact k.go fun T t A q => XT.lxor (g := mkF m pc ls (.long y :: .long x :: st)) A C.1 rfl (hb C.2.1 hd) rfl q
theorem r_lshl {x z : Int64} {y : Int32} (C : Cx p c meth bytes maxL ret nm) (hd : decode bytes pc = .ok (.lshl, 1)) (hp : pc + 1 = pc') (hz : x <<< (y.toInt64 &&& 63) = z) (k : Run p l e R s m args below meth c Z own V n0 G h cells slots pc' ls (.long z :: st)) : Run p l e R s m args below meth c Z own V n0 G h cells slots pc ls (.int y :: .long x :: st) := by
  subst hp hz
  exact k.go fun T t A q => XT.lshl (g := mkF m pc ls (.int y :: .long x :: st)) A C.1 rfl (hb C.2.1 hd) rfl q
theorem r_lshr {x z : Int64} {y : Int32} (C : Cx p c meth bytes maxL ret nm) (hd : decode bytes pc = .ok (.lshr, 1)) (hp : pc + 1 = pc') (hz : x >>> (y.toInt64 &&& 63) = z) (k : Run p l e R s m args below meth c Z own V n0 G h cells slots pc' ls (.long z :: st)) : Run p l e R s m args below meth c Z own V n0 G h cells slots pc ls (.int y :: .long x :: st) := by
  subst hp hz
  exact k.go fun T t A q => XT.lshr (g := mkF m pc ls (.int y :: .long x :: st)) A C.1 rfl (hb C.2.1 hd) rfl q
theorem r_lushr {x z : Int64} {y : Int32} (C : Cx p c meth bytes maxL ret nm) (hd : decode bytes pc = .ok (.lushr, 1)) (hp : pc + 1 = pc') (hz : XT.ushrL x y = z) (k : Run p l e R s m args below meth c Z own V n0 G h cells slots pc' ls (.long z :: st)) : Run p l e R s m args below meth c Z own V n0 G h cells slots pc ls (.int y :: .long x :: st) := by
  subst hp hz
  exact k.go fun T t A q => XT.lushr (g := mkF m pc ls (.int y :: .long x :: st)) A C.1 rfl (hb C.2.1 hd) rfl q
theorem irem_mod (x y : Int32) : x - (x / y) * y = x % y := by
  have h : ∀ a b : Int, a - a.tdiv b * b = a.tmod b := fun a b => by have := Int.mul_tdiv_add_tmod a b; rw [Int.mul_comm] at this; omega
  by_cases hy : y = -1
  · subst hy
    apply Int32.toInt_inj.mp
    have h1 := c_isub x ((x / -1) * -1)
    have h2 := c_imul (x / -1) (-1)
    have h3 := c_idivM x (-1) rfl
    have h4 : (x % (-1 : Int32)).toInt = 0 := by rw [Int32.toInt_mod]; show x.toInt.tmod (-1) = 0; simp
    have h5 := rng32 (x - (x / -1) * -1)
    have h6 : ((-1 : Int32)).toInt = -1 := by decide
    rw [h6] at h2
    rw [h4]
    omega
  · apply Int32.toInt_inj.mp
    have h1 := c_isub x ((x / y) * y)
    have h2 := c_imul (x / y) y
    have h3 := Int32.toInt_div_of_ne_right x y hy
    have h4 := Int32.toInt_mod x y
    have h5 := rng32 (x - (x / y) * y)
    have h6 := rng32 (x % y)
    have h7 := h x.toInt y.toInt
    rw [h3] at h2
    rw [← h7] at h4
    omega
theorem r_idiv {x y z : Int32} (C : Cx p c meth bytes maxL ret nm) (hd : decode bytes pc = .ok (.idiv, 1)) (hp : pc + 1 = pc') (hy : y ≠ 0) (hz : x / y = z) (k : Run p l e R s m args below meth c Z own V n0 G h cells slots pc' ls (.int z :: st)) : Run p l e R s m args below meth c Z own V n0 G h cells slots pc ls (.int y :: .int x :: st) := by
  subst hp hz
  exact k.go fun T t A q => XS.idiv (g := mkF m pc ls (.int y :: .int x :: st)) A C.1 rfl (hb C.2.1 hd) rfl hy q
theorem r_irem {x y z : Int32} (C : Cx p c meth bytes maxL ret nm) (hd : decode bytes pc = .ok (.irem, 1)) (hp : pc + 1 = pc') (hy : y ≠ 0) (hz : x % y = z) (k : Run p l e R s m args below meth c Z own V n0 G h cells slots pc' ls (.int z :: st)) : Run p l e R s m args below meth c Z own V n0 G h cells slots pc ls (.int y :: .int x :: st) := by
  subst hp hz
  exact k.go fun T t A q => XS.irem (g := mkF m pc ls (.int y :: .int x :: st)) A C.1 rfl (hb C.2.1 hd) rfl hy (by rw [irem_mod]; exact q)
theorem r_ldiv {x y z : Int64} (C : Cx p c meth bytes maxL ret nm) (hd : decode bytes pc = .ok (.ldiv, 1)) (hp : pc + 1 = pc') (hy : y ≠ 0) (hz : x / y = z) (k : Run p l e R s m args below meth c Z own V n0 G h cells slots pc' ls (.long z :: st)) : Run p l e R s m args below meth c Z own V n0 G h cells slots pc ls (.long y :: .long x :: st) := by
  subst hp hz
  exact k.go fun T t A q => XT.ldiv (g := mkF m pc ls (.long y :: .long x :: st)) A C.1 rfl (hb C.2.1 hd) rfl hy q
theorem r_lrem {x y z : Int64} (C : Cx p c meth bytes maxL ret nm) (hd : decode bytes pc = .ok (.lrem, 1)) (hp : pc + 1 = pc') (hy : y ≠ 0) (hz : x % y = z) (k : Run p l e R s m args below meth c Z own V n0 G h cells slots pc' ls (.long z :: st)) : Run p l e R s m args below meth c Z own V n0 G h cells slots pc ls (.long y :: .long x :: st) := by
  subst hp hz
  exact k.go fun T t A q => XT.lrem (g := mkF m pc ls (.long y :: .long x :: st)) A C.1 rfl (hb C.2.1 hd) rfl hy (by rw [lrem_mod]; exact q)
theorem r_ineg {x z : Int32} (C : Cx p c meth bytes maxL ret nm) (hd : decode bytes pc = .ok (.ineg, 1)) (hp : pc + 1 = pc') (hz : -x = z) (k : Run p l e R s m args below meth c Z own V n0 G h cells slots pc' ls (.int z :: st)) : Run p l e R s m args below meth c Z own V n0 G h cells slots pc ls (.int x :: st) := by
  subst hp hz
  exact k.go fun T t A q => XS.ineg (g := mkF m pc ls (.int x :: st)) A C.1 rfl (hb C.2.1 hd) rfl q
theorem r_lneg {x z : Int64} (C : Cx p c meth bytes maxL ret nm) (hd : decode bytes pc = .ok (.lneg, 1)) (hp : pc + 1 = pc') (hz : -x = z) (k : Run p l e R s m args below meth c Z own V n0 G h cells slots pc' ls (.long z :: st)) : Run p l e R s m args below meth c Z own V n0 G h cells slots pc ls (.long x :: st) := by
  subst hp hz
  exact k.go fun T t A q => XT.lneg (g := mkF m pc ls (.long x :: st)) A C.1 rfl (hb C.2.1 hd) rfl q
theorem r_i2l {x : Int32} {z : Int64} (C : Cx p c meth bytes maxL ret nm) (hd : decode bytes pc = .ok (.i2l, 1)) (hp : pc + 1 = pc') (hz : x.toInt64 = z) (k : Run p l e R s m args below meth c Z own V n0 G h cells slots pc' ls (.long z :: st)) : Run p l e R s m args below meth c Z own V n0 G h cells slots pc ls (.int x :: st) := by
  subst hp hz
  exact k.go fun T t A q => XT.i2l (g := mkF m pc ls (.int x :: st)) A C.1 rfl (hb C.2.1 hd) rfl q
theorem r_l2i {x : Int64} {z : Int32} (C : Cx p c meth bytes maxL ret nm) (hd : decode bytes pc = .ok (.l2i, 1)) (hp : pc + 1 = pc') (hz : x.toInt32 = z) (k : Run p l e R s m args below meth c Z own V n0 G h cells slots pc' ls (.int z :: st)) : Run p l e R s m args below meth c Z own V n0 G h cells slots pc ls (.long x :: st) := by
  subst hp hz
  exact k.go fun T t A q => XT.l2i (g := mkF m pc ls (.long x :: st)) A C.1 rfl (hb C.2.1 hd) rfl q
theorem r_i2b {x : Int32} {z : Int32} (C : Cx p c meth bytes maxL ret nm) (hd : decode bytes pc = .ok (.i2b, 1)) (hp : pc + 1 = pc') (hz : x.toInt8.toInt32 = z) (k : Run p l e R s m args below meth c Z own V n0 G h cells slots pc' ls (.int z :: st)) : Run p l e R s m args below meth c Z own V n0 G h cells slots pc ls (.int x :: st) := by
  subst hp hz
  exact k.go fun T t A q => XT.i2b (g := mkF m pc ls (.int x :: st)) A C.1 rfl (hb C.2.1 hd) rfl q
theorem r_i2c {x : Int32} {z : Int32} (C : Cx p c meth bytes maxL ret nm) (hd : decode bytes pc = .ok (.i2c, 1)) (hp : pc + 1 = pc') (hz : x.toUInt32.toUInt16.toUInt32.toInt32 = z) (k : Run p l e R s m args below meth c Z own V n0 G h cells slots pc' ls (.int z :: st)) : Run p l e R s m args below meth c Z own V n0 G h cells slots pc ls (.int x :: st) := by
  subst hp hz
  exact k.go fun T t A q => XT.i2c (g := mkF m pc ls (.int x :: st)) A C.1 rfl (hb C.2.1 hd) rfl q
theorem r_i2s {x : Int32} {z : Int32} (C : Cx p c meth bytes maxL ret nm) (hd : decode bytes pc = .ok (.i2s, 1)) (hp : pc + 1 = pc') (hz : x.toInt16.toInt32 = z) (k : Run p l e R s m args below meth c Z own V n0 G h cells slots pc' ls (.int z :: st)) : Run p l e R s m args below meth c Z own V n0 G h cells slots pc ls (.int x :: st) := by
  subst hp hz
  exact k.go fun T t A q => XT.i2s (g := mkF m pc ls (.int x :: st)) A C.1 rfl (hb C.2.1 hd) rfl q
theorem r_iconst {i : Int} {z : Int32} (C : Cx p c meth bytes maxL ret nm) (hd : decode bytes pc = .ok (.iconst i, 1)) (hp : pc + 1 = pc') (hz : Int32.ofInt i = z) (k : Run p l e R s m args below meth c Z own V n0 G h cells slots pc' ls (.int z :: st)) : Run p l e R s m args below meth c Z own V n0 G h cells slots pc ls st := by
  subst hp hz
  exact k.go fun T t A q => XS.iconst (g := mkF m pc ls st) A C.1 rfl (hb C.2.1 hd) q
theorem r_bipush {i : Int} {z : Int32} (C : Cx p c meth bytes maxL ret nm) (hd : decode bytes pc = .ok (.bipush i, 2)) (hp : pc + 2 = pc') (hz : (Int8.ofInt i).toInt32 = z) (k : Run p l e R s m args below meth c Z own V n0 G h cells slots pc' ls (.int z :: st)) : Run p l e R s m args below meth c Z own V n0 G h cells slots pc ls st := by
  subst hp hz
  exact k.go fun T t A q => XS.bipush (g := mkF m pc ls st) A C.1 rfl (hb C.2.1 hd) q
theorem r_sipush {i : Int} {z : Int32} (C : Cx p c meth bytes maxL ret nm) (hd : decode bytes pc = .ok (.sipush i, 3)) (hp : pc + 3 = pc') (hz : (Int16.ofInt i).toInt32 = z) (k : Run p l e R s m args below meth c Z own V n0 G h cells slots pc' ls (.int z :: st)) : Run p l e R s m args below meth c Z own V n0 G h cells slots pc ls st := by
  subst hp hz
  exact k.go fun T t A q => XS.sipush (g := mkF m pc ls st) A C.1 rfl (hb C.2.1 hd) q
theorem r_lconst {i : Fin 2} {z : Int64} (C : Cx p c meth bytes maxL ret nm) (hd : decode bytes pc = .ok (.lconst i, 1)) (hp : pc + 1 = pc') (hz : Int64.ofNat i = z) (k : Run p l e R s m args below meth c Z own V n0 G h cells slots pc' ls (.long z :: st)) : Run p l e R s m args below meth c Z own V n0 G h cells slots pc ls st := by
  subst hp hz
  exact k.go fun T t A q => XT.lconst (g := mkF m pc ls st) A C.1 rfl (hb C.2.1 hd) q
theorem r_aconst_null  (C : Cx p c meth bytes maxL ret nm) (hd : decode bytes pc = .ok (.aconst_null, 1)) (hp : pc + 1 = pc')  (k : Run p l e R s m args below meth c Z own V n0 G h cells slots pc' ls (.null :: st)) : Run p l e R s m args below meth c Z own V n0 G h cells slots pc ls st := by
  subst hp
  exact k.go fun T t A q => XS.aconstNull (g := mkF m pc ls st) A C.1 rfl (hb C.2.1 hd) q
theorem r_iload_n {i : Fin 4} {x : Int32} (C : Cx p c meth bytes maxL ret nm) (hd : decode bytes pc = .ok (.iload_n i, 1)) (hp : pc + 1 = pc') (hl : ls[i.val]? = some (.val (.int x))) (k : Run p l e R s m args below meth c Z own V n0 G h cells slots pc' ls (.int x :: st)) : Run p l e R s m args below meth c Z own V n0 G h cells slots pc ls st := by
  subst hp
  exact k.go fun T t A q => XS.iloadN (g := mkF m pc ls st) A C.1 rfl (hb C.2.1 hd) hl q
theorem r_iload {i : Nat} {x : Int32} (C : Cx p c meth bytes maxL ret nm) (hd : decode bytes pc = .ok (.iload i, 2)) (hp : pc + 2 = pc') (hl : ls[i]? = some (.val (.int x))) (k : Run p l e R s m args below meth c Z own V n0 G h cells slots pc' ls (.int x :: st)) : Run p l e R s m args below meth c Z own V n0 G h cells slots pc ls st := by
  subst hp
  exact k.go fun T t A q => XS.iload (g := mkF m pc ls st) A C.1 rfl (hb C.2.1 hd) hl q
theorem r_istore_n {i : Fin 4} {x : Int32} (C : Cx p c meth bytes maxL ret nm) (hd : decode bytes pc = .ok (.istore_n i, 1)) (hp : pc + 1 = pc') (hl : storeLocals ls i.val (.int x) = some ls') (k : Run p l e R s m args below meth c Z own V n0 G h cells slots pc' ls' st) : Run p l e R s m args below meth c Z own V n0 G h cells slots pc ls (.int x :: st) := by
  subst hp
  exact k.go fun T t A q => XS.istoreN (g := mkF m pc ls (.int x :: st)) A C.1 rfl (hb C.2.1 hd) rfl hl q
theorem r_istore {i : Nat} {x : Int32} (C : Cx p c meth bytes maxL ret nm) (hd : decode bytes pc = .ok (.istore i, 2)) (hp : pc + 2 = pc') (hl : storeLocals ls i (.int x) = some ls') (k : Run p l e R s m args below meth c Z own V n0 G h cells slots pc' ls' st) : Run p l e R s m args below meth c Z own V n0 G h cells slots pc ls (.int x :: st) := by
  subst hp
  exact k.go fun T t A q => XS.istore (g := mkF m pc ls (.int x :: st)) A C.1 rfl (hb C.2.1 hd) rfl hl q
theorem r_lload_n {i : Fin 4} {x : Int64} (C : Cx p c meth bytes maxL ret nm) (hd : decode bytes pc = .ok (.lload_n i, 1)) (hp : pc + 1 = pc') (hl : ls[i.val]? = some (.val (.long x))) (k : Run p l e R s m args below meth c Z own V n0 G h cells slots pc' ls (.long x :: st)) : Run p l e R s m args below meth c Z own V n0 G h cells slots pc ls st := by
  subst hp
  exact k.go fun T t A q => XT.lloadN (g := mkF m pc ls st) A C.1 rfl (hb C.2.1 hd) hl q
theorem r_lload {i : Nat} {x : Int64} (C : Cx p c meth bytes maxL ret nm) (hd : decode bytes pc = .ok (.lload i, 2)) (hp : pc + 2 = pc') (hl : ls[i]? = some (.val (.long x))) (k : Run p l e R s m args below meth c Z own V n0 G h cells slots pc' ls (.long x :: st)) : Run p l e R s m args below meth c Z own V n0 G h cells slots pc ls st := by
  subst hp
  exact k.go fun T t A q => XT.lload (g := mkF m pc ls st) A C.1 rfl (hb C.2.1 hd) hl q
theorem r_lstore_n {i : Fin 4} {x : Int64} (C : Cx p c meth bytes maxL ret nm) (hd : decode bytes pc = .ok (.lstore_n i, 1)) (hp : pc + 1 = pc') (hl : storeLocals ls i.val (.long x) = some ls') (k : Run p l e R s m args below meth c Z own V n0 G h cells slots pc' ls' st) : Run p l e R s m args below meth c Z own V n0 G h cells slots pc ls (.long x :: st) := by
  subst hp
  exact k.go fun T t A q => XT.lstoreN (g := mkF m pc ls (.long x :: st)) A C.1 rfl (hb C.2.1 hd) rfl hl q
theorem r_lstore {i : Nat} {x : Int64} (C : Cx p c meth bytes maxL ret nm) (hd : decode bytes pc = .ok (.lstore i, 2)) (hp : pc + 2 = pc') (hl : storeLocals ls i (.long x) = some ls') (k : Run p l e R s m args below meth c Z own V n0 G h cells slots pc' ls' st) : Run p l e R s m args below meth c Z own V n0 G h cells slots pc ls (.long x :: st) := by
  subst hp
  exact k.go fun T t A q => XT.lstore (g := mkF m pc ls (.long x :: st)) A C.1 rfl (hb C.2.1 hd) rfl hl q
theorem r_aload_n {i : Fin 4} {x : Value} (C : Cx p c meth bytes maxL ret nm) (hd : decode bytes pc = .ok (.aload_n i, 1)) (hp : pc + 1 = pc') (hl : ls[i.val]? = some (.val x)) (hv : x.isRef = true) (k : Run p l e R s m args below meth c Z own V n0 G h cells slots pc' ls (x :: st)) : Run p l e R s m args below meth c Z own V n0 G h cells slots pc ls st := by
  subst hp
  exact k.go fun T t A q => XS.aloadN (g := mkF m pc ls st) A C.1 rfl (hb C.2.1 hd) hl hv q
theorem r_aload {i : Nat} {x : Value} (C : Cx p c meth bytes maxL ret nm) (hd : decode bytes pc = .ok (.aload i, 2)) (hp : pc + 2 = pc') (hl : ls[i]? = some (.val x)) (hv : x.isRef = true) (k : Run p l e R s m args below meth c Z own V n0 G h cells slots pc' ls (x :: st)) : Run p l e R s m args below meth c Z own V n0 G h cells slots pc ls st := by
  subst hp
  exact k.go fun T t A q => XS.aload (g := mkF m pc ls st) A C.1 rfl (hb C.2.1 hd) hl hv q
theorem r_astore_n {i : Fin 4} {x : Value} (C : Cx p c meth bytes maxL ret nm) (hd : decode bytes pc = .ok (.astore_n i, 1)) (hp : pc + 1 = pc') (hv : x.isRef = true) (hl : storeLocals ls i.val x = some ls') (k : Run p l e R s m args below meth c Z own V n0 G h cells slots pc' ls' st) : Run p l e R s m args below meth c Z own V n0 G h cells slots pc ls (x :: st) := by
  subst hp
  exact k.go fun T t A q => XS.astoreN (g := mkF m pc ls (x :: st)) A C.1 rfl (hb C.2.1 hd) rfl hv hl q
theorem r_astore {i : Nat} {x : Value} (C : Cx p c meth bytes maxL ret nm) (hd : decode bytes pc = .ok (.astore i, 2)) (hp : pc + 2 = pc') (hv : x.isRef = true) (hl : storeLocals ls i x = some ls') (k : Run p l e R s m args below meth c Z own V n0 G h cells slots pc' ls' st) : Run p l e R s m args below meth c Z own V n0 G h cells slots pc ls (x :: st) := by
  subst hp
  exact k.go fun T t A q => XS.astore (g := mkF m pc ls (x :: st)) A C.1 rfl (hb C.2.1 hd) rfl hv hl q
theorem r_iinc {i : Nat} {cst : Int} {x z : Int32} (C : Cx p c meth bytes maxL ret nm) (hd : decode bytes pc = .ok (.iinc i cst, 3)) (hp : pc + 3 = pc') (hl : ls[i]? = some (.val (.int x))) (hz : x + Int32.ofInt cst = z) (hl' : storeLocals ls i (.int z) = some ls') (k : Run p l e R s m args below meth c Z own V n0 G h cells slots pc' ls' st) : Run p l e R s m args below meth c Z own V n0 G h cells slots pc ls st := by
  subst hp hz
  exact k.go fun T t A q => XS.iinc (g := mkF m pc ls st) A C.1 rfl (hb C.2.1 hd) hl hl' q
theorem r_pop {x : Value} (C : Cx p c meth bytes maxL ret nm) (hd : decode bytes pc = .ok (.pop, 1)) (hp : pc + 1 = pc') (hc : x.category = 1) (k : Run p l e R s m args below meth c Z own V n0 G h cells slots pc' ls st) : Run p l e R s m args below meth c Z own V n0 G h cells slots pc ls (x :: st) := by
  subst hp
  exact k.go fun T t A q => XT.pop (g := mkF m pc ls (x :: st)) A C.1 rfl (hb C.2.1 hd) rfl hc q
theorem r_dup {x : Value} (C : Cx p c meth bytes maxL ret nm) (hd : decode bytes pc = .ok (.dup, 1)) (hp : pc + 1 = pc') (hc : x.category = 1) (k : Run p l e R s m args below meth c Z own V n0 G h cells slots pc' ls (x :: x :: st)) : Run p l e R s m args below meth c Z own V n0 G h cells slots pc ls (x :: st) := by
  subst hp
  exact k.go fun T t A q => XS.dup (g := mkF m pc ls (x :: st)) A C.1 rfl (hb C.2.1 hd) rfl hc q
theorem r_dup_x1 {x y : Value} (C : Cx p c meth bytes maxL ret nm) (hd : decode bytes pc = .ok (.dup_x1, 1)) (hp : pc + 1 = pc') (hc : x.category = 1) (hc' : y.category = 1) (k : Run p l e R s m args below meth c Z own V n0 G h cells slots pc' ls (x :: y :: x :: st)) : Run p l e R s m args below meth c Z own V n0 G h cells slots pc ls (x :: y :: st) := by
  subst hp
  exact k.go fun T t A q => XT.dupX1 (g := mkF m pc ls (x :: y :: st)) A C.1 rfl (hb C.2.1 hd) rfl hc hc' q
theorem r_dup2 {x y : Value} (C : Cx p c meth bytes maxL ret nm) (hd : decode bytes pc = .ok (.dup2, 1)) (hp : pc + 1 = pc') (hc : x.category = 1) (hc' : y.category = 1) (k : Run p l e R s m args below meth c Z own V n0 G h cells slots pc' ls (x :: y :: x :: y :: st)) : Run p l e R s m args below meth c Z own V n0 G h cells slots pc ls (x :: y :: st) := by
  subst hp
  exact k.go fun T t A q => XT.dup2 (g := mkF m pc ls (x :: y :: st)) A C.1 rfl (hb C.2.1 hd) rfl hc hc' q
theorem r_dup2L {x : Int64} (C : Cx p c meth bytes maxL ret nm) (hd : decode bytes pc = .ok (.dup2, 1)) (hp : pc + 1 = pc')  (k : Run p l e R s m args below meth c Z own V n0 G h cells slots pc' ls (.long x :: .long x :: st)) : Run p l e R s m args below meth c Z own V n0 G h cells slots pc ls (.long x :: st) := by
  subst hp
  exact k.go fun T t A q => XT.dup2L (g := mkF m pc ls (.long x :: st)) A C.1 rfl (hb C.2.1 hd) rfl q
theorem toN {a : Nat} {o : Int} {b : Nat} (h : (a : Int) + o = (b : Int)) : 0 ≤ (a : Int) + o ∧ ((a : Int) + o).toNat = b := by omega
theorem r_goto {o : Int} (C : Cx p c meth bytes maxL ret nm) (hd : decode bytes pc = .ok (.goto o, 3)) (hp : (pc : Int) + o = (pc' : Int)) (k : Run p l e R s m args below meth c Z own V n0 G h cells slots pc' ls st) : Run p l e R s m args below meth c Z own V n0 G h cells slots pc ls st :=
  k.go fun T t A q => XS.goto (g := mkF m pc ls st) A C.1 rfl (pc0 := pc) (pc' := pc') rfl (hb C.2.1 hd) (toN hp).1 (toN hp).2 q
theorem r_icmp {x y : Int32} {cd : ClassFile.Cond} {o : Int} {pcT pcF : Nat} (C : Cx p c meth bytes maxL ret nm) (hd : decode bytes pc = .ok (.if_icmp cd o, 3)) (hT : (pc : Int) + o = (pcT : Int)) (hF : pc + 3 = pcF) (kT : if_icmp.holds cd x y = true → Run p l e R s m args below meth c Z own V n0 G h cells slots pcT ls st) (kF : if_icmp.holds cd x y = false → Run p l e R s m args below meth c Z own V n0 G h cells slots pcF ls st) : Run p l e R s m args below meth c Z own V n0 G h cells slots pc ls (.int y :: .int x :: st) := by
  subst hF
  cases hc : if_icmp.holds cd x y
  · exact (kF hc).go fun T t A q => XS.icmpNo (g := mkF m pc ls (.int y :: .int x :: st)) A C.1 rfl (hb C.2.1 hd) rfl hc q
  · exact (kT hc).go fun T t A q => XS.icmpYes (g := mkF m pc ls (.int y :: .int x :: st)) A C.1 rfl (pc0 := pc) (pc' := pcT) rfl (hb C.2.1 hd) rfl hc (toN hT).1 (toN hT).2 q
theorem r_if {x : Int32} {cd : ClassFile.Cond} {o : Int} {pcT pcF : Nat} (C : Cx p c meth bytes maxL ret nm) (hd : decode bytes pc = .ok (.ifCond cd o, 3)) (hT : (pc : Int) + o = (pcT : Int)) (hF : pc + 3 = pcF) (kT : ifCond.holds cd x = true → Run p l e R s m args below meth c Z own V n0 G h cells slots pcT ls st) (kF : ifCond.holds cd x = false → Run p l e R s m args below meth c Z own V n0 G h cells slots pcF ls st) : Run p l e R s m args below meth c Z own V n0 G h cells slots pc ls (.int x :: st) := by
  subst hF
  cases hc : ifCond.holds cd x
  · exact (kF hc).go fun T t A q => XS.ifNo (g := mkF m pc ls (.int x :: st)) A C.1 rfl (hb C.2.1 hd) rfl hc q
  · exact (kT hc).go fun T t A q => XS.ifYes (g := mkF m pc ls (.int x :: st)) A C.1 rfl (pc0 := pc) (pc' := pcT) rfl (hb C.2.1 hd) rfl hc (toN hT).1 (toN hT).2 q
theorem tf {P : Prop} {b : Bool} (h1 : P → b = true) (h2 : ¬ P → b = false) : (b = true → P) ∧ (b = false → ¬ P) := ⟨fun h => Classical.byContradiction fun q => (by rw [h2 q] at h; cases h), fun h q => (by rw [h1 q] at h; cases h)⟩
theorem lt32 {x y : Int32} : x < y ↔ x.toInt < y.toInt := Int32.lt_iff_toInt_lt
theorem nlt32 {x y : Int32} : ¬ x < y ↔ y.toInt ≤ x.toInt := by rw [lt32]; omega
theorem lt64 {x y : Int64} : x < y ↔ x.toInt < y.toInt := Int64.lt_iff_toInt_lt
theorem nlt64 {x y : Int64} : ¬ x < y ↔ y.toInt ≤ x.toInt := by rw [lt64]; omega
theorem r_icmplt {x y : Int32} {o : Int} {pcT pcF : Nat} (C : Cx p c meth bytes maxL ret nm) (hd : decode bytes pc = .ok (.if_icmp .lt o, 3)) (hT : (pc : Int) + o = (pcT : Int)) (hF : pc + 3 = pcF) (kT : x.toInt < y.toInt → Run p l e R s m args below meth c Z own V n0 G h cells slots pcT ls st) (kF : y.toInt ≤ x.toInt → Run p l e R s m args below meth c Z own V n0 G h cells slots pcF ls st) : Run p l e R s m args below meth c Z own V n0 G h cells slots pc ls (.int y :: .int x :: st) :=
  r_icmp C hd hT hF (fun hc => kT (lt32.mp ((tf (P := x < y) XT.ii_lt_t XT.ii_lt_f).1 hc))) (fun hc => kF (nlt32.mp ((tf (P := x < y) XT.ii_lt_t XT.ii_lt_f).2 hc)))
theorem r_iflt {x : Int32} {o : Int} {pcT pcF : Nat} (C : Cx p c meth bytes maxL ret nm) (hd : decode bytes pc = .ok (.ifCond .lt o, 3)) (hT : (pc : Int) + o = (pcT : Int)) (hF : pc + 3 = pcF) (kT : x.toInt < 0 → Run p l e R s m args below meth c Z own V n0 G h cells slots pcT ls st) (kF : 0 ≤ x.toInt → Run p l e R s m args below meth c Z own V n0 G h cells slots pcF ls st) : Run p l e R s m args below meth c Z own V n0 G h cells slots pc ls (.int x :: st) :=
  r_if C hd hT hF (fun hc => kT (lt32.mp ((tf (P := x < (0 : Int32)) XT.i0_lt_t XT.i0_lt_f).1 hc))) (fun hc => kF (nlt32.mp ((tf (P := x < (0 : Int32)) XT.i0_lt_t XT.i0_lt_f).2 hc)))
theorem r_lcmplt {x y : Int64} {o : Int} {pcT pcF : Nat} (C : Cx p c meth bytes maxL ret nm) (hd0 : decode bytes pc = .ok (.lcmp, 1)) (hp : pc + 1 = pc') (hd : decode bytes pc' = .ok (.ifCond .lt o, 3)) (hT : (pc' : Int) + o = (pcT : Int)) (hF : pc' + 3 = pcF) (kT : x.toInt < y.toInt → Run p l e R s m args below meth c Z own V n0 G h cells slots pcT ls st) (kF : y.toInt ≤ x.toInt → Run p l e R s m args below meth c Z own V n0 G h cells slots pcF ls st) : Run p l e R s m args below meth c Z own V n0 G h cells slots pc ls (.long y :: .long x :: st) := by
  subst hp
  exact (r_if (x := XT.cmpL x y) C hd hT hF (fun hc => kT (lt64.mp ((tf (P := x < y) XT.ll_lt_t XT.ll_lt_f).1 hc))) (fun hc => kF (nlt64.mp ((tf (P := x < y) XT.ll_lt_t XT.ll_lt_f).2 hc)))).go fun T t A q => XT.lcmp (g := mkF m pc ls (.long y :: .long x :: st)) A C.1 rfl (hb C.2.1 hd0) rfl q
theorem r_icmpge {x y : Int32} {o : Int} {pcT pcF : Nat} (C : Cx p c meth bytes maxL ret nm) (hd : decode bytes pc = .ok (.if_icmp .ge o, 3)) (hT : (pc : Int) + o = (pcT : Int)) (hF : pc + 3 = pcF) (kT : y.toInt ≤ x.toInt → Run p l e R s m args below meth c Z own V n0 G h cells slots pcT ls st) (kF : x.toInt < y.toInt → Run p l e R s m args below meth c Z own V n0 G h cells slots pcF ls st) : Run p l e R s m args below meth c Z own V n0 G h cells slots pc ls (.int y :: .int x :: st) :=
  r_icmp C hd hT hF (fun hc => kT (nlt32.mp ((tf (P := ¬ x < y) XT.ii_ge_t (fun q => XT.ii_ge_f (Classical.not_not.mp q))).1 hc))) (fun hc => kF (lt32.mp (Classical.not_not.mp ((tf (P := ¬ x < y) XT.ii_ge_t (fun q => XT.ii_ge_f (Classical.not_not.mp q))).2 hc))))
theorem r_ifge {x : Int32} {o : Int} {pcT pcF : Nat} (C : Cx p c meth bytes maxL ret nm) (hd : decode bytes pc = .ok (.ifCond .ge o, 3)) (hT : (pc : Int) + o = (pcT : Int)) (hF : pc + 3 = pcF) (kT : 0 ≤ x.toInt → Run p l e R s m args below meth c Z own V n0 G h cells slots pcT ls st) (kF : x.toInt < 0 → Run p l e R s m args below meth c Z own V n0 G h cells slots pcF ls st) : Run p l e R s m args below meth c Z own V n0 G h cells slots pc ls (.int x :: st) :=
  r_if C hd hT hF (fun hc => kT (nlt32.mp ((tf (P := ¬ x < (0 : Int32)) XT.i0_ge_t (fun q => XT.i0_ge_f (Classical.not_not.mp q))).1 hc))) (fun hc => kF (lt32.mp (Classical.not_not.mp ((tf (P := ¬ x < (0 : Int32)) XT.i0_ge_t (fun q => XT.i0_ge_f (Classical.not_not.mp q))).2 hc))))
theorem r_lcmpge {x y : Int64} {o : Int} {pcT pcF : Nat} (C : Cx p c meth bytes maxL ret nm) (hd0 : decode bytes pc = .ok (.lcmp, 1)) (hp : pc + 1 = pc') (hd : decode bytes pc' = .ok (.ifCond .ge o, 3)) (hT : (pc' : Int) + o = (pcT : Int)) (hF : pc' + 3 = pcF) (kT : y.toInt ≤ x.toInt → Run p l e R s m args below meth c Z own V n0 G h cells slots pcT ls st) (kF : x.toInt < y.toInt → Run p l e R s m args below meth c Z own V n0 G h cells slots pcF ls st) : Run p l e R s m args below meth c Z own V n0 G h cells slots pc ls (.long y :: .long x :: st) := by
  subst hp
  exact (r_if (x := XT.cmpL x y) C hd hT hF (fun hc => kT (nlt64.mp ((tf (P := ¬ x < y) XT.ll_ge_t (fun q => XT.ll_ge_f (Classical.not_not.mp q))).1 hc))) (fun hc => kF (lt64.mp (Classical.not_not.mp ((tf (P := ¬ x < y) XT.ll_ge_t (fun q => XT.ll_ge_f (Classical.not_not.mp q))).2 hc))))).go fun T t A q => XT.lcmp (g := mkF m pc ls (.long y :: .long x :: st)) A C.1 rfl (hb C.2.1 hd0) rfl q
theorem r_icmpgt {x y : Int32} {o : Int} {pcT pcF : Nat} (C : Cx p c meth bytes maxL ret nm) (hd : decode bytes pc = .ok (.if_icmp .gt o, 3)) (hT : (pc : Int) + o = (pcT : Int)) (hF : pc + 3 = pcF) (kT : y.toInt < x.toInt → Run p l e R s m args below meth c Z own V n0 G h cells slots pcT ls st) (kF : x.toInt ≤ y.toInt → Run p l e R s m args below meth c Z own V n0 G h cells slots pcF ls st) : Run p l e R s m args below meth c Z own V n0 G h cells slots pc ls (.int y :: .int x :: st) :=
  r_icmp C hd hT hF (fun hc => kT (lt32.mp ((tf (P := y < x) XT.ii_gt_t XT.ii_gt_f).1 hc))) (fun hc => kF (nlt32.mp ((tf (P := y < x) XT.ii_gt_t XT.ii_gt_f).2 hc)))
theorem r_ifgt {x : Int32} {o : Int} {pcT pcF : Nat} (C : Cx p c meth bytes maxL ret nm) (hd : decode bytes pc = .ok (.ifCond .gt o, 3)) (hT : (pc : Int) + o = (pcT : Int)) (hF : pc + 3 = pcF) (kT : 0 < x.toInt → Run p l e R s m args below meth c Z own V n0 G h cells slots pcT ls st) (kF : x.toInt ≤ 0 → Run p l e R s m args below meth c Z own V n0 G h cells slots pcF ls st) : Run p l e R s m args below meth c Z own V n0 G h cells slots pc ls (.int x :: st) :=
  r_if C hd hT hF (fun hc => kT (lt32.mp ((tf (P := (0 : Int32) < x) XT.i0_gt_t XT.i0_gt_f).1 hc))) (fun hc => kF (nlt32.mp ((tf (P := (0 : Int32) < x) XT.i0_gt_t XT.i0_gt_f).2 hc)))
theorem r_lcmpgt {x y : Int64} {o : Int} {pcT pcF : Nat} (C : Cx p c meth bytes maxL ret nm) (hd0 : decode bytes pc = .ok (.lcmp, 1)) (hp : pc + 1 = pc') (hd : decode bytes pc' = .ok (.ifCond .gt o, 3)) (hT : (pc' : Int) + o = (pcT : Int)) (hF : pc' + 3 = pcF) (kT : y.toInt < x.toInt → Run p l e R s m args below meth c Z own V n0 G h cells slots pcT ls st) (kF : x.toInt ≤ y.toInt → Run p l e R s m args below meth c Z own V n0 G h cells slots pcF ls st) : Run p l e R s m args below meth c Z own V n0 G h cells slots pc ls (.long y :: .long x :: st) := by
  subst hp
  exact (r_if (x := XT.cmpL x y) C hd hT hF (fun hc => kT (lt64.mp ((tf (P := y < x) XT.ll_gt_t XT.ll_gt_f).1 hc))) (fun hc => kF (nlt64.mp ((tf (P := y < x) XT.ll_gt_t XT.ll_gt_f).2 hc)))).go fun T t A q => XT.lcmp (g := mkF m pc ls (.long y :: .long x :: st)) A C.1 rfl (hb C.2.1 hd0) rfl q
theorem r_icmple {x y : Int32} {o : Int} {pcT pcF : Nat} (C : Cx p c meth bytes maxL ret nm) (hd : decode bytes pc = .ok (.if_icmp .le o, 3)) (hT : (pc : Int) + o = (pcT : Int)) (hF : pc + 3 = pcF) (kT : x.toInt ≤ y.toInt → Run p l e R s m args below meth c Z own V n0 G h cells slots pcT ls st) (kF : y.toInt < x.toInt → Run p l e R s m args below meth c Z own V n0 G h cells slots pcF ls st) : Run p l e R s m args below meth c Z own V n0 G h cells slots pc ls (.int y :: .int x :: st) :=
  r_icmp C hd hT hF (fun hc => kT (nlt32.mp ((tf (P := ¬ y < x) XT.ii_le_t (fun q => XT.ii_le_f (Classical.not_not.mp q))).1 hc))) (fun hc => kF (lt32.mp (Classical.not_not.mp ((tf (P := ¬ y < x) XT.ii_le_t (fun q => XT.ii_le_f (Classical.not_not.mp q))).2 hc))))
theorem r_ifle {x : Int32} {o : Int} {pcT pcF : Nat} (C : Cx p c meth bytes maxL ret nm) (hd : decode bytes pc = .ok (.ifCond .le o, 3)) (hT : (pc : Int) + o = (pcT : Int)) (hF : pc + 3 = pcF) (kT : x.toInt ≤ 0 → Run p l e R s m args below meth c Z own V n0 G h cells slots pcT ls st) (kF : 0 < x.toInt → Run p l e R s m args below meth c Z own V n0 G h cells slots pcF ls st) : Run p l e R s m args below meth c Z own V n0 G h cells slots pc ls (.int x :: st) :=
  r_if C hd hT hF (fun hc => kT (nlt32.mp ((tf (P := ¬ (0 : Int32) < x) XT.i0_le_t (fun q => XT.i0_le_f (Classical.not_not.mp q))).1 hc))) (fun hc => kF (lt32.mp (Classical.not_not.mp ((tf (P := ¬ (0 : Int32) < x) XT.i0_le_t (fun q => XT.i0_le_f (Classical.not_not.mp q))).2 hc))))
theorem r_lcmple {x y : Int64} {o : Int} {pcT pcF : Nat} (C : Cx p c meth bytes maxL ret nm) (hd0 : decode bytes pc = .ok (.lcmp, 1)) (hp : pc + 1 = pc') (hd : decode bytes pc' = .ok (.ifCond .le o, 3)) (hT : (pc' : Int) + o = (pcT : Int)) (hF : pc' + 3 = pcF) (kT : x.toInt ≤ y.toInt → Run p l e R s m args below meth c Z own V n0 G h cells slots pcT ls st) (kF : y.toInt < x.toInt → Run p l e R s m args below meth c Z own V n0 G h cells slots pcF ls st) : Run p l e R s m args below meth c Z own V n0 G h cells slots pc ls (.long y :: .long x :: st) := by
  subst hp
  exact (r_if (x := XT.cmpL x y) C hd hT hF (fun hc => kT (nlt64.mp ((tf (P := ¬ y < x) XT.ll_le_t (fun q => XT.ll_le_f (Classical.not_not.mp q))).1 hc))) (fun hc => kF (lt64.mp (Classical.not_not.mp ((tf (P := ¬ y < x) XT.ll_le_t (fun q => XT.ll_le_f (Classical.not_not.mp q))).2 hc))))).go fun T t A q => XT.lcmp (g := mkF m pc ls (.long y :: .long x :: st)) A C.1 rfl (hb C.2.1 hd0) rfl q
theorem r_icmpeq {x y : Int32} {o : Int} {pcT pcF : Nat} (C : Cx p c meth bytes maxL ret nm) (hd : decode bytes pc = .ok (.if_icmp .eq o, 3)) (hT : (pc : Int) + o = (pcT : Int)) (hF : pc + 3 = pcF) (kT : x = y → Run p l e R s m args below meth c Z own V n0 G h cells slots pcT ls st) (kF : ¬ x = y → Run p l e R s m args below meth c Z own V n0 G h cells slots pcF ls st) : Run p l e R s m args below meth c Z own V n0 G h cells slots pc ls (.int y :: .int x :: st) :=
  r_icmp C hd hT hF (fun hc => kT ((tf (P := x = y) XT.ii_eq_t XT.ii_eq_f).1 hc)) (fun hc => kF ((tf (P := x = y) XT.ii_eq_t XT.ii_eq_f).2 hc))
theorem r_ifeq {x : Int32} {o : Int} {pcT pcF : Nat} (C : Cx p c meth bytes maxL ret nm) (hd : decode bytes pc = .ok (.ifCond .eq o, 3)) (hT : (pc : Int) + o = (pcT : Int)) (hF : pc + 3 = pcF) (kT : x = 0 → Run p l e R s m args below meth c Z own V n0 G h cells slots pcT ls st) (kF : ¬ x = 0 → Run p l e R s m args below meth c Z own V n0 G h cells slots pcF ls st) : Run p l e R s m args below meth c Z own V n0 G h cells slots pc ls (.int x :: st) :=
  r_if C hd hT hF (fun hc => kT ((tf (P := x = 0) XT.i0_eq_t XT.i0_eq_f).1 hc)) (fun hc => kF ((tf (P := x = 0) XT.i0_eq_t XT.i0_eq_f).2 hc))
theorem r_lcmpeq {x y : Int64} {o : Int} {pcT pcF : Nat} (C : Cx p c meth bytes maxL ret nm) (hd0 : decode bytes pc = .ok (.lcmp, 1)) (hp : pc + 1 = pc') (hd : decode bytes pc' = .ok (.ifCond .eq o, 3)) (hT : (pc' : Int) + o = (pcT : Int)) (hF : pc' + 3 = pcF) (kT : x = y → Run p l e R s m args below meth c Z own V n0 G h cells slots pcT ls st) (kF : ¬ x = y → Run p l e R s m args below meth c Z own V n0 G h cells slots pcF ls st) : Run p l e R s m args below meth c Z own V n0 G h cells slots pc ls (.long y :: .long x :: st) := by
  subst hp
  exact (r_if (x := XT.cmpL x y) C hd hT hF (fun hc => kT ((tf (P := x = y) XT.ll_eq_t XT.ll_eq_f).1 hc)) (fun hc => kF ((tf (P := x = y) XT.ll_eq_t XT.ll_eq_f).2 hc))).go fun T t A q => XT.lcmp (g := mkF m pc ls (.long y :: .long x :: st)) A C.1 rfl (hb C.2.1 hd0) rfl q
theorem r_icmpne {x y : Int32} {o : Int} {pcT pcF : Nat} (C : Cx p c meth bytes maxL ret nm) (hd : decode bytes pc = .ok (.if_icmp .ne o, 3)) (hT : (pc : Int) + o = (pcT : Int)) (hF : pc + 3 = pcF) (kT : ¬ x = y → Run p l e R s m args below meth c Z own V n0 G h cells slots pcT ls st) (kF : x = y → Run p l e R s m args below meth c Z own V n0 G h cells slots pcF ls st) : Run p l e R s m args below meth c Z own V n0 G h cells slots pc ls (.int y :: .int x :: st) :=
  r_icmp C hd hT hF (fun hc => kT ((tf (P := ¬ x = y) XT.ii_ne_t (fun q => XT.ii_ne_f (Classical.not_not.mp q))).1 hc)) (fun hc => kF (Classical.not_not.mp ((tf (P := ¬ x = y) XT.ii_ne_t (fun q => XT.ii_ne_f (Classical.not_not.mp q))).2 hc)))
theorem r_ifne {x : Int32} {o : Int} {pcT pcF : Nat} (C : Cx p c meth bytes maxL ret nm) (hd : decode bytes pc = .ok (.ifCond .ne o, 3)) (hT : (pc : Int) + o = (pcT : Int)) (hF : pc + 3 = pcF) (kT : ¬ x = 0 → Run p l e R s m args below meth c Z own V n0 G h cells slots pcT ls st) (kF : x = 0 → Run p l e R s m args below meth c Z own V n0 G h cells slots pcF ls st) : Run p l e R s m args below meth c Z own V n0 G h cells slots pc ls (.int x :: st) :=
  r_if C hd hT hF (fun hc => kT ((tf (P := ¬ x = 0) XT.i0_ne_t (fun q => XT.i0_ne_f (Classical.not_not.mp q))).1 hc)) (fun hc => kF (Classical.not_not.mp ((tf (P := ¬ x = 0) XT.i0_ne_t (fun q => XT.i0_ne_f (Classical.not_not.mp q))).2 hc)))
theorem r_lcmpne {x y : Int64} {o : Int} {pcT pcF : Nat} (C : Cx p c meth bytes maxL ret nm) (hd0 : decode bytes pc = .ok (.lcmp, 1)) (hp : pc + 1 = pc') (hd : decode bytes pc' = .ok (.ifCond .ne o, 3)) (hT : (pc' : Int) + o = (pcT : Int)) (hF : pc' + 3 = pcF) (kT : ¬ x = y → Run p l e R s m args below meth c Z own V n0 G h cells slots pcT ls st) (kF : x = y → Run p l e R s m args below meth c Z own V n0 G h cells slots pcF ls st) : Run p l e R s m args below meth c Z own V n0 G h cells slots pc ls (.long y :: .long x :: st) := by
  subst hp
  exact (r_if (x := XT.cmpL x y) C hd hT hF (fun hc => kT ((tf (P := ¬ x = y) XT.ll_ne_t (fun q => XT.ll_ne_f (Classical.not_not.mp q))).1 hc)) (fun hc => kF (Classical.not_not.mp ((tf (P := ¬ x = y) XT.ll_ne_t (fun q => XT.ll_ne_f (Classical.not_not.mp q))).2 hc)))).go fun T t A q => XT.lcmp (g := mkF m pc ls (.long y :: .long x :: st)) A C.1 rfl (hb C.2.1 hd0) rfl q
theorem r_ifnonnullR {a : Addr} {o : Int} (C : Cx p c meth bytes maxL ret nm) (hd : decode bytes pc = .ok (.ifnonnull o, 3)) (hp : (pc : Int) + o = (pc' : Int)) (k : Run p l e R s m args below meth c Z own V n0 G h cells slots pc' ls st) : Run p l e R s m args below meth c Z own V n0 G h cells slots pc ls (.ref a :: st) :=
  k.go fun T t A q => XT.ifnonnullYes (g := mkF m pc ls (.ref a :: st)) A C.1 rfl (pc0 := pc) (pc' := pc') rfl (hb C.2.1 hd) rfl (toN hp).1 (toN hp).2 q
theorem r_ifnullR {a : Addr} {o : Int} (C : Cx p c meth bytes maxL ret nm) (hd : decode bytes pc = .ok (.ifnull o, 3)) (hp : pc + 3 = pc') (k : Run p l e R s m args below meth c Z own V n0 G h cells slots pc' ls st) : Run p l e R s m args below meth c Z own V n0 G h cells slots pc ls (.ref a :: st) := by
  subst hp
  exact k.go fun T t A q => XS.ifnullNo (g := mkF m pc ls (.ref a :: st)) A C.1 rfl (hb C.2.1 hd) rfl q
theorem r_ldc {i : Nat} {x : Int32} (C : Cx p c meth bytes maxL ret nm) (w : (Jvm.Cond.constant own i x).before a0 Z = true) (hd : decode bytes pc = .ok (.ldc i, 2)) (hp : pc + 2 = pc') (k : Run p l e R s m args below meth c Z own V n0 G h cells slots pc' ls (.int x :: st)) : Run p l e R s m args below meth c Z own V n0 G h cells slots pc ls st := by
  subst hp
  intro vm0 k0 T L X hV hk hZ ho N eT
  obtain ⟨U, o, h1, r⟩ := k vm0 k0 T L X hV hk hZ ho N eT
  exact ⟨U, o, X.ldcI (g := mkF m pc ls st) C.1 (own := own) ho (mvT (s := s.setVm vm0) hZ w) rfl (hb C.2.1 hd) h1, r⟩
theorem r_ldc_w {i : Nat} {x : Int32} (C : Cx p c meth bytes maxL ret nm) (w : (Jvm.Cond.constant own i x).before a0 Z = true) (hd : decode bytes pc = .ok (.ldc_w i, 3)) (hp : pc + 3 = pc') (k : Run p l e R s m args below meth c Z own V n0 G h cells slots pc' ls (.int x :: st)) : Run p l e R s m args below meth c Z own V n0 G h cells slots pc ls st := by
  subst hp
  intro vm0 k0 T L X hV hk hZ ho N eT
  obtain ⟨U, o, h1, r⟩ := k vm0 k0 T L X hV hk hZ ho N eT
  exact ⟨U, o, X.ldcWI (g := mkF m pc ls st) C.1 (own := own) ho (mvT (s := s.setVm vm0) hZ w) rfl (hb C.2.1 hd) h1, r⟩
theorem r_ldc2_w {i : Nat} {x : Int64} (C : Cx p c meth bytes maxL ret nm) (w : (Jvm.Cond.constantLong own i x).before a0 Z = true) (hd : decode bytes pc = .ok (.ldc2_w i, 3)) (hp : pc + 3 = pc') (k : Run p l e R s m args below meth c Z own V n0 G h cells slots pc' ls (.long x :: st)) : Run p l e R s m args below meth c Z own V n0 G h cells slots pc ls st := by
  subst hp
  intro vm0 k0 T L X hV hk hZ ho N eT
  obtain ⟨U, o, h1, r⟩ := k vm0 k0 T L X hV hk hZ ho N eT
  exact ⟨U, o, X.ldc2J (g := mkF m pc ls st) C.1 (own := own) ho (mvT (s := s.setVm vm0) hZ w) rfl (hb C.2.1 hd) h1, r⟩
theorem retI0 {T : State} {locs : List Loc} {k n : Nat} (X : Stand p l e R s m args below meth c T locs k n) (hx : p.tables.exec = Jvm.exec) {pc : Nat} {Ls : Array Slot} {z : Int32} {rest : List Value} (hret : meth.sig.returnType = some .int) (hd : decode c.code pc = .ok (.ireturn, 1)) {fs : List Frame}
    (hl : ∀ (f : JFrame) (acts : List Action), f.method = m → f.locked = none → f.entered = [] → (doReturn e (T.setTop f) acts (some (.int z))).1 = T.setFrames fs) : Steps p.tables e below (T.setTop (mkF m pc Ls (.int z :: rest))) (T.setFrames fs) :=
  retOut X hx hret rfl (Or.inl ⟨rfl, Or.inl rfl, z, rfl⟩) hd hl
theorem r_ireturn {z : Int32} {P : Option Value → Heap → Prop} (C : Cx p c meth bytes maxL (some .int) nm) (hd : decode bytes pc = .ok (.ireturn, 1)) (hP : P (some (.int z)) h) (hc : cells ≤ R.cells) (hs : slots ≤ R.slots) : Run p l e R s m args below meth c Z own (plainV s) n0 (Gq s n0 R P) h cells slots pc ls (.int z :: st) := by
  intro vm0 k0 T L X hV hk hZ ho N eT
  cases (show vm0 = s.vm from hV)
  have X' : Stand p l e R s m args below meth c T L cells slots := X
  obtain ⟨fs, hr, hrun, hended, hW, hsame⟩ := X'.leave (v := (some (.int z))) (fun h => by first | rfl | (rw [C.2.2.2.1] at h; cases h)) C.2.2.2.2.1
  exact ⟨_, _, retI0 X' C.1 C.2.2.2.1 (hb C.2.1 hd) hr, hrun, hended, _, _, rfl, ⟨by show P _ T.heap; rw [eT]; exact hP, N⟩, ⟨_, rfl⟩, hW, hsame.mono hc hs⟩
theorem r_ireturnN {z : Int32} {t : FieldType} (ht : t = .boolean ∨ t = .byte ∨ t = .char ∨ t = .short) {P : Option Value → Heap → Prop} (C : Cx p c meth bytes maxL (some t) nm) (hd : decode bytes pc = .ok (.ireturn, 1)) (hP : P (some (.int (nar t z))) h) (hc : cells ≤ R.cells) (hs : slots ≤ R.slots) : Run p l e R s m args below meth c Z own (plainV s) n0 (Gq s n0 R P) h cells slots pc ls (.int z :: st) := by
  intro vm0 k0 T L X hV hk hZ ho N eT
  cases (show vm0 = s.vm from hV)
  have X' : Stand p l e R s m args below meth c T L cells slots := X
  obtain ⟨fs, hr, hrun, hended, hW, hsame⟩ := X'.leave (v := (some (.int (nar t z)))) (fun h => by first | rfl | (rw [C.2.2.2.1] at h; cases h)) C.2.2.2.2.1
  exact ⟨_, _, retN X' C.1 C.2.2.2.1 ht (hb C.2.1 hd) hr, hrun, hended, _, _, rfl, ⟨by show P _ T.heap; rw [eT]; exact hP, N⟩, ⟨_, rfl⟩, hW, hsame.mono hc hs⟩
theorem r_lreturn {z : Int64} {P : Option Value → Heap → Prop} (C : Cx p c meth bytes maxL (some .long) nm) (hd : decode bytes pc = .ok (.lreturn, 1)) (hP : P (some (.long z)) h) (hc : cells ≤ R.cells) (hs : slots ≤ R.slots) : Run p l e R s m args below meth c Z own (plainV s) n0 (Gq s n0 R P) h cells slots pc ls (.long z :: st) := by
  intro vm0 k0 T L X hV hk hZ ho N eT
  cases (show vm0 = s.vm from hV)
  have X' : Stand p l e R s m args below meth c T L cells slots := X
  obtain ⟨fs, hr, hrun, hended, hW, hsame⟩ := X'.leave (v := (some (.long z))) (fun h => by first | rfl | (rw [C.2.2.2.1] at h; cases h)) C.2.2.2.2.1
  exact ⟨_, _, retOut X' C.1 C.2.2.2.1 rfl (Or.inr (Or.inl ⟨rfl, rfl, z, rfl⟩)) (hb C.2.1 hd) hr, hrun, hended, _, _, rfl, ⟨by show P _ T.heap; rw [eT]; exact hP, N⟩, ⟨_, rfl⟩, hW, hsame.mono hc hs⟩
theorem r_areturn {a : Addr} {t : FieldType} (ht : t.isReference = true) (hn : narrow t (.ref a) = .ref a) {P : Option Value → Heap → Prop} (C : Cx p c meth bytes maxL (some t) nm) (hd : decode bytes pc = .ok (.areturn, 1)) (hP : P (some (.ref a)) h) (hc : cells ≤ R.cells) (hs : slots ≤ R.slots) : Run p l e R s m args below meth c Z own (plainV s) n0 (Gq s n0 R P) h cells slots pc ls (.ref a :: st) := by
  intro vm0 k0 T L X hV hk hZ ho N eT
  cases (show vm0 = s.vm from hV)
  have X' : Stand p l e R s m args below meth c T L cells slots := X
  obtain ⟨fs, hr, hrun, hended, hW, hsame⟩ := X'.leave (v := (some (.ref a))) (fun h => by first | rfl | (rw [C.2.2.2.1] at h; cases h)) C.2.2.2.2.1
  exact ⟨_, _, retOut X' C.1 C.2.2.2.1 hn (Or.inr (Or.inr (Or.inr (Or.inr ⟨rfl, ht, rfl⟩)))) (hb C.2.1 hd) hr, hrun, hended, _, _, rfl, ⟨by show P _ T.heap; rw [eT]; exact hP, N⟩, ⟨_, rfl⟩, hW, hsame.mono hc hs⟩
theorem r_return0  {P : Option Value → Heap → Prop} (C : Cx p c meth bytes maxL none nm) (hd : decode bytes pc = .ok (.return_, 1)) (hP : P none h) (hc : cells ≤ R.cells) (hs : slots ≤ R.slots) : Run p l e R s m args below meth c Z own (plainV s) n0 (Gq s n0 R P) h cells slots pc ls [] := by
  intro vm0 k0 T L X hV hk hZ ho N eT
  cases (show vm0 = s.vm from hV)
  have X' : Stand p l e R s m args below meth c T L cells slots := X
  obtain ⟨fs, hr, hrun, hended, hW, hsame⟩ := X'.leave (v := none) (fun h => by first | rfl | (rw [C.2.2.2.1] at h; cases h)) C.2.2.2.2.1
  exact ⟨_, _, X'.returnOut C.1 C.2.2.2.1 (hb C.2.1 hd) hr, hrun, hended, _, _, rfl, ⟨by show P _ T.heap; rw [eT]; exact hP, N⟩, ⟨_, rfl⟩, hW, hsame.mono hc hs⟩
theorem r_callS {y : MethodName} {bytes' : ByteArray} {maxL' : Nat} {ret' : Option FieldType} {rm : Room} {as : List Value} {P : Option Value → Heap → Prop} {index W : Nat} {ps : List FieldType} {r0 : Option FieldType} (C : Cx p c meth bytes maxL ret nm)
    (w1 : (Jvm.Cond.methodLink own index y).before a0 Z = true) (w2 : (Jvm.Cond.static y).before a0 Z = true) (w3 : (Jvm.Cond.initialized y.cls).before a0 Z = true) (w4 : (Jvm.Cond.code y bytes' maxL' ret').before a0 Z = true)
    (hy : y.cls ≠ "java/lang/invoke/MethodHandle" ∧ y.cls ≠ "java/lang/invoke/VarHandle") (hpd : parseMethodDescriptor y.desc = some ⟨ps, r0⟩) (hlen : as.length = ps.length) (hstk : st' = as.reverse ++ st) (hd : decode bytes pc = .ok (.invokestatic index, 3)) (hp : pc + 3 = pc')
    (hsz : ls.size = maxL) (hW : (st.map fun v => v.category).sum ≤ W) (K : Con l Z y bytes' maxL' ret' rm as.toArray h n0 P) (hf : rm.frames + 1 ≤ R.frames) (hl : W + (maxL' + 11) + rm.locals ≤ R.locals) (hc : cells + rm.cells ≤ R.cells) (hs : slots + rm.slots ≤ R.slots)
    (k : ∀ v h', P v h' → Run p l e R s m args below meth c Z own V n0 G h' (cells + rm.cells) (slots + rm.slots) pc' ls (v.toList ++ st)) : Run p l e R s m args below meth c Z own V n0 G h cells slots pc ls st' := by
  subst hp hstk
  intro vm0 k0 T L X hV hk hZ ho N eT
  have hZ' : Z.Warmed39 (s.setVm vm0).vm := hZ
  obtain ⟨v, vm₁, B, hw, X', ⟨L', hQ, e1, e2, e3⟩, stp⟩ := Jvm.LawKit.callS X C.1 (y := y) (own := own) ho (mvT hZ' w1) (mvT hZ' w2) (mvT hZ' w3) (mvT hZ' w4) hy
    (backOf (W := W) (Q := fun v h' L => P v h' ∧ Fr n0 L) (K []) hZ' w4 w3 hf hl) (g := mkF m pc ls (as.reverse ++ st)) rfl (by rw [C.2.2.1]; exact hsz) (argsL := as) (rest := st) (lenOf hpd hlen) rfl (by simpa using hW) (hb C.2.1 hd) (fun _ _ => ⟨rfl, eT, hc, hs⟩)
  obtain ⟨hP, N'⟩ := hQ
  obtain ⟨U, L2, ce2, sl2⟩ := B
  dsimp only [Pt.U, Pt.locs, Pt.cells, Pt.slots] at X' e1 e2 e3 stp hP
  subst e1 e2 e3
  have hle := (stp _ (Steps.refl _)).heap_le
  have hle' : h.size ≤ U.heap.size := by rw [← eT]; exact hle
  obtain ⟨U', o, h1, r⟩ := k v _ hP vm0 k0 U _ X' hV (Nat.le_trans hk hle') hZ ho (Fr.app N N') rfl
  exact ⟨U', o, stp _ h1, r⟩
/-- a constructor (or any '<init>') -/
theorem r_callI {y : MethodName} {bytes' : ByteArray} {maxL' : Nat} {rm : Room} {a : Addr} {as : List Value} {P : Option Value → Heap → Prop} {index W : Nat} {ps : List FieldType} {r0 : Option FieldType} (C : Cx p c meth bytes maxL ret nm) (hy1 : y.name = "<init>")
    (w1 : (Jvm.Cond.methodLink own index y).before a0 Z = true) (w2 : (Jvm.Cond.instanceMethod y).before a0 Z = true) (w3 : (Jvm.Cond.initialized y.cls).before a0 Z = true) (w4 : (Jvm.Cond.code y bytes' maxL' none).before a0 Z = true)
    (hy : y.cls ≠ "java/lang/invoke/MethodHandle" ∧ y.cls ≠ "java/lang/invoke/VarHandle") (hpd : parseMethodDescriptor y.desc = some ⟨ps, r0⟩) (hlen : as.length = ps.length) (hstk : st' = as.reverse ++ .ref a :: st) (hd : decode bytes pc = .ok (.invokespecial index, 3)) (hp : pc + 3 = pc')
    (hsz : ls.size = maxL) (hW : (st.map fun v => v.category).sum ≤ W) (K : Con l Z y bytes' maxL' none rm (.ref a :: as).toArray h n0 P) (hf : rm.frames + 1 ≤ R.frames) (hl : W + (maxL' + 11) + rm.locals ≤ R.locals) (hc : cells + rm.cells ≤ R.cells) (hs : slots + rm.slots ≤ R.slots)
    (k : ∀ v h', P v h' → Run p l e R s m args below meth c Z own V n0 G h' (cells + rm.cells) (slots + rm.slots) pc' ls (v.toList ++ st)) : Run p l e R s m args below meth c Z own V n0 G h cells slots pc ls st' := by
  subst hp hstk
  intro vm0 k0 T L X hV hk hZ ho N eT
  have hZ' : Z.Warmed39 (s.setVm vm0).vm := hZ
  obtain ⟨v, vm₁, B, hw, X', ⟨L', hQ, e1, e2, e3⟩, stp⟩ := X.specialBack C.1 (y := y) hy1 (own := own) ho (mvT hZ' w1) (mvT hZ' w2) (mvT hZ' w4) hy
    (backOf (W := W) (Q := fun v h' L => P v h' ∧ Fr n0 L) (K []) hZ' w4 w3 hf hl) (g := mkF m pc ls (as.reverse ++ .ref a :: st)) rfl (by rw [C.2.2.1]; exact hsz) (Steps.refl _) (a := a) (argsL := as) (rest := st) (lenOf hpd hlen) rfl (by simpa using hW) (hb C.2.1 hd) (fun _ _ => ⟨rfl, eT, hc, hs⟩)
  obtain ⟨hP, N'⟩ := hQ
  obtain ⟨U, L2, ce2, sl2⟩ := B
  dsimp only [Pt.U, Pt.locs, Pt.cells, Pt.slots] at X' e1 e2 e3 stp hP
  subst e1 e2 e3
  have hle := stp.heap_le
  have hle' : h.size ≤ U.heap.size := by rw [← eT]; exact hle
  obtain ⟨U', o, h1, r⟩ := k v _ hP vm0 k0 U _ X' hV (Nat.le_trans hk hle') hZ ho (Fr.app N N') rfl
  exact ⟨U', o, stp.trans h1, r⟩
/-- an instance method of an object whose class is known exactly -/
theorem r_callV {y z : MethodName} {K0 K1 : String} {bytes' : ByteArray} {maxL' : Nat} {ret' : Option FieldType} {rm : Room} {a : Addr} {as : List Value} {P : Option Value → Heap → Prop} {index W : Nat} {ps : List FieldType} {r0 : Option FieldType} (C : Cx p c meth bytes maxL ret nm)
    (w1 : (Jvm.Cond.methodLink own index y).before a0 Z = true) (w2 : (Jvm.Cond.declares y).before a0 Z = true) (w5 : (Jvm.Cond.selects K1 y y).before a0 Z = true) (w6 : (Jvm.Cond.selects K0 y z).before a0 Z = true) (w7 : (Jvm.Cond.instanceMethod z).before a0 Z = true) (w3 : (Jvm.Cond.initialized z.cls).before a0 Z = true) (w4 : (Jvm.Cond.code z bytes' maxL' ret').before a0 Z = true)
    (hy : y.cls ≠ "java/lang/invoke/MethodHandle" ∧ y.cls ≠ "java/lang/invoke/VarHandle") (hpd : parseMethodDescriptor y.desc = some ⟨ps, r0⟩) (hlen : as.length = ps.length) (hstk : st' = as.reverse ++ .ref a :: st) (hd : decode bytes pc = .ok (.invokevirtual index, 3)) (hp : pc + 3 = pc')
    (hsz : ls.size = maxL) (hW : (st.map fun v => v.category).sum ≤ W) (E : Exa Z h a K0) (K : Con l Z z bytes' maxL' ret' rm (.ref a :: as).toArray h n0 P) (hf : rm.frames + 1 ≤ R.frames) (hl : W + (maxL' + 11) + rm.locals ≤ R.locals) (hc : cells + rm.cells ≤ R.cells) (hs : slots + rm.slots ≤ R.slots)
    (k : ∀ v h', P v h' → Run p l e R s m args below meth c Z own V n0 G h' (cells + rm.cells) (slots + rm.slots) pc' ls (v.toList ++ st)) : Run p l e R s m args below meth c Z own V n0 G h cells slots pc ls st' := by
  subst hp hstk
  intro vm0 k0 T L X hV hk hZ ho N eT
  have hZ' : Z.Warmed39 (s.setVm vm0).vm := hZ
  obtain ⟨cq, kq, qa, qb, qc⟩ := isOf hZ' eT E
  have nf : NotFace (s.setVm vm0) y := notFace_of_selects (args := #[]) (mvT hZ' w5)
  obtain ⟨v, vm₁, B, hw, X', ⟨L', hQ, e1, e2, e3⟩, stp⟩ := X.virtualBack C.1 (y := y) (z := z) (own := own) ho (mvT hZ' w1) (mvT hZ' w2) nf (mvT hZ' w6) (mvT hZ' w7) hy
    (backOf (W := W) (Q := fun v h' L => P v h' ∧ Fr n0 L) (K []) hZ' w4 w3 hf hl) qa qc (g := mkF m pc ls (as.reverse ++ .ref a :: st)) rfl (by rw [C.2.2.1]; exact hsz) (Steps.refl _) (argsL := as) (rest := st) (lenOf hpd hlen) rfl (by simpa using hW) (hb C.2.1 hd) (fun _ _ => ⟨rfl, eT, hc, hs⟩)
  obtain ⟨hP, N'⟩ := hQ
  obtain ⟨U, L2, ce2, sl2⟩ := B
  dsimp only [Pt.U, Pt.locs, Pt.cells, Pt.slots] at X' e1 e2 e3 stp hP
  subst e1 e2 e3
  have hle := stp.heap_le
  have hle' : h.size ≤ U.heap.size := by rw [← eT]; exact hle
  obtain ⟨U', o, h1, r⟩ := k v _ hP vm0 k0 U _ X' hV (Nat.le_trans hk hle') hZ ho (Fr.app N N') rfl
  exact ⟨U', o, stp.trans h1, r⟩
theorem r_new {K0 : String} {index n : Nat} (C : Cx p c meth bytes maxL ret nm) (w1 : (Jvm.Cond.classLink own index K0).before a0 Z = true) (w2 : (Jvm.Cond.instantiable K0 n).before a0 Z = true) (w3 : (Jvm.Cond.initialized K0).before a0 Z = true) (hd : decode bytes pc = .ok (.new index, 3)) (hp : pc + 3 = pc') (hc : cells + 1 ≤ R.cells) (hs : slots + n ≤ R.slots)
    (k : ∀ (a : Addr) h', @Eq Nat a h.size → Keep h h' [] → Exa Z h' a K0 → (∀ {O nm d : String} {ty : FieldType}, Laid Z a0 K0 O nm d → parseFieldDescriptor d = some ty → Fld Z h' a O nm d (defaultValue ty)) → Run p l e R s m args below meth c Z own V n0 G h' (cells + 1) (slots + n) pc' ls (.ref a :: st)) : Run p l e R s m args below meth c Z own V n0 G h cells slots pc ls st := by
  subst hp
  intro vm0 k0 T L X hV hk hZ ho N eT
  have hZ' : Z.Warmed39 (s.setVm vm0).vm := hZ
  obtain ⟨T2, h2, X2, e2, E2, A2, D2, -, st2⟩ := newO X C.1 hZ' (own := own) ho w1 w2 w3 eT (g := mkF m pc ls st) rfl (hb C.2.1 hd) hc hs
  obtain ⟨U, o, h1, r⟩ := k _ h2 rfl ((Keep.refl h []).ext E2) A2 D2 vm0 k0 T2 L X2 hV (Nat.le_trans hk E2.1) hZ ho N e2
  exact ⟨U, o, st2 _ h1, r⟩
theorem r_getfield {R0 O n d : String} {host : String} {index : Nat} {a : Addr} {v : Value} (C : Cx p c meth bytes maxL ret nm) (w1 : (Jvm.Cond.fieldLink own index R0 n d).before a0 Z = true ∨ (Jvm.Cond.fieldLinkNest own index R0 n d host).before a0 Z = true) (via : Via Z R0 O n d) (hd : decode bytes pc = .ok (.getfield index, 3)) (hp : pc + 3 = pc') (F : Fld Z h a O n d v)
    (k : Run p l e R s m args below meth c Z own V n0 G h cells slots pc' ls (v :: st)) : Run p l e R s m args below meth c Z own V n0 G h cells slots pc ls (.ref a :: st) := by
  subst hp
  intro vm0 k0 T L X hV hk hZ ho N eT
  have hZ' : Z.Warmed39 (s.setVm vm0).vm := hZ
  obtain ⟨T2, X2, e2, st2⟩ := getF X C.1 hZ' (own := own) ho w1 via eT F (g := mkF m pc ls (.ref a :: st)) rfl rfl (hb C.2.1 hd)
  obtain ⟨U, o, h1, r⟩ := k vm0 k0 T2 L X2 hV hk hZ ho N e2
  exact ⟨U, o, st2 _ h1, r⟩
theorem r_putfield {R0 O n d K0 : String} {host : String} {index kk : Nat} {ty : FieldType} {a : Addr} {v old : Value} (C : Cx p c meth bytes maxL ret nm) (w1 : (Jvm.Cond.fieldLink own index R0 n d).before a0 Z = true ∨ (Jvm.Cond.fieldLinkNest own index R0 n d host).before a0 Z = true) (via : Via Z R0 O n d) (hL : (Jvm.Cond.lays K0 O n d).before a0 Z = true ∨ ((Jvm.Cond.laysFinal K0 O n d).before a0 Z = true ∧ own = O ∧ nm = "<init>")) (w2 : (Jvm.Cond.instantiable K0 kk).before a0 Z = true) (hty : parseFieldDescriptor d = some ty)
    (hd : decode bytes pc = .ok (.putfield index, 3)) (hp : pc + 3 = pc') (hn : narrow ty v = v) (hfi : fits ty v = true) (hge : n0 ≤ a) (F : Fld Z h a O n d old) (E : Exa Z h a K0)
    (k : ∀ h', Keep h h' [a] → Exa Z h' a K0 → Fld Z h' a O n d v → (∀ {O' n' d' : String} {w : Value} {t' : FieldType}, Laid Z a0 K0 O' n' d' → Laid Z a0 K0 O n d → n' ≠ n → parseFieldDescriptor d' = some t' → Fld Z h a O' n' d' w → Fld Z h' a O' n' d' w) → Run p l e R s m args below meth c Z own V n0 G h' cells slots pc' ls st) : Run p l e R s m args below meth c Z own V n0 G h cells slots pc ls (v :: .ref a :: st) := by
  subst hp
  intro vm0 k0 T L X hV hk hZ ho N eT
  have hZ' : Z.Warmed39 (s.setVm vm0).vm := hZ
  obtain ⟨T2, h2, X2, e2, W2, st2⟩ := putF X C.1 hZ' (own := own) ho w1 via eT F E (hL.imp id fun q => ⟨q.1, q.2.1, C.2.2.2.2.2.trans q.2.2⟩) w2 hty hn hfi (g := mkF m pc ls (v :: .ref a :: st)) rfl rfl (hb C.2.1 hd)
  obtain ⟨U, o, h1, r⟩ := k h2 (Keep.of_wr W2) (E.wr W2) (F.same W2) (fun L1 L2 hne ht F' => F'.other W2 (Or.inr (slot_ne L1 L2 hne ht hty))) vm0 k0 T2 _ X2 hV (by rw [W2.size]; exact hk) hZ ho (Fr.snoc X2 N hge) e2
  exact ⟨U, o, st2 _ h1, r⟩
theorem r_putfieldN {R0 O n d K0 : String} {index kk : Nat} {ty : FieldType} {a : Addr} {v v' old : Value} (C : Cx p c meth bytes maxL ret nm) (w1 : (Jvm.Cond.fieldLink own index R0 n d).before a0 Z = true) (via : Via Z R0 O n d) (hL : (Jvm.Cond.lays K0 O n d).before a0 Z = true ∨ ((Jvm.Cond.laysFinal K0 O n d).before a0 Z = true ∧ own = O ∧ nm = "<init>")) (w2 : (Jvm.Cond.instantiable K0 kk).before a0 Z = true) (hty : parseFieldDescriptor d = some ty)
    (hd : decode bytes pc = .ok (.putfield index, 3)) (hp : pc + 3 = pc') (hn : narrow ty v = v') (hfi : fits ty v' = true) (hge : n0 ≤ a) (F : Fld Z h a O n d old) (E : Exa Z h a K0)
    (k : ∀ h', Keep h h' [a] → Exa Z h' a K0 → Fld Z h' a O n d v' → (∀ {O' n' d' : String} {w : Value} {t' : FieldType}, Laid Z a0 K0 O' n' d' → Laid Z a0 K0 O n d → n' ≠ n → parseFieldDescriptor d' = some t' → Fld Z h a O' n' d' w → Fld Z h' a O' n' d' w) → Run p l e R s m args below meth c Z own V n0 G h' cells slots pc' ls st) : Run p l e R s m args below meth c Z own V n0 G h cells slots pc ls (v :: .ref a :: st) := by
  subst hp
  intro vm0 k0 T L X hV hk hZ ho N eT
  have hZ' : Z.Warmed39 (s.setVm vm0).vm := hZ
  obtain ⟨T2, h2, X2, e2, W2, st2⟩ := putFN X C.1 hZ' (own := own) ho w1 via eT F E (hL.imp id fun q => ⟨q.1, q.2.1, C.2.2.2.2.2.trans q.2.2⟩) w2 hty hn hfi (g := mkF m pc ls (v :: .ref a :: st)) rfl rfl (hb C.2.1 hd)
  obtain ⟨U, o, h1, r⟩ := k h2 (Keep.of_wr W2) (E.wr W2) (F.same W2) (fun L1 L2 hne ht F' => F'.other W2 (Or.inr (slot_ne L1 L2 hne ht hty))) vm0 k0 T2 _ X2 hV (by rw [W2.size]; exact hk) hZ ho (Fr.snoc X2 N hge) e2
  exact ⟨U, o, st2 _ h1, r⟩
theorem r_initO {index W : Nat} {a : Addr} (C : Cx p c meth bytes maxL ret nm) (w1 : (Jvm.Cond.methodLink own index Lib.objectInit).before a0 Z = true) (w2 : (Jvm.Cond.instanceMethod Lib.objectInit).before a0 Z = true) (w3 : (Jvm.Cond.code Lib.objectInit ⟨#[0xb1]⟩ 1 none).before a0 Z = true) (hd : decode bytes pc = .ok (.invokespecial index, 3)) (hp : pc + 3 = pc') (hsz : ls.size = maxL)
    (hf : 1 ≤ R.frames) (hW : (st.map fun v => v.category).sum ≤ W) (hl : W + 12 ≤ R.locals) (k : Run p l e R s m args below meth c Z own V n0 G h cells slots pc' ls st) : Run p l e R s m args below meth c Z own V n0 G h cells slots pc ls (.ref a :: st) := by
  subst hp
  intro vm0 k0 T L X hV hk hZ ho N eT
  have hZ' : Z.Warmed39 (s.setVm vm0).vm := hZ
  obtain ⟨T2, X2, e2, st2⟩ := initO X C.1 hZ' (own := own) ho w1 w2 w3 eT (g := mkF m pc ls (.ref a :: st)) rfl (by rw [C.2.2.1]; exact hsz) rfl (hb C.2.1 hd) hf (W := W) (by simpa using hW) hl
  obtain ⟨U, o, h1, r⟩ := k vm0 k0 T2 L X2 hV hk hZ ho N e2
  exact ⟨U, o, st2 _ h1, r⟩
theorem r_getstatic {R0 O n d host : String} {index : Nat} {v : Value} (C : Cx p c meth bytes maxL ret nm) (w1 : (Jvm.Cond.fieldLink own index R0 n d).before a0 Z = true) (via : Via Z R0 O n d) (hd : decode bytes pc = .ok (.getstatic index, 3)) (hp : pc + 3 = pc') (F : Sta Z h O n d v) (k : Run p l e R s m args below meth c Z own V n0 G h cells slots pc' ls (v :: st)) : Run p l e R s m args below meth c Z own V n0 G h cells slots pc ls st := by
  subst hp
  intro vm0 k0 T L X hV hk hZ ho N eT
  have hZ' : Z.Warmed39 (s.setVm vm0).vm := hZ
  obtain ⟨T2, X2, e2, st2⟩ := getS2 X C.1 hZ' (own := own) ho (host := "") (Or.inl w1) via eT F (g := mkF m pc ls st) rfl (hb C.2.1 hd)
  obtain ⟨U, o, h1, r⟩ := k vm0 k0 T2 L X2 hV hk hZ ho N e2
  exact ⟨U, o, st2 _ h1, r⟩
/-- the array at a: n places of kind ty, place j holds f j -/
def IA (Z : State) (h : Heap) (a : Addr) (ty : FieldType) (n : Nat) (f : Nat → Value) : Prop := ∃ cl : Cell, Arr Z h a cl ty ∧ cl.slots.size = n ∧ n < 2 ^ 31 ∧ ∀ j, j < n → cl.slots[j]? = some (f j)
theorem IA.lt {a : Addr} {ty : FieldType} {n : Nat} {f : Nat → Value} (A : IA Z h a ty n f) : a < h.size := by obtain ⟨cl, A, -⟩ := A; exact A.lt
theorem IA.keep {h' : Heap} {ws : List Addr} {a : Addr} {ty : FieldType} {n : Nat} {f : Nat → Value} (A : IA Z h a ty n f) (K : Keep h h' ws) (q : a ∉ ws) : IA Z h' a ty n f := by
  obtain ⟨cl, A, r⟩ := A
  exact ⟨cl, ⟨K.2.1 a cl A.1 q, A.2⟩, r⟩
theorem IA.congr {a : Addr} {ty : FieldType} {n : Nat} {f g : Nat → Value} (A : IA Z h a ty n f) (q : ∀ j, j < n → f j = g j) : IA Z h a ty n g := by
  obtain ⟨cl, A, r1, r2, r3⟩ := A
  exact ⟨cl, A, r1, r2, fun j hj => by rw [r3 j hj, q j hj]⟩
theorem tnn {j : Int32} {n : Nat} (h : j.toInt = (n : Int)) : ¬ j < 0 ∧ j.toNatClampNeg = n := by
  have h0 : ¬ j < 0 := nlt32.mpr (by rw [h]; show (0 : Int) ≤ _; omega)
  exact ⟨h0, by have := nat_of h0; omega⟩
theorem IA.set {h' : Heap} {a : Addr} {ty : FieldType} {n k : Nat} {f : Nat → Value} {v : Value} (A : IA Z h a ty n f) (W : Wr h h' a k v) : IA Z h' a ty n (fun j => if j = k then v else f j) := by
  obtain ⟨cl, A, r1, r2, r3⟩ := A
  refine ⟨cl.setSlot k v, A.same W, by rw [sz_set, r1], r2, fun j hj => ?_⟩
  show (cl.slots.setIfInBounds k v)[j]? = _
  rw [Array.getElem?_setIfInBounds]
  by_cases q : k = j
  · subst q; simp [r1, hj]
  · rw [if_neg q, r3 j hj]
    show some (f j) = some (if j = k then v else f j)
    rw [if_neg (fun z => q (Eq.symm z))]
theorem r_iaload {a : Addr} {n jn : Nat} {f : Nat → Int32} {j : Int32} {x : Int32} (C : Cx p c meth bytes maxL ret nm) (hd : decode bytes pc = .ok (.iaload, 1)) (hp : pc + 1 = pc') (A : IA Z h a .int n (fun i => .int (f i))) (hj : j.toInt = (jn : Int)) (hlt : jn < n) (hv : f jn = x) (k : Run p l e R s m args below meth c Z own V n0 G h cells slots pc' ls (.int x :: st)) : Run p l e R s m args below meth c Z own V n0 G h cells slots pc ls (.int j :: .ref a :: st) := by
  subst hp
  intro vm0 k0 T L X hV hk hZ ho N eT
  have hZ' : Z.Warmed39 (s.setVm vm0).vm := hZ
  obtain ⟨cl, A, r1, r2, r3⟩ := A
  obtain ⟨t1, t2⟩ := tnn hj
  obtain ⟨U, o, h1, r⟩ := k vm0 k0 T L X hV hk hZ ho N eT
  exact ⟨U, o, X.iaload C.1 (j := j) (v := .int x) (by rw [eT]; exact A.1) (State.isArrayOf_alike hZ'.alike A.2.1) A.2.2 (by rw [r1, t2]; exact fun q => q.elim t1 (Nat.not_le.mpr hlt)) (by rw [t2, r3 jn hlt, ← hv]) (g := mkF m pc ls (.int j :: .ref a :: st)) rfl rfl (hb C.2.1 hd) _ h1, r⟩
theorem r_laload {a : Addr} {n jn : Nat} {f : Nat → Int64} {j : Int32} {x : Int64} (C : Cx p c meth bytes maxL ret nm) (hd : decode bytes pc = .ok (.laload, 1)) (hp : pc + 1 = pc') (A : IA Z h a .long n (fun i => .long (f i))) (hj : j.toInt = (jn : Int)) (hlt : jn < n) (hv : f jn = x) (k : Run p l e R s m args below meth c Z own V n0 G h cells slots pc' ls (.long x :: st)) : Run p l e R s m args below meth c Z own V n0 G h cells slots pc ls (.int j :: .ref a :: st) := by
  subst hp
  intro vm0 k0 T L X hV hk hZ ho N eT
  have hZ' : Z.Warmed39 (s.setVm vm0).vm := hZ
  obtain ⟨cl, A, r1, r2, r3⟩ := A
  obtain ⟨t1, t2⟩ := tnn hj
  obtain ⟨U, o, h1, r⟩ := k vm0 k0 T L X hV hk hZ ho N eT
  exact ⟨U, o, X.laload C.1 (j := j) (v := .long x) (by rw [eT]; exact A.1) (State.isArrayOf_alike hZ'.alike A.2.1) A.2.2 (by rw [r1, t2]; exact fun q => q.elim t1 (Nat.not_le.mpr hlt)) (by rw [t2, r3 jn hlt, ← hv]) (g := mkF m pc ls (.int j :: .ref a :: st)) rfl rfl (hb C.2.1 hd) _ h1, r⟩
theorem r_caload {a : Addr} {n jn : Nat} {f : Nat → Int32} {j : Int32} {x : Int32} (C : Cx p c meth bytes maxL ret nm) (hd : decode bytes pc = .ok (.caload, 1)) (hp : pc + 1 = pc') (A : IA Z h a .char n (fun i => .int (f i))) (hj : j.toInt = (jn : Int)) (hlt : jn < n) (hv : f jn = x) (k : Run p l e R s m args below meth c Z own V n0 G h cells slots pc' ls (.int x :: st)) : Run p l e R s m args below meth c Z own V n0 G h cells slots pc ls (.int j :: .ref a :: st) := by
  subst hp
  intro vm0 k0 T L X hV hk hZ ho N eT
  have hZ' : Z.Warmed39 (s.setVm vm0).vm := hZ
  obtain ⟨cl, A, r1, r2, r3⟩ := A
  obtain ⟨t1, t2⟩ := tnn hj
  obtain ⟨U, o, h1, r⟩ := k vm0 k0 T L X hV hk hZ ho N eT
  exact ⟨U, o, X.caload C.1 (j := j) (v := .int x) (by rw [eT]; exact A.1) (State.isArrayOf_alike hZ'.alike A.2.1) A.2.2 (by rw [r1, t2]; exact fun q => q.elim t1 (Nat.not_le.mpr hlt)) (by rw [t2, r3 jn hlt, ← hv]) (g := mkF m pc ls (.int j :: .ref a :: st)) rfl rfl (hb C.2.1 hd) _ h1, r⟩
theorem r_baload {a : Addr} {n jn : Nat} {f : Nat → Int32} {j : Int32} {x : Int32} (C : Cx p c meth bytes maxL ret nm) (hd : decode bytes pc = .ok (.baload, 1)) (hp : pc + 1 = pc') (A : IA Z h a .byte n (fun i => .int (f i))) (hj : j.toInt = (jn : Int)) (hlt : jn < n) (hv : f jn = x) (k : Run p l e R s m args below meth c Z own V n0 G h cells slots pc' ls (.int x :: st)) : Run p l e R s m args below meth c Z own V n0 G h cells slots pc ls (.int j :: .ref a :: st) := by
  subst hp
  intro vm0 k0 T L X hV hk hZ ho N eT
  have hZ' : Z.Warmed39 (s.setVm vm0).vm := hZ
  obtain ⟨cl, A, r1, r2, r3⟩ := A
  obtain ⟨t1, t2⟩ := tnn hj
  obtain ⟨U, o, h1, r⟩ := k vm0 k0 T L X hV hk hZ ho N eT
  exact ⟨U, o, X.baloadBytes C.1 (j := j) (v := .int x) (by rw [eT]; exact A.1) (State.isArrayOf_alike hZ'.alike A.2.1) A.2.2 (by rw [r1, t2]; exact fun q => q.elim t1 (Nat.not_le.mpr hlt)) (by rw [t2, r3 jn hlt, ← hv]) (g := mkF m pc ls (.int j :: .ref a :: st)) rfl rfl (hb C.2.1 hd) _ h1, r⟩
theorem r_zaload {a : Addr} {n jn : Nat} {f : Nat → Int32} {j : Int32} {x : Int32} (C : Cx p c meth bytes maxL ret nm) (hd : decode bytes pc = .ok (.baload, 1)) (hp : pc + 1 = pc') (A : IA Z h a .boolean n (fun i => .int (f i))) (hj : j.toInt = (jn : Int)) (hlt : jn < n) (hv : f jn = x) (k : Run p l e R s m args below meth c Z own V n0 G h cells slots pc' ls (.int x :: st)) : Run p l e R s m args below meth c Z own V n0 G h cells slots pc ls (.int j :: .ref a :: st) := by
  subst hp
  intro vm0 k0 T L X hV hk hZ ho N eT
  have hZ' : Z.Warmed39 (s.setVm vm0).vm := hZ
  obtain ⟨cl, A, r1, r2, r3⟩ := A
  obtain ⟨t1, t2⟩ := tnn hj
  obtain ⟨U, o, h1, r⟩ := k vm0 k0 T L X hV hk hZ ho N eT
  exact ⟨U, o, X.baloadBooleans C.1 (j := j) (v := .int x) (by rw [eT]; exact A.1) (State.isArrayOf_alike hZ'.alike A.2.1) A.2.2 (by rw [r1, t2]; exact fun q => q.elim t1 (Nat.not_le.mpr hlt)) (by rw [t2, r3 jn hlt, ← hv]) (g := mkF m pc ls (.int j :: .ref a :: st)) rfl rfl (hb C.2.1 hd) _ h1, r⟩
theorem r_iastore {a : Addr} {n jn : Nat} {f : Nat → Int32} {j : Int32} {x : Int32} (C : Cx p c meth bytes maxL ret nm) (hd : decode bytes pc = .ok (.iastore, 1)) (hp : pc + 1 = pc') (A : IA Z h a .int n (fun i => .int (f i))) (hj : j.toInt = (jn : Int)) (hlt : jn < n) (hge : n0 ≤ a) (k : ∀ h', Keep h h' [a] → IA Z h' a .int n (fun i => .int (if i = jn then x else f i)) → Run p l e R s m args below meth c Z own V n0 G h' cells slots pc' ls st) : Run p l e R s m args below meth c Z own V n0 G h cells slots pc ls (.int x :: .int j :: .ref a :: st) := by
  subst hp
  intro vm0 k0 T L X hV hk hZ ho N eT
  have hZ' : Z.Warmed39 (s.setVm vm0).vm := hZ
  have A0 := A
  obtain ⟨cl, A, r1, r2, r3⟩ := A
  obtain ⟨t1, t2⟩ := tnn hj
  obtain ⟨T2, h2, X2, e2, W2, st2⟩ := stI X C.1 hZ' eT A (j := j) (x := x) (by rw [r1, t2]; exact fun q => q.elim t1 (Nat.not_le.mpr hlt)) (g := mkF m pc ls (.int x :: .int j :: .ref a :: st)) rfl rfl (hb C.2.1 hd)
  rw [t2] at W2
  obtain ⟨U, o, h1, r⟩ := k h2 (Keep.of_wr W2) ((A0.set W2).congr fun i _ => by by_cases q : i = jn <;> simp [q]) vm0 k0 T2 _ X2 hV (by rw [W2.size]; exact hk) hZ ho (Fr.snoc X2 N hge) e2
  exact ⟨U, o, st2 _ h1, r⟩
theorem r_lastore {a : Addr} {n jn : Nat} {f : Nat → Int64} {j : Int32} {x : Int64} (C : Cx p c meth bytes maxL ret nm) (hd : decode bytes pc = .ok (.lastore, 1)) (hp : pc + 1 = pc') (A : IA Z h a .long n (fun i => .long (f i))) (hj : j.toInt = (jn : Int)) (hlt : jn < n) (hge : n0 ≤ a) (k : ∀ h', Keep h h' [a] → IA Z h' a .long n (fun i => .long (if i = jn then x else f i)) → Run p l e R s m args below meth c Z own V n0 G h' cells slots pc' ls st) : Run p l e R s m args below meth c Z own V n0 G h cells slots pc ls (.long x :: .int j :: .ref a :: st) := by
  subst hp
  intro vm0 k0 T L X hV hk hZ ho N eT
  have hZ' : Z.Warmed39 (s.setVm vm0).vm := hZ
  have A0 := A
  obtain ⟨cl, A, r1, r2, r3⟩ := A
  obtain ⟨t1, t2⟩ := tnn hj
  obtain ⟨T2, h2, X2, e2, W2, st2⟩ := stJ X C.1 hZ' eT A (j := j) (x := x) (by rw [r1, t2]; exact fun q => q.elim t1 (Nat.not_le.mpr hlt)) (g := mkF m pc ls (.long x :: .int j :: .ref a :: st)) rfl rfl (hb C.2.1 hd)
  rw [t2] at W2
  obtain ⟨U, o, h1, r⟩ := k h2 (Keep.of_wr W2) ((A0.set W2).congr fun i _ => by by_cases q : i = jn <;> simp [q]) vm0 k0 T2 _ X2 hV (by rw [W2.size]; exact hk) hZ ho (Fr.snoc X2 N hge) e2
  exact ⟨U, o, st2 _ h1, r⟩
theorem r_castore {a : Addr} {n jn : Nat} {f : Nat → Int32} {j : Int32} {x : Int32} (C : Cx p c meth bytes maxL ret nm) (hd : decode bytes pc = .ok (.castore, 1)) (hp : pc + 1 = pc') (A : IA Z h a .char n (fun i => .int (f i))) (hj : j.toInt = (jn : Int)) (hlt : jn < n) (hge : n0 ≤ a) (k : ∀ h', Keep h h' [a] → IA Z h' a .char n (fun i => .int (if i = jn then (nar .char x) else f i)) → Run p l e R s m args below meth c Z own V n0 G h' cells slots pc' ls st) : Run p l e R s m args below meth c Z own V n0 G h cells slots pc ls (.int x :: .int j :: .ref a :: st) := by
  subst hp
  intro vm0 k0 T L X hV hk hZ ho N eT
  have hZ' : Z.Warmed39 (s.setVm vm0).vm := hZ
  have A0 := A
  obtain ⟨cl, A, r1, r2, r3⟩ := A
  obtain ⟨t1, t2⟩ := tnn hj
  obtain ⟨T2, h2, X2, e2, W2, st2⟩ := stC X C.1 hZ' eT A (j := j) (x := x) (by rw [r1, t2]; exact fun q => q.elim t1 (Nat.not_le.mpr hlt)) (g := mkF m pc ls (.int x :: .int j :: .ref a :: st)) rfl rfl (hb C.2.1 hd)
  rw [t2] at W2
  obtain ⟨U, o, h1, r⟩ := k h2 (Keep.of_wr W2) ((A0.set W2).congr fun i _ => by by_cases q : i = jn <;> simp [q]) vm0 k0 T2 _ X2 hV (by rw [W2.size]; exact hk) hZ ho (Fr.snoc X2 N hge) e2
  exact ⟨U, o, st2 _ h1, r⟩
theorem r_bastore {a : Addr} {n jn : Nat} {f : Nat → Int32} {j : Int32} {x : Int32} (C : Cx p c meth bytes maxL ret nm) (hd : decode bytes pc = .ok (.bastore, 1)) (hp : pc + 1 = pc') (A : IA Z h a .byte n (fun i => .int (f i))) (hj : j.toInt = (jn : Int)) (hlt : jn < n) (hge : n0 ≤ a) (k : ∀ h', Keep h h' [a] → IA Z h' a .byte n (fun i => .int (if i = jn then (nar .byte x) else f i)) → Run p l e R s m args below meth c Z own V n0 G h' cells slots pc' ls st) : Run p l e R s m args below meth c Z own V n0 G h cells slots pc ls (.int x :: .int j :: .ref a :: st) := by
  subst hp
  intro vm0 k0 T L X hV hk hZ ho N eT
  have hZ' : Z.Warmed39 (s.setVm vm0).vm := hZ
  have A0 := A
  obtain ⟨cl, A, r1, r2, r3⟩ := A
  obtain ⟨t1, t2⟩ := tnn hj
  obtain ⟨T2, h2, X2, e2, W2, st2⟩ := stB X C.1 hZ' eT A (j := j) (x := x) (by rw [r1, t2]; exact fun q => q.elim t1 (Nat.not_le.mpr hlt)) (g := mkF m pc ls (.int x :: .int j :: .ref a :: st)) rfl rfl (hb C.2.1 hd)
  rw [t2] at W2
  obtain ⟨U, o, h1, r⟩ := k h2 (Keep.of_wr W2) ((A0.set W2).congr fun i _ => by by_cases q : i = jn <;> simp [q]) vm0 k0 T2 _ X2 hV (by rw [W2.size]; exact hk) hZ ho (Fr.snoc X2 N hge) e2
  exact ⟨U, o, st2 _ h1, r⟩
theorem r_zastore {a : Addr} {n jn : Nat} {f : Nat → Int32} {j : Int32} {x : Int32} (C : Cx p c meth bytes maxL ret nm) (hd : decode bytes pc = .ok (.bastore, 1)) (hp : pc + 1 = pc') (A : IA Z h a .boolean n (fun i => .int (f i))) (hj : j.toInt = (jn : Int)) (hlt : jn < n) (hge : n0 ≤ a) (k : ∀ h', Keep h h' [a] → IA Z h' a .boolean n (fun i => .int (if i = jn then (nar .boolean x) else f i)) → Run p l e R s m args below meth c Z own V n0 G h' cells slots pc' ls st) : Run p l e R s m args below meth c Z own V n0 G h cells slots pc ls (.int x :: .int j :: .ref a :: st) := by
  subst hp
  intro vm0 k0 T L X hV hk hZ ho N eT
  have hZ' : Z.Warmed39 (s.setVm vm0).vm := hZ
  have A0 := A
  obtain ⟨cl, A, r1, r2, r3⟩ := A
  obtain ⟨t1, t2⟩ := tnn hj
  obtain ⟨T2, h2, X2, e2, W2, st2⟩ := stZ X C.1 hZ' eT A (j := j) (x := x) (by rw [r1, t2]; exact fun q => q.elim t1 (Nat.not_le.mpr hlt)) (g := mkF m pc ls (.int x :: .int j :: .ref a :: st)) rfl rfl (hb C.2.1 hd)
  rw [t2] at W2
  obtain ⟨U, o, h1, r⟩ := k h2 (Keep.of_wr W2) ((A0.set W2).congr fun i _ => by by_cases q : i = jn <;> simp [q]) vm0 k0 T2 _ X2 hV (by rw [W2.size]; exact hk) hZ ho (Fr.snoc X2 N hge) e2
  exact ⟨U, o, st2 _ h1, r⟩
theorem r_arraylength {a : Addr} {ty : FieldType} {n : Nat} {f : Nat → Value} {z : Int32} (C : Cx p c meth bytes maxL ret nm) (hd : decode bytes pc = .ok (.arraylength, 1)) (hp : pc + 1 = pc') (A : IA Z h a ty n f) (hz : z.toInt = (n : Int)) (k : Run p l e R s m args below meth c Z own V n0 G h cells slots pc' ls (.int z :: st)) : Run p l e R s m args below meth c Z own V n0 G h cells slots pc ls (.ref a :: st) := by
  subst hp
  intro vm0 k0 T L X hV hk hZ ho N eT
  have hZ' : Z.Warmed39 (s.setVm vm0).vm := hZ
  obtain ⟨cl, A, r1, r2, r3⟩ := A
  obtain ⟨t1, t2⟩ := tnn hz
  obtain ⟨U, o, h1, r⟩ := k vm0 k0 T L X hV hk hZ ho N eT
  have q : cl.slots.size.toInt32 = z := len_of (by rw [r1, t2]) t1
  exact ⟨U, o, X.arraylength C.1 (by rw [eT]; exact A.1) (State.isArrayOf_alike hZ'.alike A.2.1) (g := mkF m pc ls (.ref a :: st)) rfl rfl (hb C.2.1 hd) _ (by rw [q]; exact h1), r⟩
theorem r_newarray {aty : ArrayType} {ty : FieldType} {dv : Value} (hdv : defaultValue ty = dv) {z : Int32} {n cap : Nat} (C : Cx p c meth bytes maxL ret nm) (w1 : (Jvm.Cond.arrayClass ty).before a0 Z = true) (hty : newarray.typeOf aty = ty) (hd : decode bytes pc = .ok (.newarray aty, 2)) (hp : pc + 2 = pc') (hz : z.toInt = (n : Int)) (hcap : n ≤ cap) (hbg : cap * 8 ≤ 536870912) (hc : cells + 1 ≤ R.cells) (hs : slots + cap ≤ R.slots)
    (k : ∀ (a : Addr) h', @Eq Nat a h.size → Keep h h' [] → IA Z h' a ty n (fun _ => dv) → Run p l e R s m args below meth c Z own V n0 G h' (cells + 1) (slots + cap) pc' ls (.ref a :: st)) : Run p l e R s m args below meth c Z own V n0 G h cells slots pc ls (.int z :: st) := by
  subst hp hty hdv
  intro vm0 k0 T L X hV hk hZ ho N eT
  have hZ' : Z.Warmed39 (s.setVm vm0).vm := hZ
  obtain ⟨t1, t2⟩ := tnn hz
  obtain ⟨T2, h2, k2, X2, e2, E2, A2, st2⟩ := newP X C.1 hZ' w1 eT (g := mkF m pc ls (.int z :: st)) rfl (hb C.2.1 hd) rfl t1 (cap := cap) (by rw [t2]; exact hcap) hbg hc hs
  obtain ⟨U, o, h1, r⟩ := k _ h2 rfl ((Keep.refl h []).ext E2) ⟨_, A2, by rw [sz_new, t2], by have := rng32 z; omega, fun j hj => by simp [newA, t2, hj]⟩ vm0 k0 T2 L X2 hV (Nat.le_trans hk E2.1) hZ ho N e2
  exact ⟨U, o, st2 _ h1, r⟩
theorem Run.mono {ce sl : Nat} (k : Run p l e R s m args below meth c Z own V n0 G h ce sl pc ls st) (h1 : cells ≤ ce) (h2 : slots ≤ sl) : Run p l e R s m args below meth c Z own V n0 G h cells slots pc ls st :=
  fun vm0 k0 T L X => k vm0 k0 T L (X.mono h1 h2)
/-- where roads join: the goal from the join on, said once -/
theorem join {α : Type} (Φ : α → Prop) (hJ : α → Heap) (ce sl pcJ : Nat) (lsJ : α → Array Slot) (stJ : α → List Value) (j : ∀ x, Φ x → Run p l e R s m args below meth c Z own V n0 G (hJ x) ce sl pcJ (lsJ x) (stJ x)) (k : (∀ x, Φ x → Run p l e R s m args below meth c Z own V n0 G (hJ x) ce sl pcJ (lsJ x) (stJ x)) → Run p l e R s m args below meth c Z own V n0 G h cells slots pc ls st) : Run p l e R s m args below meth c Z own V n0 G h cells slots pc ls st := k j
/-- a loop: by a measure -/
theorem loop {α : Type} (μ : α → Nat) (Φ : α → Prop) (hJ : α → Heap) (ce sl pcJ : Nat) (lsJ : α → Array Slot) (stJ : α → List Value)
    (body : ∀ x, Φ x → (∀ x', Φ x' → μ x' < μ x → Run p l e R s m args below meth c Z own V n0 G (hJ x') ce sl pcJ (lsJ x') (stJ x')) → Run p l e R s m args below meth c Z own V n0 G (hJ x) ce sl pcJ (lsJ x) (stJ x)) (k : (∀ x, Φ x → Run p l e R s m args below meth c Z own V n0 G (hJ x) ce sl pcJ (lsJ x) (stJ x)) → Run p l e R s m args below meth c Z own V n0 G h cells slots pc ls st) : Run p l e R s m args below meth c Z own V n0 G h cells slots pc ls st := by
  refine k ?_
  have H : ∀ n x, μ x < n → Φ x → Run p l e R s m args below meth c Z own V n0 G (hJ x) ce sl pcJ (lsJ x) (stJ x) := by
    intro n
    induction n with
    | zero => intro x hx; omega
    | succ n ih => intro x hx hp; exact body x hp fun x' hp' hlt => ih x' (by omega) hp'
  exact fun x hp => H _ x (Nat.lt_succ_self _) hp
theorem xadd64 {x y : Int64} (h1 : -4611686018427387904 ≤ x.toInt + y.toInt) (h2 : x.toInt + y.toInt ≤ 4611686018427387904) : (x + y).toInt = x.toInt + y.toInt := by
  have h3 := c_ladd x y
  have h4 := rng64 (x + y)
  omega
theorem xsub64 {x y : Int64} (h1 : -4611686018427387904 ≤ x.toInt - y.toInt) (h2 : x.toInt - y.toInt ≤ 4611686018427387904) : (x - y).toInt = x.toInt - y.toInt := by
  have h3 := c_lsub x y
  have h4 := rng64 (x - y)
  omega
theorem xmul64 {x c : Int64} {k : Int} (hc : c.toInt = k) (h1 : -4611686018427387904 ≤ x.toInt * k) (h2 : x.toInt * k ≤ 4611686018427387904) : (x * c).toInt = x.toInt * k := by
  have h3 := c_lmul x c
  rw [hc] at h3
  have h4 := rng64 (x * c)
  generalize x.toInt * k = P at *
  omega
theorem xadd32 {x y : Int32} (h1 : -2147483648 ≤ x.toInt + y.toInt) (h2 : x.toInt + y.toInt < 2147483648) : (x + y).toInt = x.toInt + y.toInt := by
  have h3 := c_iadd x y
  have h4 := rng32 (x + y)
  omega
theorem xsub32 {x y : Int32} (h1 : -2147483648 ≤ x.toInt - y.toInt) (h2 : x.toInt - y.toInt < 2147483648) : (x - y).toInt = x.toInt - y.toInt := by
  have h3 := c_isub x y
  have h4 := rng32 (x - y)
  omega
theorem xl2i {x : Int64} (h1 : -2147483648 ≤ x.toInt) (h2 : x.toInt < 2147483648) : x.toInt32.toInt = x.toInt := by
  have h3 := c_l2i x
  have h4 := rng32 x.toInt32
  omega
end Kit
section Facts
theorem t0 {Z : State} {a0 : Array Value} (hw : ∀ d ∈ tables_1, d.before a0 Z = true) : (Jvm.Cond.arrayClass Jvm.ClassFile.FieldType.long).before a0 Z = true := hw _ (List.mem_of_getElem? (i := 0) rfl)
theorem t1 {Z : State} {a0 : Array Value} (hw : ∀ d ∈ tables_1, d.before a0 Z = true) : (Jvm.Cond.constantLong "com/example/gate2/gate2/xml/XmlCursorIsAllowedPinLaw" (9 : Nat) (-2147483648 : Int64)).before a0 Z = true := hw _ (List.mem_of_getElem? (i := 1) rfl)
theorem t2 {Z : State} {a0 : Array Value} (hw : ∀ d ∈ tables_1, d.before a0 Z = true) : (Jvm.Cond.constantLong "com/example/gate2/gate2/xml/XmlCursorIsAllowedPinLaw" (11 : Nat) (9 : Int64)).before a0 Z = true := hw _ (List.mem_of_getElem? (i := 2) rfl)
theorem t3 {Z : State} {a0 : Array Value} (hw : ∀ d ∈ tables_1, d.before a0 Z = true) : (Jvm.Cond.constantLong "com/example/gate2/gate2/xml/XmlCursorIsAllowedPinLaw" (13 : Nat) (11 : Int64)).before a0 Z = true := hw _ (List.mem_of_getElem? (i := 3) rfl)
theorem t4 {Z : State} {a0 : Array Value} (hw : ∀ d ∈ tables_1, d.before a0 Z = true) : (Jvm.Cond.constantLong "com/example/gate2/gate2/xml/XmlCursorIsAllowedPinLaw" (15 : Nat) (13 : Int64)).before a0 Z = true := hw _ (List.mem_of_getElem? (i := 4) rfl)
theorem t5 {Z : State} {a0 : Array Value} (hw : ∀ d ∈ tables_1, d.before a0 Z = true) : (Jvm.Cond.constantLong "com/example/gate2/gate2/xml/XmlCursorIsAllowedPinLaw" (17 : Nat) (14 : Int64)).before a0 Z = true := hw _ (List.mem_of_getElem? (i := 5) rfl)
theorem t6 {Z : State} {a0 : Array Value} (hw : ∀ d ∈ tables_1, d.before a0 Z = true) : (Jvm.Cond.constantLong "com/example/gate2/gate2/xml/XmlCursorIsAllowedPinLaw" (19 : Nat) (32 : Int64)).before a0 Z = true := hw _ (List.mem_of_getElem? (i := 6) rfl)
theorem t7 {Z : State} {a0 : Array Value} (hw : ∀ d ∈ tables_1, d.before a0 Z = true) : (Jvm.Cond.constantLong "com/example/gate2/gate2/xml/XmlCursorIsAllowedPinLaw" (21 : Nat) (55296 : Int64)).before a0 Z = true := hw _ (List.mem_of_getElem? (i := 7) rfl)
theorem t8 {Z : State} {a0 : Array Value} (hw : ∀ d ∈ tables_1, d.before a0 Z = true) : (Jvm.Cond.constantLong "com/example/gate2/gate2/xml/XmlCursorIsAllowedPinLaw" (23 : Nat) (57344 : Int64)).before a0 Z = true := hw _ (List.mem_of_getElem? (i := 8) rfl)
theorem t9 {Z : State} {a0 : Array Value} (hw : ∀ d ∈ tables_1, d.before a0 Z = true) : (Jvm.Cond.constantLong "com/example/gate2/gate2/xml/XmlCursorIsAllowedPinLaw" (25 : Nat) (65534 : Int64)).before a0 Z = true := hw _ (List.mem_of_getElem? (i := 9) rfl)
theorem t10 {Z : State} {a0 : Array Value} (hw : ∀ d ∈ tables_1, d.before a0 Z = true) : (Jvm.Cond.constantLong "com/example/gate2/gate2/xml/XmlCursorIsAllowedPinLaw" (27 : Nat) (65536 : Int64)).before a0 Z = true := hw _ (List.mem_of_getElem? (i := 10) rfl)
theorem t11 {Z : State} {a0 : Array Value} (hw : ∀ d ∈ tables_1, d.before a0 Z = true) : (Jvm.Cond.constantLong "com/example/gate2/gate2/xml/XmlCursorIsAllowedPinLaw" (29 : Nat) (1114112 : Int64)).before a0 Z = true := hw _ (List.mem_of_getElem? (i := 11) rfl)
theorem t12 {Z : State} {a0 : Array Value} (hw : ∀ d ∈ tables_1, d.before a0 Z = true) : (Jvm.Cond.constantLong "com/example/gate2/gate2/xml/XmlCursorIsAllowedPinLaw" (31 : Nat) (8 : Int64)).before a0 Z = true := hw _ (List.mem_of_getElem? (i := 12) rfl)
theorem t13 {Z : State} {a0 : Array Value} (hw : ∀ d ∈ tables_1, d.before a0 Z = true) : (Jvm.Cond.constantLong "com/example/gate2/gate2/xml/XmlCursorIsAllowedPinLaw" (33 : Nat) (10 : Int64)).before a0 Z = true := hw _ (List.mem_of_getElem? (i := 13) rfl)
theorem t14 {Z : State} {a0 : Array Value} (hw : ∀ d ∈ tables_1, d.before a0 Z = true) : (Jvm.Cond.constantLong "com/example/gate2/gate2/xml/XmlCursorIsAllowedPinLaw" (35 : Nat) (12 : Int64)).before a0 Z = true := hw _ (List.mem_of_getElem? (i := 14) rfl)
theorem t15 {Z : State} {a0 : Array Value} (hw : ∀ d ∈ tables_1, d.before a0 Z = true) : (Jvm.Cond.constantLong "com/example/gate2/gate2/xml/XmlCursorIsAllowedPinLaw" (37 : Nat) (31 : Int64)).before a0 Z = true := hw _ (List.mem_of_getElem? (i := 15) rfl)
theorem t16 {Z : State} {a0 : Array Value} (hw : ∀ d ∈ tables_1, d.before a0 Z = true) : (Jvm.Cond.constantLong "com/example/gate2/gate2/xml/XmlCursorIsAllowedPinLaw" (39 : Nat) (55295 : Int64)).before a0 Z = true := hw _ (List.mem_of_getElem? (i := 16) rfl)
theorem t17 {Z : State} {a0 : Array Value} (hw : ∀ d ∈ tables_1, d.before a0 Z = true) : (Jvm.Cond.constantLong "com/example/gate2/gate2/xml/XmlCursorIsAllowedPinLaw" (41 : Nat) (57343 : Int64)).before a0 Z = true := hw _ (List.mem_of_getElem? (i := 17) rfl)
theorem t18 {Z : State} {a0 : Array Value} (hw : ∀ d ∈ tables_1, d.before a0 Z = true) : (Jvm.Cond.constantLong "com/example/gate2/gate2/xml/XmlCursorIsAllowedPinLaw" (43 : Nat) (65533 : Int64)).before a0 Z = true := hw _ (List.mem_of_getElem? (i := 18) rfl)
theorem t19 {Z : State} {a0 : Array Value} (hw : ∀ d ∈ tables_1, d.before a0 Z = true) : (Jvm.Cond.constantLong "com/example/gate2/gate2/xml/XmlCursorIsAllowedPinLaw" (45 : Nat) (65535 : Int64)).before a0 Z = true := hw _ (List.mem_of_getElem? (i := 19) rfl)
theorem t20 {Z : State} {a0 : Array Value} (hw : ∀ d ∈ tables_1, d.before a0 Z = true) : (Jvm.Cond.constantLong "com/example/gate2/gate2/xml/XmlCursorIsAllowedPinLaw" (47 : Nat) (1114111 : Int64)).before a0 Z = true := hw _ (List.mem_of_getElem? (i := 20) rfl)
theorem t21 {Z : State} {a0 : Array Value} (hw : ∀ d ∈ tables_1, d.before a0 Z = true) : (Jvm.Cond.constantLong "com/example/gate2/gate2/xml/XmlCursorIsAllowedPinLaw" (49 : Nat) (2147483647 : Int64)).before a0 Z = true := hw _ (List.mem_of_getElem? (i := 21) rfl)
theorem t22 {Z : State} {a0 : Array Value} (hw : ∀ d ∈ tables_1, d.before a0 Z = true) : (Jvm.Cond.arrayClass Jvm.ClassFile.FieldType.boolean).before a0 Z = true := hw _ (List.mem_of_getElem? (i := 22) rfl)
theorem t23 {Z : State} {a0 : Array Value} (hw : ∀ d ∈ tables_1, d.before a0 Z = true) : (Jvm.Cond.constant "com/example/gate2/gate2/xml/XmlCursorIsAllowedPinLaw" (51 : Nat) (2147483647 : Int32)).before a0 Z = true := hw _ (List.mem_of_getElem? (i := 23) rfl)
theorem t24 {Z : State} {a0 : Array Value} (hw : ∀ d ∈ tables_1, d.before a0 Z = true) : (Jvm.Cond.methodLink "com/example/gate2/gate2/xml/XmlCursorIsAllowedPinLaw" (52 : Nat) ({ cls := "com/example/gate2/gate2/xml/XmlCursor", name := "isAllowed", desc := "(I)Z" } : Jvm.MethodName)).before a0 Z = true := hw _ (List.mem_of_getElem? (i := 24) rfl)
theorem t25 {Z : State} {a0 : Array Value} (hw : ∀ d ∈ tables_1, d.before a0 Z = true) : (Jvm.Cond.static ({ cls := "com/example/gate2/gate2/xml/XmlCursor", name := "isAllowed", desc := "(I)Z" } : Jvm.MethodName)).before a0 Z = true := hw _ (List.mem_of_getElem? (i := 25) rfl)
theorem t26 {Z : State} {a0 : Array Value} (hw : ∀ d ∈ tables_1, d.before a0 Z = true) : (Jvm.Cond.initialized "com/example/gate2/gate2/xml/XmlCursor").before a0 Z = true := hw _ (List.mem_of_getElem? (i := 26) rfl)
theorem t27 {Z : State} {a0 : Array Value} (hw : ∀ d ∈ tables_1, d.before a0 Z = true) : (Jvm.Cond.code ({ cls := "com/example/gate2/gate2/xml/XmlCursor", name := "isAllowed", desc := "(I)Z" } : Jvm.MethodName) prog_57_method_26_code (1 : Nat) (Option.some Jvm.ClassFile.FieldType.boolean)).before a0 Z = true := hw _ (List.mem_of_getElem? (i := 27) rfl)
theorem t28 {Z : State} {a0 : Array Value} (hw : ∀ d ∈ tables_1, d.before a0 Z = true) : (Jvm.Cond.constant "com/example/gate2/gate2/xml/XmlCursor" (268 : Nat) (57344 : Int32)).before a0 Z = true := hw _ (List.mem_of_getElem? (i := 28) rfl)
theorem t29 {Z : State} {a0 : Array Value} (hw : ∀ d ∈ tables_1, d.before a0 Z = true) : (Jvm.Cond.constant "com/example/gate2/gate2/xml/XmlCursor" (266 : Nat) (65536 : Int32)).before a0 Z = true := hw _ (List.mem_of_getElem? (i := 29) rfl)
theorem t30 {Z : State} {a0 : Array Value} (hw : ∀ d ∈ tables_1, d.before a0 Z = true) : (Jvm.Cond.constant "com/example/gate2/gate2/xml/XmlCursor" (261 : Nat) (55295 : Int32)).before a0 Z = true := hw _ (List.mem_of_getElem? (i := 30) rfl)
theorem t31 {Z : State} {a0 : Array Value} (hw : ∀ d ∈ tables_1, d.before a0 Z = true) : (Jvm.Cond.constant "com/example/gate2/gate2/xml/XmlCursor" (265 : Nat) (65533 : Int32)).before a0 Z = true := hw _ (List.mem_of_getElem? (i := 31) rfl)
theorem t32 {Z : State} {a0 : Array Value} (hw : ∀ d ∈ tables_1, d.before a0 Z = true) : (Jvm.Cond.constant "com/example/gate2/gate2/xml/XmlCursor" (269 : Nat) (1114111 : Int32)).before a0 Z = true := hw _ (List.mem_of_getElem? (i := 32) rfl)
theorem d1_63 : decode prog_57_method_26_code 63 = .ok (.iconst 0, 1) := by decide +kernel
theorem d1_64 : decode prog_57_method_26_code 64 = .ok (.ireturn, 1) := by decide +kernel
theorem d1_59 : decode prog_57_method_26_code 59 = .ok (.iconst 1, 1) := by decide +kernel
theorem d1_60 : decode prog_57_method_26_code 60 = .ok (.goto 4, 3) := by decide +kernel
theorem d1_45 : decode prog_57_method_26_code 45 = .ok (.iload_n 0, 1) := by decide +kernel
theorem d1_46 : decode prog_57_method_26_code 46 = .ok (.ldc_w 266, 3) := by decide +kernel
theorem d1_49 : decode prog_57_method_26_code 49 = .ok (.if_icmp .lt 14, 3) := by decide +kernel
theorem d1_52 : decode prog_57_method_26_code 52 = .ok (.iload_n 0, 1) := by decide +kernel
theorem d1_53 : decode prog_57_method_26_code 53 = .ok (.ldc_w 269, 3) := by decide +kernel
theorem d1_56 : decode prog_57_method_26_code 56 = .ok (.if_icmp .gt 7, 3) := by decide +kernel
theorem d1_31 : decode prog_57_method_26_code 31 = .ok (.iload_n 0, 1) := by decide +kernel
theorem d1_32 : decode prog_57_method_26_code 32 = .ok (.ldc_w 268, 3) := by decide +kernel
theorem d1_35 : decode prog_57_method_26_code 35 = .ok (.if_icmp .lt 10, 3) := by decide +kernel
theorem d1_38 : decode prog_57_method_26_code 38 = .ok (.iload_n 0, 1) := by decide +kernel
theorem d1_39 : decode prog_57_method_26_code 39 = .ok (.ldc_w 265, 3) := by decide +kernel
theorem d1_42 : decode prog_57_method_26_code 42 = .ok (.if_icmp .le 17, 3) := by decide +kernel
theorem d1_0 : decode prog_57_method_26_code 0 = .ok (.iload_n 0, 1) := by decide +kernel
theorem d1_1 : decode prog_57_method_26_code 1 = .ok (.bipush 9, 2) := by decide +kernel
theorem d1_3 : decode prog_57_method_26_code 3 = .ok (.if_icmp .eq 56, 3) := by decide +kernel
theorem d1_6 : decode prog_57_method_26_code 6 = .ok (.iload_n 0, 1) := by decide +kernel
theorem d1_7 : decode prog_57_method_26_code 7 = .ok (.bipush 10, 2) := by decide +kernel
theorem d1_9 : decode prog_57_method_26_code 9 = .ok (.if_icmp .eq 50, 3) := by decide +kernel
theorem d1_12 : decode prog_57_method_26_code 12 = .ok (.iload_n 0, 1) := by decide +kernel
theorem d1_13 : decode prog_57_method_26_code 13 = .ok (.bipush 13, 2) := by decide +kernel
theorem d1_15 : decode prog_57_method_26_code 15 = .ok (.if_icmp .eq 44, 3) := by decide +kernel
theorem d1_18 : decode prog_57_method_26_code 18 = .ok (.iload_n 0, 1) := by decide +kernel
theorem d1_19 : decode prog_57_method_26_code 19 = .ok (.bipush 32, 2) := by decide +kernel
theorem d1_21 : decode prog_57_method_26_code 21 = .ok (.if_icmp .lt 10, 3) := by decide +kernel
theorem d1_24 : decode prog_57_method_26_code 24 = .ok (.iload_n 0, 1) := by decide +kernel
theorem d1_25 : decode prog_57_method_26_code 25 = .ok (.ldc_w 261, 3) := by decide +kernel
theorem d1_28 : decode prog_57_method_26_code 28 = .ok (.if_icmp .le 31, 3) := by decide +kernel
theorem pd0 : parseMethodDescriptor "(I)Z" = some ⟨[.int], some .boolean⟩ := by decide +kernel
theorem pn0 : plainName "com/example/gate2/gate2/xml/XmlCursor" = true := by first | (simp [plainName, overriddenIn]; done) | decide +kernel
theorem pn1 : plainName "com/example/gate2/gate2/xml/XmlCursorIsAllowedPinLaw" = true := by first | (simp [plainName, overriddenIn]; done) | decide +kernel
end Facts
def own_al (c : Int) : Bool := decide ((9 ≤ c ∧ c ≤ 10) ∨ (13 ≤ c ∧ c ≤ 13) ∨ (32 ≤ c ∧ c ≤ 55295) ∨ (57344 ≤ c ∧ c ≤ 65533) ∨ (65536 ≤ c ∧ c ≤ 1114111))
theorem own_al_t {c : Int} (h : (9 ≤ c ∧ c ≤ 10) ∨ (13 ≤ c ∧ c ≤ 13) ∨ (32 ≤ c ∧ c ≤ 55295) ∨ (57344 ≤ c ∧ c ≤ 65533) ∨ (65536 ≤ c ∧ c ≤ 1114111)) : (9 ≤ c ∧ c ≤ 10) ∨ (13 ≤ c ∧ c ≤ 13) ∨ (32 ≤ c ∧ c ≤ 55295) ∨ (57344 ≤ c ∧ c ≤ 65533) ∨ (65536 ≤ c ∧ c ≤ 1114111) := h
theorem own_al_f {c : Int} (h : ((-2147483648) ≤ c ∧ c ≤ 8) ∨ (11 ≤ c ∧ c ≤ 12) ∨ (14 ≤ c ∧ c ≤ 31) ∨ (55296 ≤ c ∧ c ≤ 57343) ∨ (65534 ≤ c ∧ c ≤ 65535) ∨ (1114112 ≤ c ∧ c ≤ 2147483647)) : ¬ ((9 ≤ c ∧ c ≤ 10) ∨ (13 ≤ c ∧ c ≤ 13) ∨ (32 ≤ c ∧ c ≤ 55295) ∨ (57344 ≤ c ∧ c ≤ 65533) ∨ (65536 ≤ c ∧ c ≤ 1114111)) := by
  rcases h with h | h | h | h | h | h <;> rintro (q | q | q | q | q) <;> omega

def own_lo (i : Nat) : Int64 := ([(-2147483648), 9, 11, 13, 14, 32, 55296, 57344, 65534, 65536, 1114112] : List Int64).getD i 0
def own_hi (i : Nat) : Int64 := ([8, 10, 12, 13, 31, 55295, 57343, 65533, 65535, 1114111, 2147483647] : List Int64).getD i 0
def own_w (i : Nat) : Int32 := ([0, 1, 0, 1, 0, 1, 0, 1, 0, 1, 0] : List Int32).getD i 0
theorem own_k {k : Nat} (h : k < 11) : k = 0 ∨ k = 1 ∨ k = 2 ∨ k = 3 ∨ k = 4 ∨ k = 5 ∨ k = 6 ∨ k = 7 ∨ k = 8 ∨ k = 9 ∨ k = 10 := by omega
theorem own_bd {k : Nat} (h : k < 11) : -2147483648 ≤ (own_lo k).toInt ∧ (own_lo k).toInt ≤ (own_hi k).toInt ∧ (own_hi k).toInt ≤ 2147483647 := by
  rcases own_k h with rfl | rfl | rfl | rfl | rfl | rfl | rfl | rfl | rfl | rfl | rfl <;> decide
theorem own_hit {k : Nat} (h : k < 11) {z : Int} (h1 : (own_lo k).toInt ≤ z) (h2 : z ≤ (own_hi k).toInt) : (if own_al z then (1 : Int32) else 0) = own_w k := by
  rcases own_k h with rfl | rfl | rfl | rfl | rfl | rfl | rfl | rfl | rfl | rfl | rfl
  · replace h1 : (-2147483648) ≤ z := h1
    replace h2 : z ≤ 8 := h2
    rw [show own_al z = false from decide_eq_false (own_al_f (Or.inl ⟨by omega, by omega⟩))]; rfl
  · replace h1 : 9 ≤ z := h1
    replace h2 : z ≤ 10 := h2
    rw [show own_al z = true from decide_eq_true (Or.inl ⟨by omega, by omega⟩)]; rfl
  · replace h1 : 11 ≤ z := h1
    replace h2 : z ≤ 12 := h2
    rw [show own_al z = false from decide_eq_false (own_al_f (Or.inr (Or.inl ⟨by omega, by omega⟩)))]; rfl
  · replace h1 : 13 ≤ z := h1
    replace h2 : z ≤ 13 := h2
    rw [show own_al z = true from decide_eq_true (Or.inr (Or.inl ⟨by omega, by omega⟩))]; rfl
  · replace h1 : 14 ≤ z := h1
    replace h2 : z ≤ 31 := h2
    rw [show own_al z = false from decide_eq_false (own_al_f (Or.inr (Or.inr (Or.inl ⟨by omega, by omega⟩))))]; rfl
  · replace h1 : 32 ≤ z := h1
    replace h2 : z ≤ 55295 := h2
    rw [show own_al z = true from decide_eq_true (Or.inr (Or.inr (Or.inl ⟨by omega, by omega⟩)))]; rfl
  · replace h1 : 55296 ≤ z := h1
    replace h2 : z ≤ 57343 := h2
    rw [show own_al z = false from decide_eq_false (own_al_f (Or.inr (Or.inr (Or.inr (Or.inl ⟨by omega, by omega⟩)))))]; rfl
  · replace h1 : 57344 ≤ z := h1
    replace h2 : z ≤ 65533 := h2
    rw [show own_al z = true from decide_eq_true (Or.inr (Or.inr (Or.inr (Or.inl ⟨by omega, by omega⟩))))]; rfl
  · replace h1 : 65534 ≤ z := h1
    replace h2 : z ≤ 65535 := h2
    rw [show own_al z = false from decide_eq_false (own_al_f (Or.inr (Or.inr (Or.inr (Or.inr (Or.inl ⟨by omega, by omega⟩))))))]; rfl
  · replace h1 : 65536 ≤ z := h1
    replace h2 : z ≤ 1114111 := h2
    rw [show own_al z = true from decide_eq_true (Or.inr (Or.inr (Or.inr (Or.inr (⟨by omega, by omega⟩)))))]; rfl
  · replace h1 : 1114112 ≤ z := h1
    replace h2 : z ≤ 2147483647 := h2
    rw [show own_al z = false from decide_eq_false (own_al_f (Or.inr (Or.inr (Or.inr (Or.inr (Or.inr (⟨by omega, by omega⟩)))))))]; rfl
theorem own_idx (s : Int32) : ∃ k : Nat, ((s &&& 2147483647) % 11).toInt = (k : Int) ∧ k < 11 := by
  have h1 := c_mask s 2147483647 31 (by decide) (by decide)
  have h2 := c_irem (s &&& 2147483647) 11 11 (by decide)
  have h3 := rng32 s
  have h6 : ((2 ^ 31 : Nat) : Int) = 2147483648 := by decide
  rw [h6] at h1
  refine ⟨((s &&& 2147483647) % 11).toInt.toNat, ?_, ?_⟩ <;> omega
theorem own_tmod (x d : Int) (hd : 0 < d) : -d < x.tmod d ∧ x.tmod d < d := by
  have h1 := Int.emod_nonneg x (show d ≠ 0 by omega)
  have h2 := Int.emod_lt_of_pos x hd
  have h3 := Int.emod_nonneg (-x) (show d ≠ 0 by omega)
  have h4 := Int.emod_lt_of_pos (-x) hd
  have h5 := tr x d
  by_cases h : 0 ≤ x
  · rw [h5.1 h]; omega
  · rw [h5.2 (by omega)]; omega
theorem own_small {x : Int64} (h1 : -2147483648 ≤ x.toInt) (h2 : x.toInt ≤ 2147483647) : x.toInt32.toInt = x.toInt := by
  have h3 := c_l2i x
  have h4 := rng32 x.toInt32
  omega
theorem own_span {k : Nat} (h : k < 11) : (own_hi k - own_lo k + 1).toInt = (own_hi k).toInt - (own_lo k).toInt + 1 := by
  have := own_bd h
  have h1 := c_lsub (own_hi k) (own_lo k)
  have h2 := c_ladd (own_hi k - own_lo k) 1
  have h3 := rng64 (own_hi k - own_lo k)
  have h4 := rng64 (own_hi k - own_lo k + 1)
  have h5 : ((1 : Int64)).toInt = 1 := by decide
  rw [h5] at h2
  omega

set_option maxRecDepth 65536 in
set_option maxHeartbeats 40000000 in
theorem rm1 (l : Launch) (Z : State) (a0 : Array Value) (hw : ∀ d ∈ tables_1, d.before a0 Z = true) (ch : Int32) (h0 : Heap) (n0 : Nat)  :
    Con l Z (⟨"com/example/gate2/gate2/xml/XmlCursor", "isAllowed", "(I)Z"⟩ : MethodName) prog_57_method_26_code 1 (some .boolean) ({ frames := 0, cells := 0, slots := 0, locals := 0 } : Room) #[(.int ch)] h0 n0 (fun v h => v = some (.int (if own_al ch.toInt then 1 else 0)) ∧ h0 = h) := by
  refine Con.of_body (plainFor_of_name pn0) #[.val (.int ch)] (fun m => by first | rfl | (simp [entryFrame, mkF, argsToLocals, Value.category]; done)) ?_
  intro p e s m below meth c C
  have hr := rng32 ch
  refine join (α := Unit) (fun _ => ((-2147483648) ≤ ch.toInt ∧ ch.toInt ≤ 8) ∨ (11 ≤ ch.toInt ∧ ch.toInt ≤ 12) ∨ (14 ≤ ch.toInt ∧ ch.toInt ≤ 31) ∨ (55296 ≤ ch.toInt ∧ ch.toInt ≤ 57343) ∨ (65534 ≤ ch.toInt ∧ ch.toInt ≤ 65535) ∨ (1114112 ≤ ch.toInt ∧ ch.toInt ≤ 2147483647)) (fun _ => h0) 0 0 63 (fun _ => #[.val (.int ch)]) (fun _ => []) ?_ ?_
  · rintro _ q63
    refine r_iconst C d1_63 (pc' := 64) rfl (z := (0 : Int32)) rfl ?_
    have hz : ((-2147483648) ≤ ch.toInt ∧ ch.toInt ≤ 8) ∨ (11 ≤ ch.toInt ∧ ch.toInt ≤ 12) ∨ (14 ≤ ch.toInt ∧ ch.toInt ≤ 31) ∨ (55296 ≤ ch.toInt ∧ ch.toInt ≤ 57343) ∨ (65534 ≤ ch.toInt ∧ ch.toInt ≤ 65535) ∨ (1114112 ≤ ch.toInt ∧ ch.toInt ≤ 2147483647) := by
      rcases q63 with q | q | q | q | q | q
      · exact (Or.inl ⟨by omega, by omega⟩)
      · exact (Or.inr (Or.inl ⟨by omega, by omega⟩))
      · exact (Or.inr (Or.inr (Or.inl ⟨by omega, by omega⟩)))
      · exact (Or.inr (Or.inr (Or.inr (Or.inl ⟨by omega, by omega⟩))))
      · exact (Or.inr (Or.inr (Or.inr (Or.inr (Or.inl ⟨by omega, by omega⟩)))))
      · exact (Or.inr (Or.inr (Or.inr (Or.inr (Or.inr (⟨by omega, by omega⟩))))))
    exact r_ireturnN (t := .boolean) (by simp) C d1_64 ⟨by rw [show own_al ch.toInt = false from decide_eq_false (own_al_f hz)]; rfl, rfl⟩ (by decide) (by decide)
  intro J63
  refine join (α := Unit) (fun _ => (9 ≤ ch.toInt ∧ ch.toInt ≤ 10) ∨ (13 ≤ ch.toInt ∧ ch.toInt ≤ 13) ∨ (32 ≤ ch.toInt ∧ ch.toInt ≤ 55295) ∨ (57344 ≤ ch.toInt ∧ ch.toInt ≤ 65533) ∨ (65536 ≤ ch.toInt ∧ ch.toInt ≤ 1114111)) (fun _ => h0) 0 0 59 (fun _ => #[.val (.int ch)]) (fun _ => []) ?_ ?_
  · rintro _ q59
    refine r_iconst C d1_59 (pc' := 60) rfl (z := (1 : Int32)) rfl ?_
    refine r_goto C d1_60 (pc' := 64) (by decide) ?_
    have hz : (9 ≤ ch.toInt ∧ ch.toInt ≤ 10) ∨ (13 ≤ ch.toInt ∧ ch.toInt ≤ 13) ∨ (32 ≤ ch.toInt ∧ ch.toInt ≤ 55295) ∨ (57344 ≤ ch.toInt ∧ ch.toInt ≤ 65533) ∨ (65536 ≤ ch.toInt ∧ ch.toInt ≤ 1114111) := by
      rcases q59 with q | q | q | q | q
      · exact (Or.inl ⟨by omega, by omega⟩)
      · exact (Or.inr (Or.inl ⟨by omega, by omega⟩))
      · exact (Or.inr (Or.inr (Or.inl ⟨by omega, by omega⟩)))
      · exact (Or.inr (Or.inr (Or.inr (Or.inl ⟨by omega, by omega⟩))))
      · exact (Or.inr (Or.inr (Or.inr (Or.inr (⟨by omega, by omega⟩)))))
    exact r_ireturnN (t := .boolean) (by simp) C d1_64 ⟨by rw [show own_al ch.toInt = true from decide_eq_true hz]; rfl, rfl⟩ (by decide) (by decide)
  intro J59
  refine join (α := Unit) (fun _ => ((-2147483648) ≤ ch.toInt ∧ ch.toInt ≤ 8) ∨ (11 ≤ ch.toInt ∧ ch.toInt ≤ 12) ∨ (14 ≤ ch.toInt ∧ ch.toInt ≤ 31) ∨ (55296 ≤ ch.toInt ∧ ch.toInt ≤ 57343) ∨ (65534 ≤ ch.toInt ∧ ch.toInt ≤ 2147483647)) (fun _ => h0) 0 0 45 (fun _ => #[.val (.int ch)]) (fun _ => []) ?_ ?_
  · rintro _ q45
    refine r_iload_n C d1_45 (pc' := 46) rfl rfl ?_
    refine r_ldc_w C (t29 hw) d1_46 (pc' := 49) rfl ?_
    refine r_icmplt C d1_49 (pcT := 63) (pcF := 52) (by decide) rfl ?_ ?_
    · intro c49
      replace c49 : ch.toInt < 65536 := c49
      refine J63 () ?_
      rcases q45 with q | q | q | q | q
      · exact (Or.inl ⟨by omega, by omega⟩)
      · exact (Or.inr (Or.inl ⟨by omega, by omega⟩))
      · exact (Or.inr (Or.inr (Or.inl ⟨by omega, by omega⟩)))
      · exact (Or.inr (Or.inr (Or.inr (Or.inl ⟨by omega, by omega⟩))))
      · exact (Or.inr (Or.inr (Or.inr (Or.inr (Or.inl ⟨by omega, by omega⟩)))))
    · intro c49
      replace c49 : ch.toInt ≥ 65536 := c49
      have q52 : (65536 ≤ ch.toInt ∧ ch.toInt ≤ 2147483647) := by
        rcases q45 with q | q | q | q | q
        · (exfalso; omega)
        · (exfalso; omega)
        · (exfalso; omega)
        · (exfalso; omega)
        · exact (⟨by omega, by omega⟩)
      refine r_iload_n C d1_52 (pc' := 53) rfl rfl ?_
      refine r_ldc_w C (t32 hw) d1_53 (pc' := 56) rfl ?_
      refine r_icmpgt C d1_56 (pcT := 63) (pcF := 59) (by decide) rfl ?_ ?_
      · intro c56
        replace c56 : ch.toInt > 1114111 := c56
        refine J63 () ?_
        exact (Or.inr (Or.inr (Or.inr (Or.inr (Or.inr (⟨by omega, by omega⟩))))))
      · intro c56
        replace c56 : ch.toInt ≤ 1114111 := c56
        refine J59 () ?_
        exact (Or.inr (Or.inr (Or.inr (Or.inr (⟨by omega, by omega⟩)))))
  intro J45
  refine join (α := Unit) (fun _ => ((-2147483648) ≤ ch.toInt ∧ ch.toInt ≤ 8) ∨ (11 ≤ ch.toInt ∧ ch.toInt ≤ 12) ∨ (14 ≤ ch.toInt ∧ ch.toInt ≤ 31) ∨ (55296 ≤ ch.toInt ∧ ch.toInt ≤ 2147483647)) (fun _ => h0) 0 0 31 (fun _ => #[.val (.int ch)]) (fun _ => []) ?_ ?_
  · rintro _ q31
    refine r_iload_n C d1_31 (pc' := 32) rfl rfl ?_
    refine r_ldc_w C (t28 hw) d1_32 (pc' := 35) rfl ?_
    refine r_icmplt C d1_35 (pcT := 45) (pcF := 38) (by decide) rfl ?_ ?_
    · intro c35
      replace c35 : ch.toInt < 57344 := c35
      refine J45 () ?_
      rcases q31 with q | q | q | q
      · exact (Or.inl ⟨by omega, by omega⟩)
      · exact (Or.inr (Or.inl ⟨by omega, by omega⟩))
      · exact (Or.inr (Or.inr (Or.inl ⟨by omega, by omega⟩)))
      · exact (Or.inr (Or.inr (Or.inr (Or.inl ⟨by omega, by omega⟩))))
    · intro c35
      replace c35 : ch.toInt ≥ 57344 := c35
      have q38 : (57344 ≤ ch.toInt ∧ ch.toInt ≤ 2147483647) := by
        rcases q31 with q | q | q | q
        · (exfalso; omega)
        · (exfalso; omega)
        · (exfalso; omega)
        · exact (⟨by omega, by omega⟩)
      refine r_iload_n C d1_38 (pc' := 39) rfl rfl ?_
      refine r_ldc_w C (t31 hw) d1_39 (pc' := 42) rfl ?_
      refine r_icmple C d1_42 (pcT := 59) (pcF := 45) (by decide) rfl ?_ ?_
      · intro c42
        replace c42 : ch.toInt ≤ 65533 := c42
        refine J59 () ?_
        exact (Or.inr (Or.inr (Or.inr (Or.inl ⟨by omega, by omega⟩))))
      · intro c42
        replace c42 : ch.toInt > 65533 := c42
        refine J45 () ?_
        exact (Or.inr (Or.inr (Or.inr (Or.inr (⟨by omega, by omega⟩)))))
  intro J31
  refine r_iload_n C d1_0 (pc' := 1) rfl rfl ?_
  refine r_bipush C d1_1 (pc' := 3) rfl (z := (9 : Int32)) rfl ?_
  refine r_icmpeq C d1_3 (pcT := 59) (pcF := 6) (by decide) rfl ?_ ?_
  · intro c3
    replace c3 : ch.toInt = 9 := by rw [c3]; rfl
    refine J59 () ?_
    exact (Or.inl ⟨by omega, by omega⟩)
  · intro c3
    replace c3 : ¬ ch.toInt = 9 := fun q => c3 (Int32.toInt_inj.mp (q.trans rfl))
    have q6 : ((-2147483648) ≤ ch.toInt ∧ ch.toInt ≤ 8) ∨ (10 ≤ ch.toInt ∧ ch.toInt ≤ 2147483647) := by
      omega
    refine r_iload_n C d1_6 (pc' := 7) rfl rfl ?_
    refine r_bipush C d1_7 (pc' := 9) rfl (z := (10 : Int32)) rfl ?_
    refine r_icmpeq C d1_9 (pcT := 59) (pcF := 12) (by decide) rfl ?_ ?_
    · intro c9
      replace c9 : ch.toInt = 10 := by rw [c9]; rfl
      refine J59 () ?_
      rcases q6 with q | q
      · (exfalso; omega)
      · exact (Or.inl ⟨by omega, by omega⟩)
    · intro c9
      replace c9 : ¬ ch.toInt = 10 := fun q => c9 (Int32.toInt_inj.mp (q.trans rfl))
      have q12 : ((-2147483648) ≤ ch.toInt ∧ ch.toInt ≤ 8) ∨ (11 ≤ ch.toInt ∧ ch.toInt ≤ 2147483647) := by
        rcases q6 with q | q
        · exact (Or.inl ⟨by omega, by omega⟩)
        · exact (Or.inr (⟨by omega, by omega⟩))
      refine r_iload_n C d1_12 (pc' := 13) rfl rfl ?_
      refine r_bipush C d1_13 (pc' := 15) rfl (z := (13 : Int32)) rfl ?_
      refine r_icmpeq C d1_15 (pcT := 59) (pcF := 18) (by decide) rfl ?_ ?_
      · intro c15
        replace c15 : ch.toInt = 13 := by rw [c15]; rfl
        refine J59 () ?_
        rcases q12 with q | q
        · (exfalso; omega)
        · exact (Or.inr (Or.inl ⟨by omega, by omega⟩))
      · intro c15
        replace c15 : ¬ ch.toInt = 13 := fun q => c15 (Int32.toInt_inj.mp (q.trans rfl))
        have q18 : ((-2147483648) ≤ ch.toInt ∧ ch.toInt ≤ 8) ∨ (11 ≤ ch.toInt ∧ ch.toInt ≤ 12) ∨ (14 ≤ ch.toInt ∧ ch.toInt ≤ 2147483647) := by
          rcases q12 with q | q
          · exact (Or.inl ⟨by omega, by omega⟩)
          · omega
        refine r_iload_n C d1_18 (pc' := 19) rfl rfl ?_
        refine r_bipush C d1_19 (pc' := 21) rfl (z := (32 : Int32)) rfl ?_
        refine r_icmplt C d1_21 (pcT := 31) (pcF := 24) (by decide) rfl ?_ ?_
        · intro c21
          replace c21 : ch.toInt < 32 := c21
          refine J31 () ?_
          rcases q18 with q | q | q
          · exact (Or.inl ⟨by omega, by omega⟩)
          · exact (Or.inr (Or.inl ⟨by omega, by omega⟩))
          · exact (Or.inr (Or.inr (Or.inl ⟨by omega, by omega⟩)))
        · intro c21
          replace c21 : ch.toInt ≥ 32 := c21
          have q24 : (32 ≤ ch.toInt ∧ ch.toInt ≤ 2147483647) := by
            rcases q18 with q | q | q
            · (exfalso; omega)
            · (exfalso; omega)
            · exact (⟨by omega, by omega⟩)
          refine r_iload_n C d1_24 (pc' := 25) rfl rfl ?_
          refine r_ldc_w C (t30 hw) d1_25 (pc' := 28) rfl ?_
          refine r_icmple C d1_28 (pcT := 59) (pcF := 31) (by decide) rfl ?_ ?_
          · intro c28
            replace c28 : ch.toInt ≤ 55295 := c28
            refine J59 () ?_
            exact (Or.inr (Or.inr (Or.inl ⟨by omega, by omega⟩)))
          · intro c28
            replace c28 : ch.toInt > 55295 := c28
            refine J31 () ?_
            exact (Or.inr (Or.inr (Or.inr (⟨by omega, by omega⟩))))
set_option maxRecDepth 65536 in
set_option maxHeartbeats 40000000 in
theorem rm0 (l : Launch) (Z : State) (a0 : Array Value) (hw : ∀ d ∈ tables_1, d.before a0 Z = true) (reg : Int32) (off : Int64) (h0 : Heap) (n0 : Nat) (Z0 : n0 ≤ h0.size) :
    Con l Z x code maxLocals ret room_1 #[(.int reg), (.long off)] h0 n0 (fun v h => v = some (.int 1)) := by
  refine Con.of_body (plainFor_of_name pn1) #[.val (.int reg), .val (.long off), .second, .unset, .unset, .unset, .unset, .unset, .unset, .unset, .unset, .unset, .unset, .unset, .unset, .unset, .unset] (fun m => by first | rfl | (simp [entryFrame, mkF, argsToLocals, Value.category]; done)) ?_
  intro p e s m below meth c C
  refine r_bipush C at_0 (pc' := 2) rfl (z := (11 : Int32)) rfl ?_
  refine r_newarray (ty := .long) (dv := (.long (0 : Int64))) rfl (n := 11) (cap := 11) C (t0 hw) rfl at_2 (pc' := 4) rfl (by decide) (by decide) (by decide) (by decide) (by decide) ?_
  intro lo h1 ha_lo K1 A_lo
  have ge_lo : n0 ≤ lo := Nat.le_trans Z0 (Nat.le_of_eq (Eq.symm ha_lo))
  have Z0 := Nat.le_trans Z0 K1.1
  have A_lo : IA Z h1 lo .long 11 (fun i => .long ((fun _ => (0 : Int64)) i)) := A_lo
  refine r_dup C at_4 (pc' := 5) rfl rfl ?_
  refine r_iconst C at_5 (pc' := 6) rfl (z := (0 : Int32)) rfl ?_
  refine r_ldc2_w C (t1 hw) at_6 (pc' := 9) rfl ?_
  refine r_lastore C at_9 (pc' := 10) rfl A_lo (jn := 0) (by decide) (by decide) ge_lo ?_
  intro h2 K2 A_lo
  have Z0 := Nat.le_trans Z0 K2.1
  have A_lo : IA Z h2 lo .long 11 (fun i => .long ((fun i => if i = 0 then ((-2147483648) : Int64) else (fun _ => (0 : Int64)) i) i)) := A_lo
  refine r_dup C at_10 (pc' := 11) rfl rfl ?_
  refine r_iconst C at_11 (pc' := 12) rfl (z := (1 : Int32)) rfl ?_
  refine r_ldc2_w C (t2 hw) at_12 (pc' := 15) rfl ?_
  refine r_lastore C at_15 (pc' := 16) rfl A_lo (jn := 1) (by decide) (by decide) ge_lo ?_
  intro h3 K3 A_lo
  have Z0 := Nat.le_trans Z0 K3.1
  have A_lo : IA Z h3 lo .long 11 (fun i => .long ((fun i => if i = 1 then (9 : Int64) else (fun i => if i = 0 then ((-2147483648) : Int64) else (fun _ => (0 : Int64)) i) i) i)) := A_lo
  refine r_dup C at_16 (pc' := 17) rfl rfl ?_
  refine r_iconst C at_17 (pc' := 18) rfl (z := (2 : Int32)) rfl ?_
  refine r_ldc2_w C (t3 hw) at_18 (pc' := 21) rfl ?_
  refine r_lastore C at_21 (pc' := 22) rfl A_lo (jn := 2) (by decide) (by decide) ge_lo ?_
  intro h4 K4 A_lo
  have Z0 := Nat.le_trans Z0 K4.1
  have A_lo : IA Z h4 lo .long 11 (fun i => .long ((fun i => if i = 2 then (11 : Int64) else (fun i => if i = 1 then (9 : Int64) else (fun i => if i = 0 then ((-2147483648) : Int64) else (fun _ => (0 : Int64)) i) i) i) i)) := A_lo
  refine r_dup C at_22 (pc' := 23) rfl rfl ?_
  refine r_iconst C at_23 (pc' := 24) rfl (z := (3 : Int32)) rfl ?_
  refine r_ldc2_w C (t4 hw) at_24 (pc' := 27) rfl ?_
  refine r_lastore C at_27 (pc' := 28) rfl A_lo (jn := 3) (by decide) (by decide) ge_lo ?_
  intro h5 K5 A_lo
  have Z0 := Nat.le_trans Z0 K5.1
  have A_lo : IA Z h5 lo .long 11 (fun i => .long ((fun i => if i = 3 then (13 : Int64) else (fun i => if i = 2 then (11 : Int64) else (fun i => if i = 1 then (9 : Int64) else (fun i => if i = 0 then ((-2147483648) : Int64) else (fun _ => (0 : Int64)) i) i) i) i) i)) := A_lo
  refine r_dup C at_28 (pc' := 29) rfl rfl ?_
  refine r_iconst C at_29 (pc' := 30) rfl (z := (4 : Int32)) rfl ?_
  refine r_ldc2_w C (t5 hw) at_30 (pc' := 33) rfl ?_
  refine r_lastore C at_33 (pc' := 34) rfl A_lo (jn := 4) (by decide) (by decide) ge_lo ?_
  intro h6 K6 A_lo
  have Z0 := Nat.le_trans Z0 K6.1
  have A_lo : IA Z h6 lo .long 11 (fun i => .long ((fun i => if i = 4 then (14 : Int64) else (fun i => if i = 3 then (13 : Int64) else (fun i => if i = 2 then (11 : Int64) else (fun i => if i = 1 then (9 : Int64) else (fun i => if i = 0 then ((-2147483648) : Int64) else (fun _ => (0 : Int64)) i) i) i) i) i) i)) := A_lo
  refine r_dup C at_34 (pc' := 35) rfl rfl ?_
  refine r_iconst C at_35 (pc' := 36) rfl (z := (5 : Int32)) rfl ?_
  refine r_ldc2_w C (t6 hw) at_36 (pc' := 39) rfl ?_
  refine r_lastore C at_39 (pc' := 40) rfl A_lo (jn := 5) (by decide) (by decide) ge_lo ?_
  intro h7 K7 A_lo
  have Z0 := Nat.le_trans Z0 K7.1
  have A_lo : IA Z h7 lo .long 11 (fun i => .long ((fun i => if i = 5 then (32 : Int64) else (fun i => if i = 4 then (14 : Int64) else (fun i => if i = 3 then (13 : Int64) else (fun i => if i = 2 then (11 : Int64) else (fun i => if i = 1 then (9 : Int64) else (fun i => if i = 0 then ((-2147483648) : Int64) else (fun _ => (0 : Int64)) i) i) i) i) i) i) i)) := A_lo
  refine r_dup C at_40 (pc' := 41) rfl rfl ?_
  refine r_bipush C at_41 (pc' := 43) rfl (z := (6 : Int32)) rfl ?_
  refine r_ldc2_w C (t7 hw) at_43 (pc' := 46) rfl ?_
  refine r_lastore C at_46 (pc' := 47) rfl A_lo (jn := 6) (by decide) (by decide) ge_lo ?_
  intro h8 K8 A_lo
  have Z0 := Nat.le_trans Z0 K8.1
  have A_lo : IA Z h8 lo .long 11 (fun i => .long ((fun i => if i = 6 then (55296 : Int64) else (fun i => if i = 5 then (32 : Int64) else (fun i => if i = 4 then (14 : Int64) else (fun i => if i = 3 then (13 : Int64) else (fun i => if i = 2 then (11 : Int64) else (fun i => if i = 1 then (9 : Int64) else (fun i => if i = 0 then ((-2147483648) : Int64) else (fun _ => (0 : Int64)) i) i) i) i) i) i) i) i)) := A_lo
  refine r_dup C at_47 (pc' := 48) rfl rfl ?_
  refine r_bipush C at_48 (pc' := 50) rfl (z := (7 : Int32)) rfl ?_
  refine r_ldc2_w C (t8 hw) at_50 (pc' := 53) rfl ?_
  refine r_lastore C at_53 (pc' := 54) rfl A_lo (jn := 7) (by decide) (by decide) ge_lo ?_
  intro h9 K9 A_lo
  have Z0 := Nat.le_trans Z0 K9.1
  have A_lo : IA Z h9 lo .long 11 (fun i => .long ((fun i => if i = 7 then (57344 : Int64) else (fun i => if i = 6 then (55296 : Int64) else (fun i => if i = 5 then (32 : Int64) else (fun i => if i = 4 then (14 : Int64) else (fun i => if i = 3 then (13 : Int64) else (fun i => if i = 2 then (11 : Int64) else (fun i => if i = 1 then (9 : Int64) else (fun i => if i = 0 then ((-2147483648) : Int64) else (fun _ => (0 : Int64)) i) i) i) i) i) i) i) i) i)) := A_lo
  refine r_dup C at_54 (pc' := 55) rfl rfl ?_
  refine r_bipush C at_55 (pc' := 57) rfl (z := (8 : Int32)) rfl ?_
  refine r_ldc2_w C (t9 hw) at_57 (pc' := 60) rfl ?_
  refine r_lastore C at_60 (pc' := 61) rfl A_lo (jn := 8) (by decide) (by decide) ge_lo ?_
  intro h10 K10 A_lo
  have Z0 := Nat.le_trans Z0 K10.1
  have A_lo : IA Z h10 lo .long 11 (fun i => .long ((fun i => if i = 8 then (65534 : Int64) else (fun i => if i = 7 then (57344 : Int64) else (fun i => if i = 6 then (55296 : Int64) else (fun i => if i = 5 then (32 : Int64) else (fun i => if i = 4 then (14 : Int64) else (fun i => if i = 3 then (13 : Int64) else (fun i => if i = 2 then (11 : Int64) else (fun i => if i = 1 then (9 : Int64) else (fun i => if i = 0 then ((-2147483648) : Int64) else (fun _ => (0 : Int64)) i) i) i) i) i) i) i) i) i) i)) := A_lo
  refine r_dup C at_61 (pc' := 62) rfl rfl ?_
  refine r_bipush C at_62 (pc' := 64) rfl (z := (9 : Int32)) rfl ?_
  refine r_ldc2_w C (t10 hw) at_64 (pc' := 67) rfl ?_
  refine r_lastore C at_67 (pc' := 68) rfl A_lo (jn := 9) (by decide) (by decide) ge_lo ?_
  intro h11 K11 A_lo
  have Z0 := Nat.le_trans Z0 K11.1
  have A_lo : IA Z h11 lo .long 11 (fun i => .long ((fun i => if i = 9 then (65536 : Int64) else (fun i => if i = 8 then (65534 : Int64) else (fun i => if i = 7 then (57344 : Int64) else (fun i => if i = 6 then (55296 : Int64) else (fun i => if i = 5 then (32 : Int64) else (fun i => if i = 4 then (14 : Int64) else (fun i => if i = 3 then (13 : Int64) else (fun i => if i = 2 then (11 : Int64) else (fun i => if i = 1 then (9 : Int64) else (fun i => if i = 0 then ((-2147483648) : Int64) else (fun _ => (0 : Int64)) i) i) i) i) i) i) i) i) i) i) i)) := A_lo
  refine r_dup C at_68 (pc' := 69) rfl rfl ?_
  refine r_bipush C at_69 (pc' := 71) rfl (z := (10 : Int32)) rfl ?_
  refine r_ldc2_w C (t11 hw) at_71 (pc' := 74) rfl ?_
  refine r_lastore C at_74 (pc' := 75) rfl A_lo (jn := 10) (by decide) (by decide) ge_lo ?_
  intro h12 K12 A_lo
  have Z0 := Nat.le_trans Z0 K12.1
  have A_lo : IA Z h12 lo .long 11 (fun i => .long (own_lo i)) := A_lo.congr (fun j hj => congrArg _ ((by decide +kernel : ∀ j, j < 11 → (if j = 10 then (1114112 : Int64) else (fun i => if i = 9 then (65536 : Int64) else (fun i => if i = 8 then (65534 : Int64) else (fun i => if i = 7 then (57344 : Int64) else (fun i => if i = 6 then (55296 : Int64) else (fun i => if i = 5 then (32 : Int64) else (fun i => if i = 4 then (14 : Int64) else (fun i => if i = 3 then (13 : Int64) else (fun i => if i = 2 then (11 : Int64) else (fun i => if i = 1 then (9 : Int64) else (fun i => if i = 0 then ((-2147483648) : Int64) else (fun _ => (0 : Int64)) i) i) i) i) i) i) i) i) i) i) j) = own_lo j) j hj))
  refine r_astore_n C at_75 (pc' := 76) rfl rfl (ls' := #[.val (.int reg), .val (.long off), .second, .val (.ref lo), .unset, .unset, .unset, .unset, .unset, .unset, .unset, .unset, .unset, .unset, .unset, .unset, .unset]) rfl ?_
  refine r_bipush C at_76 (pc' := 78) rfl (z := (11 : Int32)) rfl ?_
  refine r_newarray (ty := .long) (dv := (.long (0 : Int64))) rfl (n := 11) (cap := 11) C (t0 hw) rfl at_78 (pc' := 80) rfl (by decide) (by decide) (by decide) (by decide) (by decide) ?_
  intro hi h13 ha_hi K13 A_hi
  have ne_lo_hi : lo ≠ hi := Nat.ne_of_lt (Nat.lt_of_lt_of_le A_lo.lt (Nat.le_of_eq (Eq.symm ha_hi)))
  have ne_hi_lo : hi ≠ lo := fun q => ne_lo_hi q.symm
  have ge_hi : n0 ≤ hi := Nat.le_trans Z0 (Nat.le_of_eq (Eq.symm ha_hi))
  have A_lo := A_lo.keep K13 nin0
  have Z0 := Nat.le_trans Z0 K13.1
  have A_hi : IA Z h13 hi .long 11 (fun i => .long ((fun _ => (0 : Int64)) i)) := A_hi
  refine r_dup C at_80 (pc' := 81) rfl rfl ?_
  refine r_iconst C at_81 (pc' := 82) rfl (z := (0 : Int32)) rfl ?_
  refine r_ldc2_w C (t12 hw) at_82 (pc' := 85) rfl ?_
  refine r_lastore C at_85 (pc' := 86) rfl A_hi (jn := 0) (by decide) (by decide) ge_hi ?_
  intro h14 K14 A_hi
  have A_lo := A_lo.keep K14 (ninS ne_lo_hi nin0)
  have Z0 := Nat.le_trans Z0 K14.1
  have A_hi : IA Z h14 hi .long 11 (fun i => .long ((fun i => if i = 0 then (8 : Int64) else (fun _ => (0 : Int64)) i) i)) := A_hi
  refine r_dup C at_86 (pc' := 87) rfl rfl ?_
  refine r_iconst C at_87 (pc' := 88) rfl (z := (1 : Int32)) rfl ?_
  refine r_ldc2_w C (t13 hw) at_88 (pc' := 91) rfl ?_
  refine r_lastore C at_91 (pc' := 92) rfl A_hi (jn := 1) (by decide) (by decide) ge_hi ?_
  intro h15 K15 A_hi
  have A_lo := A_lo.keep K15 (ninS ne_lo_hi nin0)
  have Z0 := Nat.le_trans Z0 K15.1
  have A_hi : IA Z h15 hi .long 11 (fun i => .long ((fun i => if i = 1 then (10 : Int64) else (fun i => if i = 0 then (8 : Int64) else (fun _ => (0 : Int64)) i) i) i)) := A_hi
  refine r_dup C at_92 (pc' := 93) rfl rfl ?_
  refine r_iconst C at_93 (pc' := 94) rfl (z := (2 : Int32)) rfl ?_
  refine r_ldc2_w C (t14 hw) at_94 (pc' := 97) rfl ?_
  refine r_lastore C at_97 (pc' := 98) rfl A_hi (jn := 2) (by decide) (by decide) ge_hi ?_
  intro h16 K16 A_hi
  have A_lo := A_lo.keep K16 (ninS ne_lo_hi nin0)
  have Z0 := Nat.le_trans Z0 K16.1
  have A_hi : IA Z h16 hi .long 11 (fun i => .long ((fun i => if i = 2 then (12 : Int64) else (fun i => if i = 1 then (10 : Int64) else (fun i => if i = 0 then (8 : Int64) else (fun _ => (0 : Int64)) i) i) i) i)) := A_hi
  refine r_dup C at_98 (pc' := 99) rfl rfl ?_
  refine r_iconst C at_99 (pc' := 100) rfl (z := (3 : Int32)) rfl ?_
  refine r_ldc2_w C (t4 hw) at_100 (pc' := 103) rfl ?_
  refine r_lastore C at_103 (pc' := 104) rfl A_hi (jn := 3) (by decide) (by decide) ge_hi ?_
  intro h17 K17 A_hi
  have A_lo := A_lo.keep K17 (ninS ne_lo_hi nin0)
  have Z0 := Nat.le_trans Z0 K17.1
  have A_hi : IA Z h17 hi .long 11 (fun i => .long ((fun i => if i = 3 then (13 : Int64) else (fun i => if i = 2 then (12 : Int64) else (fun i => if i = 1 then (10 : Int64) else (fun i => if i = 0 then (8 : Int64) else (fun _ => (0 : Int64)) i) i) i) i) i)) := A_hi
  refine r_dup C at_104 (pc' := 105) rfl rfl ?_
  refine r_iconst C at_105 (pc' := 106) rfl (z := (4 : Int32)) rfl ?_
  refine r_ldc2_w C (t15 hw) at_106 (pc' := 109) rfl ?_
  refine r_lastore C at_109 (pc' := 110) rfl A_hi (jn := 4) (by decide) (by decide) ge_hi ?_
  intro h18 K18 A_hi
  have A_lo := A_lo.keep K18 (ninS ne_lo_hi nin0)
  have Z0 := Nat.le_trans Z0 K18.1
  have A_hi : IA Z h18 hi .long 11 (fun i => .long ((fun i => if i = 4 then (31 : Int64) else (fun i => if i = 3 then (13 : Int64) else (fun i => if i = 2 then (12 : Int64) else (fun i => if i = 1 then (10 : Int64) else (fun i => if i = 0 then (8 : Int64) else (fun _ => (0 : Int64)) i) i) i) i) i) i)) := A_hi
  refine r_dup C at_110 (pc' := 111) rfl rfl ?_
  refine r_iconst C at_111 (pc' := 112) rfl (z := (5 : Int32)) rfl ?_
  refine r_ldc2_w C (t16 hw) at_112 (pc' := 115) rfl ?_
  refine r_lastore C at_115 (pc' := 116) rfl A_hi (jn := 5) (by decide) (by decide) ge_hi ?_
  intro h19 K19 A_hi
  have A_lo := A_lo.keep K19 (ninS ne_lo_hi nin0)
  have Z0 := Nat.le_trans Z0 K19.1
  have A_hi : IA Z h19 hi .long 11 (fun i => .long ((fun i => if i = 5 then (55295 : Int64) else (fun i => if i = 4 then (31 : Int64) else (fun i => if i = 3 then (13 : Int64) else (fun i => if i = 2 then (12 : Int64) else (fun i => if i = 1 then (10 : Int64) else (fun i => if i = 0 then (8 : Int64) else (fun _ => (0 : Int64)) i) i) i) i) i) i) i)) := A_hi
  refine r_dup C at_116 (pc' := 117) rfl rfl ?_
  refine r_bipush C at_117 (pc' := 119) rfl (z := (6 : Int32)) rfl ?_
  refine r_ldc2_w C (t17 hw) at_119 (pc' := 122) rfl ?_
  refine r_lastore C at_122 (pc' := 123) rfl A_hi (jn := 6) (by decide) (by decide) ge_hi ?_
  intro h20 K20 A_hi
  have A_lo := A_lo.keep K20 (ninS ne_lo_hi nin0)
  have Z0 := Nat.le_trans Z0 K20.1
  have A_hi : IA Z h20 hi .long 11 (fun i => .long ((fun i => if i = 6 then (57343 : Int64) else (fun i => if i = 5 then (55295 : Int64) else (fun i => if i = 4 then (31 : Int64) else (fun i => if i = 3 then (13 : Int64) else (fun i => if i = 2 then (12 : Int64) else (fun i => if i = 1 then (10 : Int64) else (fun i => if i = 0 then (8 : Int64) else (fun _ => (0 : Int64)) i) i) i) i) i) i) i) i)) := A_hi
  refine r_dup C at_123 (pc' := 124) rfl rfl ?_
  refine r_bipush C at_124 (pc' := 126) rfl (z := (7 : Int32)) rfl ?_
  refine r_ldc2_w C (t18 hw) at_126 (pc' := 129) rfl ?_
  refine r_lastore C at_129 (pc' := 130) rfl A_hi (jn := 7) (by decide) (by decide) ge_hi ?_
  intro h21 K21 A_hi
  have A_lo := A_lo.keep K21 (ninS ne_lo_hi nin0)
  have Z0 := Nat.le_trans Z0 K21.1
  have A_hi : IA Z h21 hi .long 11 (fun i => .long ((fun i => if i = 7 then (65533 : Int64) else (fun i => if i = 6 then (57343 : Int64) else (fun i => if i = 5 then (55295 : Int64) else (fun i => if i = 4 then (31 : Int64) else (fun i => if i = 3 then (13 : Int64) else (fun i => if i = 2 then (12 : Int64) else (fun i => if i = 1 then (10 : Int64) else (fun i => if i = 0 then (8 : Int64) else (fun _ => (0 : Int64)) i) i) i) i) i) i) i) i) i)) := A_hi
  refine r_dup C at_130 (pc' := 131) rfl rfl ?_
  refine r_bipush C at_131 (pc' := 133) rfl (z := (8 : Int32)) rfl ?_
  refine r_ldc2_w C (t19 hw) at_133 (pc' := 136) rfl ?_
  refine r_lastore C at_136 (pc' := 137) rfl A_hi (jn := 8) (by decide) (by decide) ge_hi ?_
  intro h22 K22 A_hi
  have A_lo := A_lo.keep K22 (ninS ne_lo_hi nin0)
  have Z0 := Nat.le_trans Z0 K22.1
  have A_hi : IA Z h22 hi .long 11 (fun i => .long ((fun i => if i = 8 then (65535 : Int64) else (fun i => if i = 7 then (65533 : Int64) else (fun i => if i = 6 then (57343 : Int64) else (fun i => if i = 5 then (55295 : Int64) else (fun i => if i = 4 then (31 : Int64) else (fun i => if i = 3 then (13 : Int64) else (fun i => if i = 2 then (12 : Int64) else (fun i => if i = 1 then (10 : Int64) else (fun i => if i = 0 then (8 : Int64) else (fun _ => (0 : Int64)) i) i) i) i) i) i) i) i) i) i)) := A_hi
  refine r_dup C at_137 (pc' := 138) rfl rfl ?_
  refine r_bipush C at_138 (pc' := 140) rfl (z := (9 : Int32)) rfl ?_
  refine r_ldc2_w C (t20 hw) at_140 (pc' := 143) rfl ?_
  refine r_lastore C at_143 (pc' := 144) rfl A_hi (jn := 9) (by decide) (by decide) ge_hi ?_
  intro h23 K23 A_hi
  have A_lo := A_lo.keep K23 (ninS ne_lo_hi nin0)
  have Z0 := Nat.le_trans Z0 K23.1
  have A_hi : IA Z h23 hi .long 11 (fun i => .long ((fun i => if i = 9 then (1114111 : Int64) else (fun i => if i = 8 then (65535 : Int64) else (fun i => if i = 7 then (65533 : Int64) else (fun i => if i = 6 then (57343 : Int64) else (fun i => if i = 5 then (55295 : Int64) else (fun i => if i = 4 then (31 : Int64) else (fun i => if i = 3 then (13 : Int64) else (fun i => if i = 2 then (12 : Int64) else (fun i => if i = 1 then (10 : Int64) else (fun i => if i = 0 then (8 : Int64) else (fun _ => (0 : Int64)) i) i) i) i) i) i) i) i) i) i) i)) := A_hi
  refine r_dup C at_144 (pc' := 145) rfl rfl ?_
  refine r_bipush C at_145 (pc' := 147) rfl (z := (10 : Int32)) rfl ?_
  refine r_ldc2_w C (t21 hw) at_147 (pc' := 150) rfl ?_
  refine r_lastore C at_150 (pc' := 151) rfl A_hi (jn := 10) (by decide) (by decide) ge_hi ?_
  intro h24 K24 A_hi
  have A_lo := A_lo.keep K24 (ninS ne_lo_hi nin0)
  have Z0 := Nat.le_trans Z0 K24.1
  have A_hi : IA Z h24 hi .long 11 (fun i => .long (own_hi i)) := A_hi.congr (fun j hj => congrArg _ ((by decide +kernel : ∀ j, j < 11 → (if j = 10 then (2147483647 : Int64) else (fun i => if i = 9 then (1114111 : Int64) else (fun i => if i = 8 then (65535 : Int64) else (fun i => if i = 7 then (65533 : Int64) else (fun i => if i = 6 then (57343 : Int64) else (fun i => if i = 5 then (55295 : Int64) else (fun i => if i = 4 then (31 : Int64) else (fun i => if i = 3 then (13 : Int64) else (fun i => if i = 2 then (12 : Int64) else (fun i => if i = 1 then (10 : Int64) else (fun i => if i = 0 then (8 : Int64) else (fun _ => (0 : Int64)) i) i) i) i) i) i) i) i) i) i) j) = own_hi j) j hj))
  refine r_astore C at_151 (pc' := 153) rfl rfl (ls' := #[.val (.int reg), .val (.long off), .second, .val (.ref lo), .val (.ref hi), .unset, .unset, .unset, .unset, .unset, .unset, .unset, .unset, .unset, .unset, .unset, .unset]) rfl ?_
  refine r_bipush C at_153 (pc' := 155) rfl (z := (11 : Int32)) rfl ?_
  refine r_newarray (ty := .boolean) (dv := (.int (0 : Int32))) rfl (n := 11) (cap := 11) C (t22 hw) rfl at_155 (pc' := 157) rfl (by decide) (by decide) (by decide) (by decide) (by decide) ?_
  intro aa h25 ha_aa K25 A_aa
  have ne_lo_aa : lo ≠ aa := Nat.ne_of_lt (Nat.lt_of_lt_of_le A_lo.lt (Nat.le_of_eq (Eq.symm ha_aa)))
  have ne_aa_lo : aa ≠ lo := fun q => ne_lo_aa q.symm
  have ne_hi_aa : hi ≠ aa := Nat.ne_of_lt (Nat.lt_of_lt_of_le A_hi.lt (Nat.le_of_eq (Eq.symm ha_aa)))
  have ne_aa_hi : aa ≠ hi := fun q => ne_hi_aa q.symm
  have ge_aa : n0 ≤ aa := Nat.le_trans Z0 (Nat.le_of_eq (Eq.symm ha_aa))
  have A_lo := A_lo.keep K25 nin0
  have A_hi := A_hi.keep K25 nin0
  have Z0 := Nat.le_trans Z0 K25.1
  have A_aa : IA Z h25 aa .boolean 11 (fun i => .int ((fun _ => (0 : Int32)) i)) := A_aa
  refine r_dup C at_157 (pc' := 158) rfl rfl ?_
  refine r_iconst C at_158 (pc' := 159) rfl (z := (0 : Int32)) rfl ?_
  refine r_iconst C at_159 (pc' := 160) rfl (z := (0 : Int32)) rfl ?_
  refine r_zastore C at_160 (pc' := 161) rfl A_aa (jn := 0) (by decide) (by decide) ge_aa ?_
  intro h26 K26 A_aa
  have A_lo := A_lo.keep K26 (ninS ne_lo_aa nin0)
  have A_hi := A_hi.keep K26 (ninS ne_hi_aa nin0)
  have Z0 := Nat.le_trans Z0 K26.1
  have A_aa : IA Z h26 aa .boolean 11 (fun i => .int ((fun i => if i = 0 then (nar .boolean (0 : Int32)) else (fun _ => (0 : Int32)) i) i)) := A_aa
  refine r_dup C at_161 (pc' := 162) rfl rfl ?_
  refine r_iconst C at_162 (pc' := 163) rfl (z := (1 : Int32)) rfl ?_
  refine r_iconst C at_163 (pc' := 164) rfl (z := (1 : Int32)) rfl ?_
  refine r_zastore C at_164 (pc' := 165) rfl A_aa (jn := 1) (by decide) (by decide) ge_aa ?_
  intro h27 K27 A_aa
  have A_lo := A_lo.keep K27 (ninS ne_lo_aa nin0)
  have A_hi := A_hi.keep K27 (ninS ne_hi_aa nin0)
  have Z0 := Nat.le_trans Z0 K27.1
  have A_aa : IA Z h27 aa .boolean 11 (fun i => .int ((fun i => if i = 1 then (nar .boolean (1 : Int32)) else (fun i => if i = 0 then (nar .boolean (0 : Int32)) else (fun _ => (0 : Int32)) i) i) i)) := A_aa
  refine r_dup C at_165 (pc' := 166) rfl rfl ?_
  refine r_iconst C at_166 (pc' := 167) rfl (z := (2 : Int32)) rfl ?_
  refine r_iconst C at_167 (pc' := 168) rfl (z := (0 : Int32)) rfl ?_
  refine r_zastore C at_168 (pc' := 169) rfl A_aa (jn := 2) (by decide) (by decide) ge_aa ?_
  intro h28 K28 A_aa
  have A_lo := A_lo.keep K28 (ninS ne_lo_aa nin0)
  have A_hi := A_hi.keep K28 (ninS ne_hi_aa nin0)
  have Z0 := Nat.le_trans Z0 K28.1
  have A_aa : IA Z h28 aa .boolean 11 (fun i => .int ((fun i => if i = 2 then (nar .boolean (0 : Int32)) else (fun i => if i = 1 then (nar .boolean (1 : Int32)) else (fun i => if i = 0 then (nar .boolean (0 : Int32)) else (fun _ => (0 : Int32)) i) i) i) i)) := A_aa
  refine r_dup C at_169 (pc' := 170) rfl rfl ?_
  refine r_iconst C at_170 (pc' := 171) rfl (z := (3 : Int32)) rfl ?_
  refine r_iconst C at_171 (pc' := 172) rfl (z := (1 : Int32)) rfl ?_
  refine r_zastore C at_172 (pc' := 173) rfl A_aa (jn := 3) (by decide) (by decide) ge_aa ?_
  intro h29 K29 A_aa
  have A_lo := A_lo.keep K29 (ninS ne_lo_aa nin0)
  have A_hi := A_hi.keep K29 (ninS ne_hi_aa nin0)
  have Z0 := Nat.le_trans Z0 K29.1
  have A_aa : IA Z h29 aa .boolean 11 (fun i => .int ((fun i => if i = 3 then (nar .boolean (1 : Int32)) else (fun i => if i = 2 then (nar .boolean (0 : Int32)) else (fun i => if i = 1 then (nar .boolean (1 : Int32)) else (fun i => if i = 0 then (nar .boolean (0 : Int32)) else (fun _ => (0 : Int32)) i) i) i) i) i)) := A_aa
  refine r_dup C at_173 (pc' := 174) rfl rfl ?_
  refine r_iconst C at_174 (pc' := 175) rfl (z := (4 : Int32)) rfl ?_
  refine r_iconst C at_175 (pc' := 176) rfl (z := (0 : Int32)) rfl ?_
  refine r_zastore C at_176 (pc' := 177) rfl A_aa (jn := 4) (by decide) (by decide) ge_aa ?_
  intro h30 K30 A_aa
  have A_lo := A_lo.keep K30 (ninS ne_lo_aa nin0)
  have A_hi := A_hi.keep K30 (ninS ne_hi_aa nin0)
  have Z0 := Nat.le_trans Z0 K30.1
  have A_aa : IA Z h30 aa .boolean 11 (fun i => .int ((fun i => if i = 4 then (nar .boolean (0 : Int32)) else (fun i => if i = 3 then (nar .boolean (1 : Int32)) else (fun i => if i = 2 then (nar .boolean (0 : Int32)) else (fun i => if i = 1 then (nar .boolean (1 : Int32)) else (fun i => if i = 0 then (nar .boolean (0 : Int32)) else (fun _ => (0 : Int32)) i) i) i) i) i) i)) := A_aa
  refine r_dup C at_177 (pc' := 178) rfl rfl ?_
  refine r_iconst C at_178 (pc' := 179) rfl (z := (5 : Int32)) rfl ?_
  refine r_iconst C at_179 (pc' := 180) rfl (z := (1 : Int32)) rfl ?_
  refine r_zastore C at_180 (pc' := 181) rfl A_aa (jn := 5) (by decide) (by decide) ge_aa ?_
  intro h31 K31 A_aa
  have A_lo := A_lo.keep K31 (ninS ne_lo_aa nin0)
  have A_hi := A_hi.keep K31 (ninS ne_hi_aa nin0)
  have Z0 := Nat.le_trans Z0 K31.1
  have A_aa : IA Z h31 aa .boolean 11 (fun i => .int ((fun i => if i = 5 then (nar .boolean (1 : Int32)) else (fun i => if i = 4 then (nar .boolean (0 : Int32)) else (fun i => if i = 3 then (nar .boolean (1 : Int32)) else (fun i => if i = 2 then (nar .boolean (0 : Int32)) else (fun i => if i = 1 then (nar .boolean (1 : Int32)) else (fun i => if i = 0 then (nar .boolean (0 : Int32)) else (fun _ => (0 : Int32)) i) i) i) i) i) i) i)) := A_aa
  refine r_dup C at_181 (pc' := 182) rfl rfl ?_
  refine r_bipush C at_182 (pc' := 184) rfl (z := (6 : Int32)) rfl ?_
  refine r_iconst C at_184 (pc' := 185) rfl (z := (0 : Int32)) rfl ?_
  refine r_zastore C at_185 (pc' := 186) rfl A_aa (jn := 6) (by decide) (by decide) ge_aa ?_
  intro h32 K32 A_aa
  have A_lo := A_lo.keep K32 (ninS ne_lo_aa nin0)
  have A_hi := A_hi.keep K32 (ninS ne_hi_aa nin0)
  have Z0 := Nat.le_trans Z0 K32.1
  have A_aa : IA Z h32 aa .boolean 11 (fun i => .int ((fun i => if i = 6 then (nar .boolean (0 : Int32)) else (fun i => if i = 5 then (nar .boolean (1 : Int32)) else (fun i => if i = 4 then (nar .boolean (0 : Int32)) else (fun i => if i = 3 then (nar .boolean (1 : Int32)) else (fun i => if i = 2 then (nar .boolean (0 : Int32)) else (fun i => if i = 1 then (nar .boolean (1 : Int32)) else (fun i => if i = 0 then (nar .boolean (0 : Int32)) else (fun _ => (0 : Int32)) i) i) i) i) i) i) i) i)) := A_aa
  refine r_dup C at_186 (pc' := 187) rfl rfl ?_
  refine r_bipush C at_187 (pc' := 189) rfl (z := (7 : Int32)) rfl ?_
  refine r_iconst C at_189 (pc' := 190) rfl (z := (1 : Int32)) rfl ?_
  refine r_zastore C at_190 (pc' := 191) rfl A_aa (jn := 7) (by decide) (by decide) ge_aa ?_
  intro h33 K33 A_aa
  have A_lo := A_lo.keep K33 (ninS ne_lo_aa nin0)
  have A_hi := A_hi.keep K33 (ninS ne_hi_aa nin0)
  have Z0 := Nat.le_trans Z0 K33.1
  have A_aa : IA Z h33 aa .boolean 11 (fun i => .int ((fun i => if i = 7 then (nar .boolean (1 : Int32)) else (fun i => if i = 6 then (nar .boolean (0 : Int32)) else (fun i => if i = 5 then (nar .boolean (1 : Int32)) else (fun i => if i = 4 then (nar .boolean (0 : Int32)) else (fun i => if i = 3 then (nar .boolean (1 : Int32)) else (fun i => if i = 2 then (nar .boolean (0 : Int32)) else (fun i => if i = 1 then (nar .boolean (1 : Int32)) else (fun i => if i = 0 then (nar .boolean (0 : Int32)) else (fun _ => (0 : Int32)) i) i) i) i) i) i) i) i) i)) := A_aa
  refine r_dup C at_191 (pc' := 192) rfl rfl ?_
  refine r_bipush C at_192 (pc' := 194) rfl (z := (8 : Int32)) rfl ?_
  refine r_iconst C at_194 (pc' := 195) rfl (z := (0 : Int32)) rfl ?_
  refine r_zastore C at_195 (pc' := 196) rfl A_aa (jn := 8) (by decide) (by decide) ge_aa ?_
  intro h34 K34 A_aa
  have A_lo := A_lo.keep K34 (ninS ne_lo_aa nin0)
  have A_hi := A_hi.keep K34 (ninS ne_hi_aa nin0)
  have Z0 := Nat.le_trans Z0 K34.1
  have A_aa : IA Z h34 aa .boolean 11 (fun i => .int ((fun i => if i = 8 then (nar .boolean (0 : Int32)) else (fun i => if i = 7 then (nar .boolean (1 : Int32)) else (fun i => if i = 6 then (nar .boolean (0 : Int32)) else (fun i => if i = 5 then (nar .boolean (1 : Int32)) else (fun i => if i = 4 then (nar .boolean (0 : Int32)) else (fun i => if i = 3 then (nar .boolean (1 : Int32)) else (fun i => if i = 2 then (nar .boolean (0 : Int32)) else (fun i => if i = 1 then (nar .boolean (1 : Int32)) else (fun i => if i = 0 then (nar .boolean (0 : Int32)) else (fun _ => (0 : Int32)) i) i) i) i) i) i) i) i) i) i)) := A_aa
  refine r_dup C at_196 (pc' := 197) rfl rfl ?_
  refine r_bipush C at_197 (pc' := 199) rfl (z := (9 : Int32)) rfl ?_
  refine r_iconst C at_199 (pc' := 200) rfl (z := (1 : Int32)) rfl ?_
  refine r_zastore C at_200 (pc' := 201) rfl A_aa (jn := 9) (by decide) (by decide) ge_aa ?_
  intro h35 K35 A_aa
  have A_lo := A_lo.keep K35 (ninS ne_lo_aa nin0)
  have A_hi := A_hi.keep K35 (ninS ne_hi_aa nin0)
  have Z0 := Nat.le_trans Z0 K35.1
  have A_aa : IA Z h35 aa .boolean 11 (fun i => .int ((fun i => if i = 9 then (nar .boolean (1 : Int32)) else (fun i => if i = 8 then (nar .boolean (0 : Int32)) else (fun i => if i = 7 then (nar .boolean (1 : Int32)) else (fun i => if i = 6 then (nar .boolean (0 : Int32)) else (fun i => if i = 5 then (nar .boolean (1 : Int32)) else (fun i => if i = 4 then (nar .boolean (0 : Int32)) else (fun i => if i = 3 then (nar .boolean (1 : Int32)) else (fun i => if i = 2 then (nar .boolean (0 : Int32)) else (fun i => if i = 1 then (nar .boolean (1 : Int32)) else (fun i => if i = 0 then (nar .boolean (0 : Int32)) else (fun _ => (0 : Int32)) i) i) i) i) i) i) i) i) i) i) i)) := A_aa
  refine r_dup C at_201 (pc' := 202) rfl rfl ?_
  refine r_bipush C at_202 (pc' := 204) rfl (z := (10 : Int32)) rfl ?_
  refine r_iconst C at_204 (pc' := 205) rfl (z := (0 : Int32)) rfl ?_
  refine r_zastore C at_205 (pc' := 206) rfl A_aa (jn := 10) (by decide) (by decide) ge_aa ?_
  intro h36 K36 A_aa
  have A_lo := A_lo.keep K36 (ninS ne_lo_aa nin0)
  have A_hi := A_hi.keep K36 (ninS ne_hi_aa nin0)
  have Z0 := Nat.le_trans Z0 K36.1
  have A_aa : IA Z h36 aa .boolean 11 (fun i => .int (own_w i)) := A_aa.congr (fun j hj => congrArg _ ((by decide +kernel : ∀ j, j < 11 → (if j = 10 then (nar .boolean (0 : Int32)) else (fun i => if i = 9 then (nar .boolean (1 : Int32)) else (fun i => if i = 8 then (nar .boolean (0 : Int32)) else (fun i => if i = 7 then (nar .boolean (1 : Int32)) else (fun i => if i = 6 then (nar .boolean (0 : Int32)) else (fun i => if i = 5 then (nar .boolean (1 : Int32)) else (fun i => if i = 4 then (nar .boolean (0 : Int32)) else (fun i => if i = 3 then (nar .boolean (1 : Int32)) else (fun i => if i = 2 then (nar .boolean (0 : Int32)) else (fun i => if i = 1 then (nar .boolean (1 : Int32)) else (fun i => if i = 0 then (nar .boolean (0 : Int32)) else (fun _ => (0 : Int32)) i) i) i) i) i) i) i) i) i) i) j) = own_w j) j hj))
  obtain ⟨ix, hix, hlt⟩ := own_idx reg
  obtain ⟨ii, hii⟩ : ∃ q : Int32, (reg &&& 2147483647) % 11 = q := ⟨_, rfl⟩
  rw [hii] at hix
  refine r_astore C at_206 (pc' := 208) rfl rfl (ls' := #[.val (.int reg), .val (.long off), .second, .val (.ref lo), .val (.ref hi), .val (.ref aa), .unset, .unset, .unset, .unset, .unset, .unset, .unset, .unset, .unset, .unset, .unset]) rfl ?_
  refine r_iload_n C at_208 (pc' := 209) rfl rfl ?_
  refine r_ldc C (t23 hw) at_209 (pc' := 211) rfl ?_
  refine r_iand C at_211 (pc' := 212) rfl (z := (reg &&& (2147483647 : Int32))) rfl ?_
  refine r_bipush C at_212 (pc' := 214) rfl (z := (11 : Int32)) rfl ?_
  refine r_irem C at_214 (pc' := 215) rfl (by decide) (z := ii) hii ?_
  refine r_istore C at_215 (pc' := 217) rfl (ls' := #[.val (.int reg), .val (.long off), .second, .val (.ref lo), .val (.ref hi), .val (.ref aa), .val (.int ii), .unset, .unset, .unset, .unset, .unset, .unset, .unset, .unset, .unset, .unset]) rfl ?_
  refine r_aload_n C at_217 (pc' := 218) rfl rfl rfl ?_
  refine r_iload C at_218 (pc' := 220) rfl rfl ?_
  refine r_laload C at_220 (pc' := 221) rfl A_lo (jn := ix) hix hlt (x := (own_lo ix)) rfl ?_
  refine r_lstore C at_221 (pc' := 223) rfl (ls' := #[.val (.int reg), .val (.long off), .second, .val (.ref lo), .val (.ref hi), .val (.ref aa), .val (.int ii), .val (.long (own_lo ix)), .second, .unset, .unset, .unset, .unset, .unset, .unset, .unset, .unset]) rfl ?_
  refine r_aload C at_223 (pc' := 225) rfl rfl rfl ?_
  refine r_iload C at_225 (pc' := 227) rfl rfl ?_
  refine r_laload C at_227 (pc' := 228) rfl A_hi (jn := ix) hix hlt (x := (own_hi ix)) rfl ?_
  have hbd := own_bd hlt
  have hsp := own_span hlt
  obtain ⟨sp, hsq⟩ : ∃ q : Int64, own_hi ix - own_lo ix + 1 = q := ⟨_, rfl⟩
  rw [hsq] at hsp
  have hnz : sp ≠ 0 := fun q => by rw [q] at hsp; change (0 : Int) = _ at hsp; omega
  have hmd := own_tmod off.toInt sp.toInt (by omega)
  rw [← Int64.toInt_mod] at hmd
  obtain ⟨mm, hmm⟩ : ∃ q : Int64, off % sp = q := ⟨_, rfl⟩
  rw [hmm] at hmd
  refine r_lstore C at_228 (pc' := 230) rfl (ls' := #[.val (.int reg), .val (.long off), .second, .val (.ref lo), .val (.ref hi), .val (.ref aa), .val (.int ii), .val (.long (own_lo ix)), .second, .val (.long (own_hi ix)), .second, .unset, .unset, .unset, .unset, .unset, .unset]) rfl ?_
  refine r_lload C at_230 (pc' := 232) rfl rfl ?_
  refine r_lload C at_232 (pc' := 234) rfl rfl ?_
  refine r_lsub C at_234 (pc' := 235) rfl (z := ((own_hi ix) - (own_lo ix))) rfl ?_
  refine r_lconst C at_235 (pc' := 236) rfl (z := (1 : Int64)) rfl ?_
  refine r_ladd C at_236 (pc' := 237) rfl (z := sp) hsq ?_
  refine r_lstore C at_237 (pc' := 239) rfl (ls' := #[.val (.int reg), .val (.long off), .second, .val (.ref lo), .val (.ref hi), .val (.ref aa), .val (.int ii), .val (.long (own_lo ix)), .second, .val (.long (own_hi ix)), .second, .val (.long sp), .second, .unset, .unset, .unset, .unset]) rfl ?_
  refine r_lload_n C at_239 (pc' := 240) rfl rfl ?_
  refine r_lload C at_240 (pc' := 242) rfl rfl ?_
  refine r_lrem C at_242 (pc' := 243) rfl hnz (z := mm) hmm ?_
  refine r_lstore C at_243 (pc' := 245) rfl (ls' := #[.val (.int reg), .val (.long off), .second, .val (.ref lo), .val (.ref hi), .val (.ref aa), .val (.int ii), .val (.long (own_lo ix)), .second, .val (.long (own_hi ix)), .second, .val (.long sp), .second, .val (.long mm), .second, .unset, .unset]) rfl ?_
  refine join (α := Int64) (fun q => 0 ≤ q.toInt ∧ q.toInt < sp.toInt) (fun _ => h36) 3 33 259 (fun q => #[.val (.int reg), .val (.long off), .second, .val (.ref lo), .val (.ref hi), .val (.ref aa), .val (.int ii), .val (.long (own_lo ix)), .second, .val (.long (own_hi ix)), .second, .val (.long sp), .second, .val (.long q), .second, .unset, .unset]) (fun _ => []) ?_ ?_
  · rintro q ⟨hq1, hq2⟩
    show Run _ _ _ _ _ _ _ _ _ _ _ _ _ _ _ h36 3 33 259 #[.val (.int reg), .val (.long off), .second, .val (.ref lo), .val (.ref hi), .val (.ref aa), .val (.int ii), .val (.long (own_lo ix)), .second, .val (.long (own_hi ix)), .second, .val (.long sp), .second, .val (.long q), .second, .unset, .unset] []
    have hadd : (own_lo ix + q).toInt = (own_lo ix).toInt + q.toInt := by
      have h1 := c_ladd (own_lo ix) q
      have h2 := rng64 (own_lo ix + q)
      omega
    refine r_lload C at_259 (pc' := 261) rfl rfl ?_
    refine r_lload C at_261 (pc' := 263) rfl rfl ?_
    refine r_ladd C at_263 (pc' := 264) rfl (z := ((own_lo ix) + q)) rfl ?_
    refine r_l2i C at_264 (pc' := 265) rfl (z := ((((own_lo ix) + q)).toInt32)) rfl ?_
    refine r_istore C at_265 (pc' := 267) rfl (ls' := #[.val (.int reg), .val (.long off), .second, .val (.ref lo), .val (.ref hi), .val (.ref aa), .val (.int ii), .val (.long (own_lo ix)), .second, .val (.long (own_hi ix)), .second, .val (.long sp), .second, .val (.long q), .second, .val (.int ((((own_lo ix) + q)).toInt32)), .unset]) rfl ?_
    refine r_aload C at_267 (pc' := 269) rfl rfl rfl ?_
    refine r_iload C at_269 (pc' := 271) rfl rfl ?_
    refine r_zaload C at_271 (pc' := 272) rfl A_aa (jn := ix) hix hlt (x := (own_w ix)) rfl ?_
    refine r_istore C at_272 (pc' := 274) rfl (ls' := #[.val (.int reg), .val (.long off), .second, .val (.ref lo), .val (.ref hi), .val (.ref aa), .val (.int ii), .val (.long (own_lo ix)), .second, .val (.long (own_hi ix)), .second, .val (.long sp), .second, .val (.long q), .second, .val (.int ((((own_lo ix) + q)).toInt32)), .val (.int (own_w ix))]) rfl ?_
    refine r_lload C at_274 (pc' := 276) rfl rfl ?_
    refine r_l2i C at_276 (pc' := 277) rfl (z := (((own_lo ix)).toInt32)) rfl ?_
    refine r_callS (y := (⟨"com/example/gate2/gate2/xml/XmlCursor", "isAllowed", "(I)Z"⟩ : MethodName)) (as := [(.int (((own_lo ix)).toInt32))]) (st := []) C (t24 hw) (t25 hw) (t26 hw) (t27 hw) (by decide) pd0 rfl rfl at_277 (pc' := 280) rfl rfl (W := 0) (Nat.le_of_eq rfl) (rm1 l Z a0 hw ((own_lo ix).toInt32) h36 n0) (by decide) (by decide) (by decide) (by decide) ?_
    rintro _ _ ⟨rfl, rfl⟩
    show Run _ _ _ _ _ _ _ _ _ _ _ _ _ _ _ h36 3 33 280 #[.val (.int reg), .val (.long off), .second, .val (.ref lo), .val (.ref hi), .val (.ref aa), .val (.int ii), .val (.long (own_lo ix)), .second, .val (.long (own_hi ix)), .second, .val (.long sp), .second, .val (.long q), .second, .val (.int ((((own_lo ix) + q)).toInt32)), .val (.int (own_w ix))] [(.int (if own_al ((own_lo ix).toInt32).toInt then 1 else 0))]
    refine r_iload C at_280 (pc' := 282) rfl rfl ?_
    refine r_icmpne C at_282 (pcT := 310) (pcF := 285) (by decide) rfl ?_ ?_
    · intro c282
      exact absurd (own_hit hlt (by rw [own_small] <;> omega) (by rw [own_small] <;> omega)) c282
    intro c282
    refine r_lload C at_285 (pc' := 287) rfl rfl ?_
    refine r_l2i C at_287 (pc' := 288) rfl (z := (((own_hi ix)).toInt32)) rfl ?_
    refine r_callS (y := (⟨"com/example/gate2/gate2/xml/XmlCursor", "isAllowed", "(I)Z"⟩ : MethodName)) (as := [(.int (((own_hi ix)).toInt32))]) (st := []) C (t24 hw) (t25 hw) (t26 hw) (t27 hw) (by decide) pd0 rfl rfl at_288 (pc' := 291) rfl rfl (W := 0) (Nat.le_of_eq rfl) (rm1 l Z a0 hw ((own_hi ix).toInt32) h36 n0) (by decide) (by decide) (by decide) (by decide) ?_
    rintro _ _ ⟨rfl, rfl⟩
    show Run _ _ _ _ _ _ _ _ _ _ _ _ _ _ _ h36 3 33 291 #[.val (.int reg), .val (.long off), .second, .val (.ref lo), .val (.ref hi), .val (.ref aa), .val (.int ii), .val (.long (own_lo ix)), .second, .val (.long (own_hi ix)), .second, .val (.long sp), .second, .val (.long q), .second, .val (.int ((((own_lo ix) + q)).toInt32)), .val (.int (own_w ix))] [(.int (if own_al ((own_hi ix).toInt32).toInt then 1 else 0))]
    refine r_iload C at_291 (pc' := 293) rfl rfl ?_
    refine r_icmpne C at_293 (pcT := 310) (pcF := 296) (by decide) rfl ?_ ?_
    · intro c293
      exact absurd (own_hit hlt (by rw [own_small] <;> omega) (by rw [own_small] <;> omega)) c293
    intro c293
    refine r_iload C at_296 (pc' := 298) rfl rfl ?_
    refine r_callS (y := (⟨"com/example/gate2/gate2/xml/XmlCursor", "isAllowed", "(I)Z"⟩ : MethodName)) (as := [(.int ((((own_lo ix) + q)).toInt32))]) (st := []) C (t24 hw) (t25 hw) (t26 hw) (t27 hw) (by decide) pd0 rfl rfl at_298 (pc' := 301) rfl rfl (W := 0) (Nat.le_of_eq rfl) (rm1 l Z a0 hw ((own_lo ix + q).toInt32) h36 n0) (by decide) (by decide) (by decide) (by decide) ?_
    rintro _ _ ⟨rfl, rfl⟩
    show Run _ _ _ _ _ _ _ _ _ _ _ _ _ _ _ h36 3 33 301 #[.val (.int reg), .val (.long off), .second, .val (.ref lo), .val (.ref hi), .val (.ref aa), .val (.int ii), .val (.long (own_lo ix)), .second, .val (.long (own_hi ix)), .second, .val (.long sp), .second, .val (.long q), .second, .val (.int ((((own_lo ix) + q)).toInt32)), .val (.int (own_w ix))] [(.int (if own_al ((own_lo ix + q).toInt32).toInt then 1 else 0))]
    refine r_iload C at_301 (pc' := 303) rfl rfl ?_
    refine r_icmpne C at_303 (pcT := 310) (pcF := 306) (by decide) rfl ?_ ?_
    · intro c303
      exact absurd (own_hit hlt (by rw [own_small] <;> omega) (by rw [own_small] <;> omega)) c303
    intro c303
    refine r_iconst C at_306 (pc' := 307) rfl (z := (1 : Int32)) rfl ?_
    refine r_goto C at_307 (pc' := 311) (by decide) ?_
    exact r_ireturnN (t := .boolean) (by simp) C at_311 rfl (by decide) (by decide)
  · intro J
    refine r_lload C at_245 (pc' := 247) rfl rfl ?_
    refine r_lconst C at_247 (pc' := 248) rfl (z := (0 : Int64)) rfl ?_
    refine r_lcmpge C at_248 (pc' := 249) rfl at_249 (pcT := 259) (pcF := 252) (by decide) rfl ?_ ?_
    · intro c248
      replace c248 : 0 ≤ mm.toInt := c248
      exact J _ ⟨by omega, by omega⟩
    · intro c248
      replace c248 : mm.toInt < 0 := c248
      refine r_lload C at_252 (pc' := 254) rfl rfl ?_
      refine r_lload C at_254 (pc' := 256) rfl rfl ?_
      refine r_ladd C at_256 (pc' := 257) rfl (z := (mm + sp)) rfl ?_
      refine r_lstore C at_257 (pc' := 259) rfl (ls' := #[.val (.int reg), .val (.long off), .second, .val (.ref lo), .val (.ref hi), .val (.ref aa), .val (.int ii), .val (.long (own_lo ix)), .second, .val (.long (own_hi ix)), .second, .val (.long sp), .second, .val (.long (mm + sp)), .second, .unset, .unset]) rfl ?_
      have hadd := c_ladd mm sp
      have hr := rng64 (mm + sp)
      exact J _ ⟨by omega, by omega⟩
set_option maxRecDepth 65536 in
set_option maxHeartbeats 40000000 in
theorem comes_1 {Post : Tables → Env → Array Value → State → Outcome → State → Prop} (hpost : ∀ tb e args s v u, (limb_1_1.after args s (.returned v) u = true ∧ limb_1_2.after args s (.returned v) u = true ∧ True) → FrameEnd s (.returned v) u (Jvm.fieldLocs frame_1_writes args s ++ Jvm.arrayLocs frame_1_arrays args s ++ Jvm.staticLocs frame_1_statics s) 16 192 → Post tb e args s (.returned v) u) :
    ArmFor flags0 classFile x code maxLocals ret World_1 tables_1 room_1 Calls_1 rest_1 Pre_1 Post := by
  intro l hfl _ _ p e ha hc hk s m args below hf hA hF happ hP
  obtain ⟨hcalls, hrest, hpre⟩ := hP
  obtain ⟨-, -, -, hnamed, -, -, -, hat⟩ := (Spec.applies_iff hf).mp happ
  obtain ⟨hg, hn⟩ := and_e (Cond.before_iff.mp (show (Jvm.Cond.and given_1 narrow_1).before args s = true from hpre))
  obtain ⟨g0, k0⟩ := and_e hg
  obtain ⟨w0, w1, rfl⟩ : ∃ w0 w1 : Value, args = #[w0, w1] := by
    have hs : args.size = 2 := by simpa [Cond.value, given_1] using g0
    obtain ⟨L⟩ := args
    match L, hs with
    | [w0, w1], _ => exact ⟨w0, w1, rfl⟩
  have hw := fun d (hd : d ∈ tables_1) => atoms_spec (ws := Jvm.Cond.code x code maxLocals ret :: tables_1) hat d (List.mem_cons_of_mem _ hd)
  obtain ⟨j0, k1⟩ := and_e k0
  obtain ⟨i0, e0⟩ := is_v j0
  obtain rfl : w0 = (.int i0) := Option.some.inj e0
  have j1 := k1
  obtain ⟨i1, e1⟩ := isL_v j1
  obtain rfl : w1 = (.long i1) := Option.some.inj e1
  obtain ⟨n, o, h1, h2, h3, _, L, rfl, ⟨rfl, N⟩, hq⟩ := rm0 l s _ hw i0 i1 s.heap s.heap.size (Nat.le_refl _) tables_1 p e ha hc hk s m _ below hf ((Spec.applies_iff_loose hf).mp happ).1 ⟨rfl, State.Warmed39.refl s, rfl⟩ trivial
  refine ⟨n, _, h1, h2, h3, hpost _ _ _ _ _ _ ⟨Cond.after_iff.mpr rfl, Cond.after_iff.mpr (eq_i res_at (Term.int_eval (1)) rfl), trivial⟩ ⟨hq.1, hq.2.1, (hq.2.2.sift fun y hy => Or.inr (N y hy)).mono (by decide) (by decide)⟩⟩
theorem main_1_1 : Claimed_1_1 := comes_1 fun _ _ _ _ _ _ h hF => ⟨h.1, hF⟩
theorem main_1_2 : Claimed_1_2 := comes_1 fun _ _ _ _ _ _ h hF => ⟨h.2.1, hF⟩
end Jvm.Pilot.@@N@@
namespace Jvm.Pilot.@@N@@
open Jvm Jvm.ClassFile Sem Op Lib Jvm.Free Jvm.Stand Jvm.Pilot.@@N@@.Jvm.D
/-! MADE BY PROGRAM (witnessworld.py) out of the Statement's table words and the real class files: 13 classes; the members and pool entries that the words name. The judged class is class 1, her method 1. -/
namespace start1
open Jvm.ClassFile
def u (s : String) : CpInfo := .utf8 (stringToUtf16 s)
/-- a pool by its gaps: so many unusable entries, then the entry; so many at the end -/
def gap : Nat → List CpInfo → List CpInfo
  | 0, r => r
  | n + 1, r => .unusable :: gap n r
def poolList (es : List (Nat × CpInfo)) (last : Nat) : List CpInfo := es.foldr (fun e r => gap e.1 (e.2 :: r)) (gap last [])
def pool (es : List (Nat × CpInfo)) (last : Nat) : Array CpInfo := ⟨poolList es last⟩
def fileOf (pool : Array CpInfo) (this : Nat) (attrs : Array Attribute := #[]) (ms : Array MethodInfo := #[]) (fl : Nat := 33) (sup : Nat := 0) (ifs : Array Nat := #[]) (fds : Array FieldInfo := #[]) : ClassFile where
  minorVersion := 0
  majorVersion := 65
  constantPool := pool
  accessFlags := fl
  thisClass := this
  superClass := sup
  interfaces := ifs
  fields := fds
  methods := ms
  attributes := attrs
def plain (name : String) (sup : Option ClassId) : Class where
  name := name
  kind := .ordinary
  loader := none
  accessFlags := 33
  super := sup
  interfaces := #[]
  cf := none
  fields := #[]
  methods := #[]
  instanceTypes := #[]
  staticTypes := #[]
  resolved := #[]
  callSites := []
  init := .initialized
  statics := none
  mirror := none

def pool0 : Array CpInfo := pool [(5, u "<init>"), (0, u "()V"), (1, .class_ 10), (1, u "java/lang/Object")] 113

def k0m0 : Method := { name := "<init>", desc := "()V", sig := { parameters := [], returnType := none }, accessFlags := 1, code := none }
/-- java/lang/Object -/
def k0 : Class := { plain "java/lang/Object" none with
  accessFlags := 33
  interfaces := #[]
  cf := some (fileOf pool0 8 #[] #[{ accessFlags := 1, nameIndex := 5, descriptorIndex := 6, attributes := #[] }] 33 0 #[] #[])
  fields := #[]
  methods := #[k0m0]
  instanceTypes := #[]
  staticTypes := #[]
  resolved := Array.replicate 124 none
  statics := none }

def pool1 : Array CpInfo := pool [(2, .class_ 4), (1, u "java/lang/Object"), (0, u "<init>"), (0, u "()V"), (2, .long 18446744071562067968), (1, .long 9), (1, .long 11), (1, .long 13), (1, .long 14), (1, .long 32), (1, .long 55296), (1, .long 57344), (1, .long 65534), (1, .long 65536), (1, .long 1114112), (1, .long 8), (1, .long 10), (1, .long 12), (1, .long 31), (1, .long 55295), (1, .long 57343), (1, .long 65533), (1, .long 65535), (1, .long 1114111), (1, .long 2147483647), (1, .integer 2147483647), (0, .methodref 53 54), (0, .class_ 55), (0, .nameAndType 56 57), (0, u "com/example/gate2/gate2/xml/XmlCursor"), (0, u "isAllowed"), (0, u "(I)Z"), (0, .class_ 59), (0, u "com/example/gate2/gate2/xml/XmlCursorIsAllowedPinLaw"), (2, u "law"), (0, u "(IJ)Z")] 7

def k1m0 : Method := { name := "<init>", desc := "()V", sig := { parameters := [], returnType := none }, accessFlags := 1, code := none }
def k1c1 : Code := { maxStack := 5, maxLocals := 17, code := code, exceptionTable := #[], attributes := #[] }
def k1m1 : Method := { name := "law", desc := "(IJ)Z", sig := { parameters := [.int, .long], returnType := some .boolean }, accessFlags := 9, code := some k1c1 }
/-- com/example/gate2/gate2/xml/XmlCursorIsAllowedPinLaw -/
def k1 : Class := { plain "com/example/gate2/gate2/xml/XmlCursorIsAllowedPinLaw" (some 0) with
  accessFlags := 49
  interfaces := #[]
  cf := some (fileOf pool1 58 #[] #[{ accessFlags := 1, nameIndex := 5, descriptorIndex := 6, attributes := #[] }, { accessFlags := 9, nameIndex := 62, descriptorIndex := 63, attributes := #[] }] 49 2 #[] #[])
  fields := #[]
  methods := #[k1m0, k1m1]
  instanceTypes := #[]
  staticTypes := #[]
  resolved := Array.replicate 71 none
  statics := none }

def pool2 : Array CpInfo := pool [(2, .class_ 4), (1, u "java/lang/Object"), (3, .class_ 10), (1, u "com/example/gate2/gate2/xml/XmlCursor"), (0, u "countedLine"), (0, u "I"), (5, u "entities"), (0, u "Ljava/util/Set;"), (2, u "text"), (0, u "[C"), (2, u "illegal"), (0, u "Lcom/example/gate2/gate2/BeansException;"), (2, u "source"), (0, u "Ljava/lang/String;"), (2, u "pos"), (54, u "(I)Z"), (65, u "isAllowed"), (105, .integer 55295), (3, .integer 65533), (0, .integer 65536), (1, .integer 57344), (0, .integer 1114111), (8, u "endSeen"), (0, u "Z"), (2, u "countedTo")] 86

def k2c0 : Code := { maxStack := 2, maxLocals := 1, code := prog_57_method_26_code, exceptionTable := #[], attributes := #[] }
def k2m0 : Method := { name := "isAllowed", desc := "(I)Z", sig := { parameters := [.int], returnType := some .boolean }, accessFlags := 8, code := some k2c0 }
/-- com/example/gate2/gate2/xml/XmlCursor -/
def k2 : Class := { plain "com/example/gate2/gate2/xml/XmlCursor" (some 0) with
  accessFlags := 48
  interfaces := #[]
  cf := some (fileOf pool2 8 #[] #[{ accessFlags := 8, nameIndex := 155, descriptorIndex := 89, attributes := #[] }] 48 2 #[] #[{ accessFlags := 18, nameIndex := 22, descriptorIndex := 23, attributes := #[] }, { accessFlags := 18, nameIndex := 26, descriptorIndex := 27, attributes := #[] }, { accessFlags := 2, nameIndex := 278, descriptorIndex := 279, attributes := #[] }, { accessFlags := 18, nameIndex := 30, descriptorIndex := 31, attributes := #[] }, { accessFlags := 2, nameIndex := 34, descriptorIndex := 12, attributes := #[] }, { accessFlags := 2, nameIndex := 282, descriptorIndex := 12, attributes := #[] }, { accessFlags := 2, nameIndex := 11, descriptorIndex := 12, attributes := #[] }, { accessFlags := 18, nameIndex := 18, descriptorIndex := 19, attributes := #[] }])
  fields := #[{ name := "text", type := (.array .char), accessFlags := 18, slot := 0, constantValue := 0 }, { name := "illegal", type := (.object "com/example/gate2/gate2/BeansException"), accessFlags := 18, slot := 1, constantValue := 0 }, { name := "endSeen", type := .boolean, accessFlags := 2, slot := 2, constantValue := 0 }, { name := "source", type := (.object "java/lang/String"), accessFlags := 18, slot := 3, constantValue := 0 }, { name := "pos", type := .int, accessFlags := 2, slot := 4, constantValue := 0 }, { name := "countedTo", type := .int, accessFlags := 2, slot := 5, constantValue := 0 }, { name := "countedLine", type := .int, accessFlags := 2, slot := 6, constantValue := 0 }, { name := "entities", type := (.object "java/util/Set"), accessFlags := 18, slot := 7, constantValue := 0 }]
  methods := #[k2m0]
  instanceTypes := #[(.array .char), (.object "com/example/gate2/gate2/BeansException"), .boolean, (.object "java/lang/String"), .int, .int, .int, (.object "java/util/Set")]
  staticTypes := #[]
  resolved := Array.replicate 369 none
  statics := none }

def pool3 : Array CpInfo := pool [(1, u "java/lang/Cloneable"), (0, .class_ 1), (0, u "java/lang/Object"), (0, .class_ 3)] 3

/-- java/lang/Cloneable -/
def k3 : Class := { plain "java/lang/Cloneable" (some 0) with
  accessFlags := 1537
  interfaces := #[]
  cf := some (fileOf pool3 2 #[] #[] 1537 4 #[] #[])
  fields := #[]
  methods := #[]
  instanceTypes := #[]
  staticTypes := #[]
  resolved := Array.replicate 8 none
  statics := none }

def pool4 : Array CpInfo := pool [(1, u "java/io/Serializable"), (0, .class_ 1), (0, u "java/lang/Object"), (0, .class_ 3)] 3

/-- java/io/Serializable -/
def k4 : Class := { plain "java/io/Serializable" (some 0) with
  accessFlags := 1537
  interfaces := #[]
  cf := some (fileOf pool4 2 #[] #[] 1537 4 #[] #[])
  fields := #[]
  methods := #[]
  instanceTypes := #[]
  staticTypes := #[]
  resolved := Array.replicate 8 none
  statics := none }

/-- the primitive boolean -/
def k5 : Class := { plain "boolean" none with kind := .primitive 'Z', accessFlags := 0x411 }
/-- [Z -/
def k6 : Class := { plain "[Z" (some 0) with kind := .array 5 .boolean, interfaces := #[3, 4], accessFlags := 1041 }

/-- the primitive byte -/
def k7 : Class := { plain "byte" none with kind := .primitive 'B', accessFlags := 0x411 }
/-- [B -/
def k8 : Class := { plain "[B" (some 0) with kind := .array 7 .byte, interfaces := #[3, 4], accessFlags := 1041 }

/-- the primitive int -/
def k9 : Class := { plain "int" none with kind := .primitive 'I', accessFlags := 0x411 }
/-- [I -/
def k10 : Class := { plain "[I" (some 0) with kind := .array 9 .int, interfaces := #[3, 4], accessFlags := 1041 }

/-- the primitive long -/
def k11 : Class := { plain "long" none with kind := .primitive 'J', accessFlags := 0x411 }
/-- [J -/
def k12 : Class := { plain "[J" (some 0) with kind := .array 11 .long, interfaces := #[3, 4], accessFlags := 1041 }

def heap : Heap := #[]
def classes : Array Class := #[k0, k1, k2, k3, k4, k5, k6, k7, k8, k9, k10, k11, k12]
def interned : List (Array UInt16 × Addr) := []
def slotsUsed : Nat := 0
def theMethod : MethodId := ⟨1, 1⟩
def args0 : Array Value := #[.int 5, .long 3]
def aboutOver (below : List Frame) : State where
  vm := { classes := classes, interned := interned.toArray }
  heap := heap
  slotsUsed := slotsUsed
  threads := #[{ frames := .invoking theMethod args0 :: below }]
def below0 : List Frame := [.native { method := ⟨0, 0⟩, args := #[] }]
def about1 : State := aboutOver below0
def p0 : Program := .bare "" "" ""
def e0 : Env := launch0.env 0 0 0
theorem w_frames : about1.frames = Frame.invoking theMethod args0 :: below0 := rfl
set_option maxRecDepth 65536 in
theorem w_args : argsFit about1.vm theMethod args0 = true := by decide +kernel
set_option maxRecDepth 65536 in
theorem w_heap : heapFits about1 = true := by decide +kernel
set_option maxRecDepth 65536 in
theorem w_runnable : about1.curStatus? = some .runnable := by decide +kernel
set_option maxRecDepth 65536 in
theorem w_alone : about1.alone = true := by decide +kernel
set_option maxRecDepth 65536 in
theorem w_named : about1.methodNamed? x = some theMethod := by decide +kernel
set_option maxRecDepth 65536 in
theorem w_hears : about1.hears theMethod below0 = true := by decide +kernel
set_option maxRecDepth 65536 in
theorem w_ripe : about1.ripe theMethod args0 below0 = true := by decide +kernel
theorem w_running : about1.status = .running := rfl
set_option maxRecDepth 65536 in
theorem w_room : about1.hasRoom e0.platform room_1 = true :=
  launch0.hasRoom_least _ room_1 (by decide +kernel) (by decide +kernel) (by decide +kernel) (by decide +kernel) (by decide +kernel) (by decide +kernel)
theorem allAtoms_all (ts : List Jvm.Cond) (a : Array Jvm.Value) (st : Jvm.State) : (allAtoms ts).before a st = ts.all (fun c => c.before a st) := by
  induction ts with
  | nil => rfl
  | cons c t ih =>
    show (Jvm.Cond.and c (allAtoms t)).before a st = _
    rw [Jvm.Cond.before_and, ih, List.all_cons]
def words1 : List Jvm.Cond := Jvm.Cond.code x code maxLocals ret :: tables_1
/-- a 'code' word, met by the world's own term for the bytes: nothing is compared byte by byte -/
theorem code_word {y : MethodName} {bytes : ByteArray} {mx : Nat} {rt : Option FieldType} {a : Array Value} {s : State} {m : MethodId} {meth : Method} {c : Code} (h1 : s.methodNamed? y = some m) (h2 : s.vm.method? m = some meth) (h3 : meth.code = some c) (h4 : c.code = bytes)
    (h5 : (c.maxLocals == mx && c.exceptionTable.isEmpty && decide (c.maxStack ≤ mostOperands) && decide (meth.sig.returnType = rt) && !meth.locks && decide (parseMethodDescriptor y.desc = some meth.sig)) = true) : (Jvm.Cond.code y bytes mx rt).before a s = true := by
  simp only [Bool.and_eq_true, beq_iff_eq, Bool.not_eq_true', decide_eq_true_eq] at h5
  obtain ⟨⟨⟨⟨⟨g1, g2⟩, g3⟩, g4⟩, g5⟩, g6⟩ := h5
  simp [Cond.before, Cond.holds, Cond.value, h1, h2, h3, h4, g1, g2, g3, g4, g5, g6]
def isCode : Jvm.Cond → Bool
  | .code _ _ _ _ => true
  | _ => false
theorem all_split {L : List Jvm.Cond} {P : Jvm.Cond → Bool} (h1 : L.all (fun c => isCode c || P c) = true) (h2 : ∀ c ∈ L.filter isCode, P c = true) : L.all P = true := by
  refine List.all_eq_true.mpr fun c hc => ?_
  have h := List.all_eq_true.mp h1 c hc
  rcases Bool.eq_false_or_eq_true (isCode c) with hi | hi
  · exact h2 c (List.mem_filter.mpr ⟨hc, hi⟩)
  · simpa [hi] using h
set_option maxRecDepth 65536 in
theorem w_c0 : (Jvm.Cond.code x code maxLocals ret).before args0 about1 = true := code_word (m := ⟨1, 1⟩) (meth := k1m1) (c := k1c1) (by decide +kernel) rfl rfl rfl (by decide +kernel)
set_option maxRecDepth 65536 in
theorem w_c1 : (Jvm.Cond.code ({ cls := "com/example/gate2/gate2/xml/XmlCursor", name := "isAllowed", desc := "(I)Z" } : Jvm.MethodName) prog_57_method_26_code (1 : Nat) (Option.some Jvm.ClassFile.FieldType.boolean)).before args0 about1 = true := code_word (m := ⟨2, 0⟩) (meth := k2m0) (c := k2c0) (by decide +kernel) rfl rfl rfl (by decide +kernel)
def codes1 : List Jvm.Cond := [Jvm.Cond.code x code maxLocals ret, Jvm.Cond.code ({ cls := "com/example/gate2/gate2/xml/XmlCursor", name := "isAllowed", desc := "(I)Z" } : Jvm.MethodName) prog_57_method_26_code (1 : Nat) (Option.some Jvm.ClassFile.FieldType.boolean)]
set_option maxRecDepth 65536 in
theorem codes_eq : words1.filter isCode = codes1 := rfl
theorem w_codes : ∀ c ∈ words1.filter isCode, c.before args0 about1 = true := by
  rw [codes_eq]
  intro c hc
  simp only [codes1, List.mem_cons, List.not_mem_nil, or_false] at hc
  rcases hc with rfl | rfl
  · exact w_c0
  · exact w_c1
set_option maxRecDepth 65536 in
theorem w_t1 : (words1.take 24).all (fun c => isCode c || c.before args0 about1) = true := by decide +kernel
set_option maxRecDepth 65536 in
theorem w_t2 : (words1.drop 24).all (fun c => isCode c || c.before args0 about1) = true := by decide +kernel
theorem w_tables : (allAtoms (Jvm.Cond.code x code maxLocals ret :: tables_1)).before args0 about1 = true := by
  rw [allAtoms_all]
  show words1.all (fun c => c.before args0 about1) = true
  refine all_split ?_ w_codes
  rw [← List.take_append_drop 24 words1, List.all_append, w_t1, w_t2]
  rfl
set_option maxRecDepth 65536 in
theorem w_case : (Jvm.Cond.and given_1 narrow_1).before args0 about1 = true := by decide +kernel
theorem w_applies : (headSpec (Jvm.Cond.code x code maxLocals ret :: tables_1) room_1).applies x e0.platform about1 = true :=
  (Spec.applies_iff w_frames).mpr ⟨w_running, w_runnable, w_alone, w_named, w_hears, w_ripe, w_room, w_tables⟩
theorem atStart : AtStart classFile x code maxLocals ret World_1 tables_1 room_1 Calls_1 rest_1 Pre_1 launch0 p0 e0 about1 theMethod args0 below0 :=
  ⟨lists_1, trivial, launch0.admits_env _ _ _, launch0.least_env, fairChoices_fair.cas, fairChoices_fair.clock, w_frames, w_args, w_heap, w_applies, trivial, trivial, w_case⟩
end start1
theorem witness_1 : WitnessClaimed_1 := ⟨start1.p0, start1.e0, start1.about1, start1.theMethod, start1.args0, start1.below0, start1.atStart⟩
end Jvm.Pilot.@@N@@
