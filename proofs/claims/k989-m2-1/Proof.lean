import JvmDerived
import JvmDerived.Pilot.@@N@@Statement
import JvmDerived.Pilot.@@N@@Code
set_option linter.unusedVariables false
set_option linter.unusedSimpArgs false
namespace Jvm.Own
open Sem ClassFile Op Lib Jvm.Stand Jvm.Free Jvm.LawKit Jvm.RoadKit
section Own
variable {p : Program} {l : Launch} {e : Env} {R : Room} {s : State} {m : MethodId} {args : Array Value} {below : List Frame} {meth : Method} {c : Code} {T : State} {locs : List Loc} {cells slots : Nat} {Z : State} {a0 : Array Value} {h : Heap} {G : Outcome → State → Prop} {pc pc' : Nat} {Ls : Array Slot} {st rest : List Value} {own : String} {index : Nat}
/-- from this frame the body ends, and G holds of its end -/
def Go (p : Program) (e : Env) (below : List Frame) (T : State) (g : JFrame) (G : Outcome → State → Prop) : Prop :=
  ∃ (s₂ : State) (o : Outcome), Steps p.tables e below (T.setTop g) s₂ ∧ s₂.status = .running ∧ Ended s₂ below o ∧ G o s₂
theorem Go.via {T' : State} {g g' : JFrame} (k : Go p e below T' g' G) (f : ∀ t, Steps p.tables e below (T'.setTop g') t → Steps p.tables e below (T.setTop g) t) : Go p e below T g G := by
  obtain ⟨s₂, o, h1, h2⟩ := k; exact ⟨s₂, o, f _ h1, h2⟩
abbrev RetG (s : State) (Q : Option Value → Heap → List Loc → Prop) (C S : Nat) (o : Outcome) (t : State) : Prop := ∃ v L, o = .returned v ∧ Q v t.heap L ∧ FrameEnd s o t L C S
abbrev Met (l : Launch) (y : MethodName) (bytes : ByteArray) (maxL : Nat) (ret : Option FieldType) (ws : List Jvm.Cond) (rm : Room) (Z : State) (as' : Array Value) (h0 : Heap) (Q : Option Value → Heap → List Loc → Prop) : Prop :=
  MetFree l y (head1 (Jvm.Cond.code y bytes maxL ret :: ws) rm) (fun a U => a = as' ∧ Z.Warmed39 U.vm ∧ U.heap = h0) (fun _ _ _ _ _ => True) (fun _ U o U' => RetG U Q rm.cells rm.slots o U')
theorem Met.of {y : MethodName} {bytes : ByteArray} {maxL : Nat} {ret : Option FieldType} {ws : List Jvm.Cond} {rm : Room} {as' : Array Value} {h0 : Heap} {Q : Option Value → Heap → List Loc → Prop} (hpn : plainFor y = true) (hef : ∀ m, entryFrame m as' maxL = mkF m 0 Ls [])
    (body : ∀ (p : Program) (e : Env) (s : State) (m : MethodId) (below : List Frame) (meth : Method) (c : Code) (T : State), p.tables.exec = Jvm.exec → c.code = bytes → c.maxLocals = maxL → s.vm.findClass y.cls = some m.cls → meth.name = y.name → meth.sig.returnType = ret → meth.locks = false → Z.Warmed39 s.vm → Stand p l e rm s m as' below meth c T [] 0 0 → T.heap = h0 →
      Go p e below T (mkF m 0 Ls []) (RetG s Q rm.cells rm.slots)) : Met l y bytes maxL ret ws rm Z as' h0 Q := by
  refine MetFree.of_bodySF hpn hisR ?_
  intro p e s m args below meth c s₁ Bd hml0 hP hK
  obtain ⟨rfl, hZ, hh⟩ := hP
  obtain ⟨s₂, o, h1, h2, h3, h4⟩ := body p e s m below meth c s₁ Bd.exec Bd.bytes hml0 (findClass_of_methodNamed Bd.named) (name_of_methodNamed Bd.named Bd.method).1 Bd.returns (BodyLoose.notSynchronized Bd) hZ (Stand.of_body Bd) (by rw [← hh, Bd.state]; rfl)
  exact ⟨s₂, o, castTop (hef m) h1, h2, h3, h4⟩
/-! single steps -/
theorem Go.aload_n (X : Stand p l e R s m args below meth c T locs cells slots) (hx : p.tables.exec = Jvm.exec) {k : Fin 4} {v : Value} (hd : decode c.code pc = .ok (.aload_n k, 1)) (hl : Ls[k.val]? = some (.val v)) (hv : v.isRef = true) (n : Go p e below T (mkF m (pc + 1) Ls (v :: st)) G) : Go p e below T (mkF m pc Ls st) G :=
  n.via fun t q => XS.aloadN X.here hx rfl hd hl hv q
theorem Go.aload (X : Stand p l e R s m args below meth c T locs cells slots) (hx : p.tables.exec = Jvm.exec) {k : Nat} {v : Value} (hd : decode c.code pc = .ok (.aload k, 2)) (hl : Ls[k]? = some (.val v)) (hv : v.isRef = true) (n : Go p e below T (mkF m (pc + 2) Ls (v :: st)) G) : Go p e below T (mkF m pc Ls st) G :=
  n.via fun t q => XS.aload X.here hx rfl hd hl hv q
theorem Go.iload_n (X : Stand p l e R s m args below meth c T locs cells slots) (hx : p.tables.exec = Jvm.exec) {k : Fin 4} {v : Int32} (hd : decode c.code pc = .ok (.iload_n k, 1)) (hl : Ls[k.val]? = some (.val (.int v))) (n : Go p e below T (mkF m (pc + 1) Ls (.int v :: st)) G) : Go p e below T (mkF m pc Ls st) G :=
  n.via fun t q => XS.iloadN X.here hx rfl hd hl q
theorem Go.iload (X : Stand p l e R s m args below meth c T locs cells slots) (hx : p.tables.exec = Jvm.exec) {k : Nat} {v : Int32} (hd : decode c.code pc = .ok (.iload k, 2)) (hl : Ls[k]? = some (.val (.int v))) (n : Go p e below T (mkF m (pc + 2) Ls (.int v :: st)) G) : Go p e below T (mkF m pc Ls st) G :=
  n.via fun t q => XS.iload X.here hx rfl hd hl q
theorem Go.iconst (X : Stand p l e R s m args below meth c T locs cells slots) (hx : p.tables.exec = Jvm.exec) {i : Int} (hd : decode c.code pc = .ok (.iconst i, 1)) (n : Go p e below T (mkF m (pc + 1) Ls (.int (Int32.ofInt i) :: st)) G) : Go p e below T (mkF m pc Ls st) G :=
  n.via fun t q => XS.iconst X.here hx rfl hd q
theorem Go.bipush (X : Stand p l e R s m args below meth c T locs cells slots) (hx : p.tables.exec = Jvm.exec) {i : Int} (hd : decode c.code pc = .ok (.bipush i, 2)) (n : Go p e below T (mkF m (pc + 2) Ls (.int (Int8.ofInt i).toInt32 :: st)) G) : Go p e below T (mkF m pc Ls st) G :=
  n.via fun t q => XS.bipush X.here hx rfl hd q
theorem Go.sipush (X : Stand p l e R s m args below meth c T locs cells slots) (hx : p.tables.exec = Jvm.exec) {i : Int} (hd : decode c.code pc = .ok (.sipush i, 3)) (n : Go p e below T (mkF m (pc + 3) Ls (.int (Int16.ofInt i).toInt32 :: st)) G) : Go p e below T (mkF m pc Ls st) G :=
  n.via fun t q => XS.sipush X.here hx rfl hd q
theorem Go.aconst_null (X : Stand p l e R s m args below meth c T locs cells slots) (hx : p.tables.exec = Jvm.exec) (hd : decode c.code pc = .ok (.aconst_null, 1)) (n : Go p e below T (mkF m (pc + 1) Ls (.null :: st)) G) : Go p e below T (mkF m pc Ls st) G :=
  n.via fun t q => XS.aconstNull X.here hx rfl hd q
theorem Go.ldcI (X : Stand p l e R s m args below meth c T locs cells slots) (hx : p.tables.exec = Jvm.exec) (hZ : Z.Warmed39 s.vm) (hown : s.vm.findClass own = some m.cls) {v : Int32} (w : (Cond.constant own index v).before a0 Z = true) (hd : decode c.code pc = .ok (.ldc index, 2)) (n : Go p e below T (mkF m (pc + 2) Ls (.int v :: st)) G) : Go p e below T (mkF m pc Ls st) G :=
  n.via fun t q => X.ldcInt hx hown (mvT hZ w) (g := mkF m pc Ls st) rfl hd t q
section Bin
variable {x y : Int32}
theorem Go.iadd (X : Stand p l e R s m args below meth c T locs cells slots) (hx : p.tables.exec = Jvm.exec) (hd : decode c.code pc = .ok (.iadd, 1)) (n : Go p e below T (mkF m (pc + 1) Ls (.int (x + y) :: st)) G) : Go p e below T (mkF m pc Ls (.int y :: .int x :: st)) G :=
  n.via fun t q => XS.iadd X.here hx rfl hd rfl q
theorem Go.isub (X : Stand p l e R s m args below meth c T locs cells slots) (hx : p.tables.exec = Jvm.exec) (hd : decode c.code pc = .ok (.isub, 1)) (n : Go p e below T (mkF m (pc + 1) Ls (.int (x - y) :: st)) G) : Go p e below T (mkF m pc Ls (.int y :: .int x :: st)) G :=
  n.via fun t q => XS.isub X.here hx rfl hd rfl q
theorem Go.imul (X : Stand p l e R s m args below meth c T locs cells slots) (hx : p.tables.exec = Jvm.exec) (hd : decode c.code pc = .ok (.imul, 1)) (n : Go p e below T (mkF m (pc + 1) Ls (.int (x * y) :: st)) G) : Go p e below T (mkF m pc Ls (.int y :: .int x :: st)) G :=
  n.via fun t q => XS.imul X.here hx rfl hd rfl q
theorem Go.iand (X : Stand p l e R s m args below meth c T locs cells slots) (hx : p.tables.exec = Jvm.exec) (hd : decode c.code pc = .ok (.iand, 1)) (n : Go p e below T (mkF m (pc + 1) Ls (.int (x &&& y) :: st)) G) : Go p e below T (mkF m pc Ls (.int y :: .int x :: st)) G :=
  n.via fun t q => XS.iand X.here hx rfl hd rfl q
theorem Go.ior (X : Stand p l e R s m args below meth c T locs cells slots) (hx : p.tables.exec = Jvm.exec) (hd : decode c.code pc = .ok (.ior, 1)) (n : Go p e below T (mkF m (pc + 1) Ls (.int (x ||| y) :: st)) G) : Go p e below T (mkF m pc Ls (.int y :: .int x :: st)) G :=
  n.via fun t q => XT.ior X.here hx rfl hd rfl q
theorem Go.ixor (X : Stand p l e R s m args below meth c T locs cells slots) (hx : p.tables.exec = Jvm.exec) (hd : decode c.code pc = .ok (.ixor, 1)) (n : Go p e below T (mkF m (pc + 1) Ls (.int (x ^^^ y) :: st)) G) : Go p e below T (mkF m pc Ls (.int y :: .int x :: st)) G :=
  n.via fun t q => XT.ixor X.here hx rfl hd rfl q
theorem Go.ishl (X : Stand p l e R s m args below meth c T locs cells slots) (hx : p.tables.exec = Jvm.exec) (hd : decode c.code pc = .ok (.ishl, 1)) (n : Go p e below T (mkF m (pc + 1) Ls (.int (x <<< (y &&& 31)) :: st)) G) : Go p e below T (mkF m pc Ls (.int y :: .int x :: st)) G :=
  n.via fun t q => XT.ishl X.here hx rfl hd rfl q
theorem Go.ishr (X : Stand p l e R s m args below meth c T locs cells slots) (hx : p.tables.exec = Jvm.exec) (hd : decode c.code pc = .ok (.ishr, 1)) (n : Go p e below T (mkF m (pc + 1) Ls (.int (x >>> (y &&& 31)) :: st)) G) : Go p e below T (mkF m pc Ls (.int y :: .int x :: st)) G :=
  n.via fun t q => XT.ishr X.here hx rfl hd rfl q
theorem Go.iushr (X : Stand p l e R s m args below meth c T locs cells slots) (hx : p.tables.exec = Jvm.exec) (hd : decode c.code pc = .ok (.iushr, 1)) (n : Go p e below T (mkF m (pc + 1) Ls (.int (XT.ushr x y) :: st)) G) : Go p e below T (mkF m pc Ls (.int y :: .int x :: st)) G :=
  n.via fun t q => XT.iushr X.here hx rfl hd rfl q
theorem Go.idiv (X : Stand p l e R s m args below meth c T locs cells slots) (hx : p.tables.exec = Jvm.exec) (hd : decode c.code pc = .ok (.idiv, 1)) (hy : y ≠ 0) (n : Go p e below T (mkF m (pc + 1) Ls (.int (x / y) :: st)) G) : Go p e below T (mkF m pc Ls (.int y :: .int x :: st)) G :=
  n.via fun t q => XS.idiv X.here hx rfl hd rfl hy q
theorem Go.irem (X : Stand p l e R s m args below meth c T locs cells slots) (hx : p.tables.exec = Jvm.exec) (hd : decode c.code pc = .ok (.irem, 1)) (hy : y ≠ 0) (n : Go p e below T (mkF m (pc + 1) Ls (.int (x % y) :: st)) G) : Go p e below T (mkF m pc Ls (.int y :: .int x :: st)) G :=
  n.via fun t q => iremM X hx rfl hd rfl hy q
theorem Go.i2c (X : Stand p l e R s m args below meth c T locs cells slots) (hx : p.tables.exec = Jvm.exec) (hd : decode c.code pc = .ok (.i2c, 1)) (n : Go p e below T (mkF m (pc + 1) Ls (.int (nar .char x) :: st)) G) : Go p e below T (mkF m pc Ls (.int x :: st)) G :=
  n.via fun t q => XT.i2c X.here hx rfl hd rfl q
theorem Go.i2b (X : Stand p l e R s m args below meth c T locs cells slots) (hx : p.tables.exec = Jvm.exec) (hd : decode c.code pc = .ok (.i2b, 1)) (n : Go p e below T (mkF m (pc + 1) Ls (.int (nar .byte x) :: st)) G) : Go p e below T (mkF m pc Ls (.int x :: st)) G :=
  n.via fun t q => XT.i2b X.here hx rfl hd rfl q
theorem Go.iinc (X : Stand p l e R s m args below meth c T locs cells slots) (hx : p.tables.exec = Jvm.exec) {k : Nat} {cst : Int} {L' : Array Slot} (hd : decode c.code pc = .ok (.iinc k cst, 3)) (hl : Ls[k]? = some (.val (.int x))) (hl' : storeLocals Ls k (.int (x + Int32.ofInt cst)) = some L') (n : Go p e below T (mkF m (pc + 3) L' st) G) : Go p e below T (mkF m pc Ls st) G :=
  n.via fun t q => XS.iinc X.here hx rfl hd hl hl' q
theorem Go.istore_n (X : Stand p l e R s m args below meth c T locs cells slots) (hx : p.tables.exec = Jvm.exec) {k : Fin 4} {L' : Array Slot} (hd : decode c.code pc = .ok (.istore_n k, 1)) (hl : storeLocals Ls k.val (.int x) = some L') (n : Go p e below T (mkF m (pc + 1) L' st) G) : Go p e below T (mkF m pc Ls (.int x :: st)) G :=
  n.via fun t q => XS.istoreN X.here hx rfl hd rfl hl q
theorem Go.istore (X : Stand p l e R s m args below meth c T locs cells slots) (hx : p.tables.exec = Jvm.exec) {k : Nat} {L' : Array Slot} (hd : decode c.code pc = .ok (.istore k, 2)) (hl : storeLocals Ls k (.int x) = some L') (n : Go p e below T (mkF m (pc + 2) L' st) G) : Go p e below T (mkF m pc Ls (.int x :: st)) G :=
  n.via fun t q => XS.istore X.here hx rfl hd rfl hl q
end Bin
section Ref
variable {v w : Value}
theorem Go.astore_n (X : Stand p l e R s m args below meth c T locs cells slots) (hx : p.tables.exec = Jvm.exec) {k : Fin 4} {L' : Array Slot} (hd : decode c.code pc = .ok (.astore_n k, 1)) (hv : v.isRef = true) (hl : storeLocals Ls k.val v = some L') (n : Go p e below T (mkF m (pc + 1) L' st) G) : Go p e below T (mkF m pc Ls (v :: st)) G :=
  n.via fun t q => XS.astoreN X.here hx rfl hd rfl hv hl q
theorem Go.astore (X : Stand p l e R s m args below meth c T locs cells slots) (hx : p.tables.exec = Jvm.exec) {k : Nat} {L' : Array Slot} (hd : decode c.code pc = .ok (.astore k, 2)) (hv : v.isRef = true) (hl : storeLocals Ls k v = some L') (n : Go p e below T (mkF m (pc + 2) L' st) G) : Go p e below T (mkF m pc Ls (v :: st)) G :=
  n.via fun t q => XS.astore X.here hx rfl hd rfl hv hl q
theorem Go.dup (X : Stand p l e R s m args below meth c T locs cells slots) (hx : p.tables.exec = Jvm.exec) (hd : decode c.code pc = .ok (.dup, 1)) (hc : v.category = 1) (n : Go p e below T (mkF m (pc + 1) Ls (v :: v :: st)) G) : Go p e below T (mkF m pc Ls (v :: st)) G :=
  n.via fun t q => XS.dup X.here hx rfl hd rfl hc q
theorem Go.pop (X : Stand p l e R s m args below meth c T locs cells slots) (hx : p.tables.exec = Jvm.exec) (hd : decode c.code pc = .ok (.pop, 1)) (hc : v.category = 1) (n : Go p e below T (mkF m (pc + 1) Ls st) G) : Go p e below T (mkF m pc Ls (v :: st)) G :=
  n.via fun t q => XT.pop X.here hx rfl hd rfl hc q
theorem Go.goto (X : Stand p l e R s m args below meth c T locs cells slots) (hx : p.tables.exec = Jvm.exec) {o : Int} (hd : decode c.code pc = .ok (.goto o, 3)) (hp : 0 ≤ (pc : Int) + o ∧ ((pc : Int) + o).toNat = pc') (n : Go p e below T (mkF m pc' Ls st) G) : Go p e below T (mkF m pc Ls st) G :=
  n.via fun t q => XS.goto X.here hx rfl (pc0 := pc) rfl hd hp.1 hp.2 q
/-! forks: P the condition -/
theorem Go.icmp (X : Stand p l e R s m args below meth c T locs cells slots) (hx : p.tables.exec = Jvm.exec) {cd : ClassFile.Cond} {o : Int} {x y : Int32} {P : Prop} [Decidable P] (hd : decode c.code pc = .ok (.if_icmp cd o, 3)) (hp : 0 ≤ (pc : Int) + o ∧ ((pc : Int) + o).toNat = pc') (hc : if_icmp.holds cd x y = decide P)
    (n1 : P → Go p e below T (mkF m pc' Ls st) G) (n2 : ¬ P → Go p e below T (mkF m (pc + 3) Ls st) G) : Go p e below T (mkF m pc Ls (.int y :: .int x :: st)) G := by
  by_cases q : P
  · exact (n1 q).via fun t k => XS.icmpYes X.here hx rfl (pc0 := pc) rfl hd rfl (by rw [hc]; exact decide_eq_true q) hp.1 hp.2 k
  · exact (n2 q).via fun t k => XS.icmpNo X.here hx rfl hd rfl (by rw [hc]; exact decide_eq_false q) k
theorem Go.ifc (X : Stand p l e R s m args below meth c T locs cells slots) (hx : p.tables.exec = Jvm.exec) {cd : ClassFile.Cond} {o : Int} {x : Int32} {P : Prop} [Decidable P] (hd : decode c.code pc = .ok (.ifCond cd o, 3)) (hp : 0 ≤ (pc : Int) + o ∧ ((pc : Int) + o).toNat = pc') (hc : ifCond.holds cd x = decide P)
    (n1 : P → Go p e below T (mkF m pc' Ls st) G) (n2 : ¬ P → Go p e below T (mkF m (pc + 3) Ls st) G) : Go p e below T (mkF m pc Ls (.int x :: st)) G := by
  by_cases q : P
  · exact (n1 q).via fun t k => XS.ifYes X.here hx rfl (pc0 := pc) rfl hd rfl (by rw [hc]; exact decide_eq_true q) hp.1 hp.2 k
  · exact (n2 q).via fun t k => XS.ifNo X.here hx rfl hd rfl (by rw [hc]; exact decide_eq_false q) k
theorem Go.acmp (X : Stand p l e R s m args below meth c T locs cells slots) (hx : p.tables.exec = Jvm.exec) {cd : ClassFile.ACond} {o : Int} {P : Prop} [Decidable P] (hd : decode c.code pc = .ok (.if_acmp cd o, 3)) (hp : 0 ≤ (pc : Int) + o ∧ ((pc : Int) + o).toNat = pc') (hv : v.isRef = true) (hw : w.isRef = true) (hc : XT.acmp cd v w = decide P)
    (n1 : P → Go p e below T (mkF m pc' Ls st) G) (n2 : ¬ P → Go p e below T (mkF m (pc + 3) Ls st) G) : Go p e below T (mkF m pc Ls (w :: v :: st)) G := by
  by_cases q : P
  · exact (n1 q).via fun t k => XT.acmpYes X.here hx rfl (pc0 := pc) rfl hd rfl hv hw (by rw [hc]; exact decide_eq_true q) hp.1 hp.2 k
  · exact (n2 q).via fun t k => XT.acmpNo X.here hx rfl hd rfl hv hw (by rw [hc]; exact decide_eq_false q) k
end Ref
theorem ic_eq (x y : Int32) : if_icmp.holds .eq x y = decide (x = y) := by simp [if_icmp.holds]; rfl
theorem ic_ne (x y : Int32) : if_icmp.holds .ne x y = decide (¬ x = y) := by simp [if_icmp.holds]; rfl
theorem ic_lt (x y : Int32) : if_icmp.holds .lt x y = decide (x < y) := by simp [if_icmp.holds]
theorem ic_ge (x y : Int32) : if_icmp.holds .ge x y = decide (y ≤ x) := by simp [if_icmp.holds]
theorem ic_gt (x y : Int32) : if_icmp.holds .gt x y = decide (y < x) := by simp [if_icmp.holds]
theorem ic_le (x y : Int32) : if_icmp.holds .le x y = decide (x ≤ y) := by simp [if_icmp.holds]
theorem iz_eq (x : Int32) : ifCond.holds .eq x = decide (x = 0) := by rw [if0]; exact ic_eq x 0
theorem iz_ne (x : Int32) : ifCond.holds .ne x = decide (¬ x = 0) := by rw [if0]; exact ic_ne x 0
theorem iz_lt (x : Int32) : ifCond.holds .lt x = decide (x < 0) := by rw [if0]; exact ic_lt x 0
theorem iz_ge (x : Int32) : ifCond.holds .ge x = decide (0 ≤ x) := by rw [if0]; exact ic_ge x 0
theorem iz_gt (x : Int32) : ifCond.holds .gt x = decide (0 < x) := by rw [if0]; exact ic_gt x 0
theorem iz_le (x : Int32) : ifCond.holds .le x = decide (x ≤ 0) := by rw [if0]; exact ic_le x 0
theorem ac_eq (x y : Value) : XT.acmp .eq x y = decide (x = y) := rfl
theorem ac_ne (x y : Value) : XT.acmp .ne x y = decide (¬ x = y) := rfl
/-- a condition's worth as an int -/
def bI (P : Prop) [Decidable P] : Int32 := if P then 1 else 0
theorem bI_t {P : Prop} [Decidable P] (h : P) : bI P = 1 := if_pos h
theorem bI_f {P : Prop} [Decidable P] (h : ¬ P) : bI P = 0 := if_neg h
/-! returns -/
section Rets
variable {Q : Option Value → Heap → List Loc → Prop} {C S : Nat}
theorem Go.ret_n (X : Stand p l e R s m args below meth c T locs cells slots) (hx : p.tables.exec = Jvm.exec) {t : FieldType} {z : Int32} (hret : meth.sig.returnType = some t) (hlk : meth.locks = false) (ht : t = .boolean ∨ t = .byte ∨ t = .char ∨ t = .short) (hd : decode c.code pc = .ok (.ireturn, 1)) (hC : cells ≤ C) (hS : slots ≤ S) (hQ : Q (some (.int (nar t z))) T.heap locs) : Go p e below T (mkF m pc Ls (.int z :: rest)) (RetG s Q C S) := by
  obtain ⟨fs, hr, hrun, hended, hW, hsame⟩ := X.leave (v := some (.int (nar t z))) (fun h => by rw [hret] at h; cases h) hlk
  exact ⟨_, _, retN X hx hret ht hd hr, hrun, hended, _, _, rfl, hQ, ⟨_, rfl⟩, hW, hsame.mono hC hS⟩
theorem Go.ret_i (X : Stand p l e R s m args below meth c T locs cells slots) (hx : p.tables.exec = Jvm.exec) {z : Int32} (hret : meth.sig.returnType = some .int) (hlk : meth.locks = false) (hd : decode c.code pc = .ok (.ireturn, 1)) (hC : cells ≤ C) (hS : slots ≤ S) (hQ : Q (some (.int z)) T.heap locs) : Go p e below T (mkF m pc Ls (.int z :: rest)) (RetG s Q C S) := by
  obtain ⟨fs, hr, hrun, hended, hW, hsame⟩ := X.leave (v := some (.int z)) (fun h => by rw [hret] at h; cases h) hlk
  exact ⟨_, _, retOut X hx hret rfl (Or.inl ⟨rfl, Or.inl rfl, z, rfl⟩) hd hr, hrun, hended, _, _, rfl, hQ, ⟨_, rfl⟩, hW, hsame.mono hC hS⟩
theorem Go.ret_a (X : Stand p l e R s m args below meth c T locs cells slots) (hx : p.tables.exec = Jvm.exec) {t : FieldType} {v : Value} (hret : meth.sig.returnType = some t) (hlk : meth.locks = false) (ht : t.isReference = true) (hv : v.isRef = true) (hn : narrow t v = v) (hd : decode c.code pc = .ok (.areturn, 1)) (hC : cells ≤ C) (hS : slots ≤ S) (hQ : Q (some v) T.heap locs) : Go p e below T (mkF m pc Ls (v :: rest)) (RetG s Q C S) := by
  obtain ⟨fs, hr, hrun, hended, hW, hsame⟩ := X.leave (v := some v) (fun h => by rw [hret] at h; cases h) hlk
  exact ⟨_, _, retOut X hx hret hn (Or.inr (Or.inr (Or.inr (Or.inr ⟨rfl, ht, hv⟩)))) hd hr, hrun, hended, _, _, rfl, hQ, ⟨_, rfl⟩, hW, hsame.mono hC hS⟩
theorem Go.ret_v (X : Stand p l e R s m args below meth c T locs cells slots) (hx : p.tables.exec = Jvm.exec) (hret : meth.sig.returnType = none) (hlk : meth.locks = false) (hd : decode c.code pc = .ok (.return_, 1)) (hC : cells ≤ C) (hS : slots ≤ S) (hQ : Q none T.heap locs) : Go p e below T (mkF m pc Ls []) (RetG s Q C S) := by
  obtain ⟨fs, hr, hrun, hended, hW, hsame⟩ := X.leave (v := none) (fun _ => rfl) hlk
  exact ⟨_, _, X.returnOut hx hret hd hr, hrun, hended, _, _, rfl, hQ, ⟨_, rfl⟩, hW, hsame.mono hC hS⟩
end Rets
/-! heap steps -/
theorem Go.getS (X : Stand p l e R s m args below meth c T locs cells slots) (hx : p.tables.exec = Jvm.exec) (hZ : Z.Warmed39 s.vm) (hown : s.vm.findClass own = some m.cls) {O n d : String} {v : Value} (w : (Cond.fieldLink own index O n d).before a0 Z = true) (eT : T.heap = h) (F : Sta Z h O n d v) (hd : decode c.code pc = .ok (.getstatic index, 3))
    (k : ∀ T', Stand p l e R s m args below meth c T' locs cells slots → T'.heap = h → Go p e below T' (mkF m (pc + 3) Ls (v :: st)) G) : Go p e below T (mkF m pc Ls st) G := by
  obtain ⟨T', X', e', f⟩ := RoadKit.getS (host := "") X hx hZ hown w Via.refl eT F (g := mkF m pc Ls st) rfl hd
  exact (k T' X' e').via f
theorem Go.getF (X : Stand p l e R s m args below meth c T locs cells slots) (hx : p.tables.exec = Jvm.exec) (hZ : Z.Warmed39 s.vm) (hown : s.vm.findClass own = some m.cls) {O n d : String} {v : Value} {a : Addr} (w : (Cond.fieldLink own index O n d).before a0 Z = true) (eT : T.heap = h) (F : Fld Z h a O n d v) (hd : decode c.code pc = .ok (.getfield index, 3))
    (k : ∀ T', Stand p l e R s m args below meth c T' locs cells slots → T'.heap = h → Go p e below T' (mkF m (pc + 3) Ls (v :: st)) G) : Go p e below T (mkF m pc Ls (.ref a :: st)) G := by
  obtain ⟨T', X', e', f⟩ := RoadKit.getF (host := "") X hx hZ hown (Or.inl w) Via.refl eT F (g := mkF m pc Ls (.ref a :: st)) rfl rfl hd
  exact (k T' X' e').via f
theorem Go.putF (X : Stand p l e R s m args below meth c T locs cells slots) (hx : p.tables.exec = Jvm.exec) (hZ : Z.Warmed39 s.vm) (hown : s.vm.findClass own = some m.cls) {O n d C : String} {kk : Nat} {ty : FieldType} {v old : Value} {a : Addr} (w : (Cond.fieldLink own index O n d).before a0 Z = true) (eT : T.heap = h) (F : Fld Z h a O n d old) (E : Exa Z h a C)
    (L : (Cond.lays C O n d).before a0 Z = true ∨ ((Cond.laysFinal C O n d).before a0 Z = true ∧ own = O ∧ meth.name = "<init>")) (wi : (Cond.instantiable C kk).before a0 Z = true) (hty : parseFieldDescriptor d = some ty) (hn : narrow ty v = v) (hf : fits ty v = true) (hd : decode c.code pc = .ok (.putfield index, 3))
    (k : ∀ T' h', Stand p l e R s m args below meth c T' (locs ++ [⟨a, RoadKit.slotOf Z O n d⟩]) cells slots → T'.heap = h' → Wr h h' a (RoadKit.slotOf Z O n d) v → Go p e below T' (mkF m (pc + 3) Ls st) G) : Go p e below T (mkF m pc Ls (v :: .ref a :: st)) G := by
  obtain ⟨T', h', X', e', W, f⟩ := RoadKit.putF (host := "") X hx hZ hown (Or.inl w) Via.refl eT F E L wi hty hn hf (g := mkF m pc Ls (v :: .ref a :: st)) rfl rfl hd
  exact (k T' h' X' e' W).via f
theorem Go.newO (X : Stand p l e R s m args below meth c T locs cells slots) (hx : p.tables.exec = Jvm.exec) (hZ : Z.Warmed39 s.vm) (hown : s.vm.findClass own = some m.cls) {C : String} {n : Nat} (w : (Cond.classLink own index C).before a0 Z = true) (wi : (Cond.instantiable C n).before a0 Z = true) (wz : (Cond.initialized C).before a0 Z = true) (eT : T.heap = h) (hd : decode c.code pc = .ok (.new index, 3)) (hc : cells + 1 ≤ R.cells) (hl : slots + n ≤ R.slots)
    (k : ∀ T' h' a, a = h.size → Stand p l e R s m args below meth c T' locs (cells + 1) (slots + n) → T'.heap = h' → Ext h h' → Exa Z h' a C → (∀ {O nm d : String} {ty : FieldType}, Laid Z a0 C O nm d → parseFieldDescriptor d = some ty → Fld Z h' a O nm d (defaultValue ty)) → Go p e below T' (mkF m (pc + 3) Ls (.ref a :: st)) G) : Go p e below T (mkF m pc Ls st) G := by
  obtain ⟨T', h', X', e', E, A, D, -, f⟩ := RoadKit.newO X hx hZ hown w wi wz eT (g := mkF m pc Ls st) rfl hd hc hl
  exact (k T' h' _ rfl X' e' E A D).via f
theorem Go.initO (X : Stand p l e R s m args below meth c T locs cells slots) (hx : p.tables.exec = Jvm.exec) (hZ : Z.Warmed39 s.vm) (hown : s.vm.findClass own = some m.cls) {a : Addr} {mx : Nat} (w1 : (Cond.methodLink own index Lib.objectInit).before a0 Z = true) (w2 : (Cond.instanceMethod Lib.objectInit).before a0 Z = true) (w3 : (Cond.code Lib.objectInit ⟨#[0xb1]⟩ 1 none).before a0 Z = true) (eT : T.heap = h) (hml : c.maxLocals = mx) (hsz : Ls.size = mx) (hd : decode c.code pc = .ok (.invokespecial index, 3)) (hf : 1 ≤ R.frames) {W : Nat} (hW : (st.map fun v => v.category).sum ≤ W) (hl : W + 12 ≤ R.locals)
    (k : ∀ T', Stand p l e R s m args below meth c T' locs cells slots → T'.heap = h → Go p e below T' (mkF m (pc + 3) Ls st) G) : Go p e below T (mkF m pc Ls (.ref a :: st)) G := by
  obtain ⟨T', X', e', f⟩ := RoadKit.initO X hx hZ hown w1 w2 w3 eT (g := mkF m pc Ls (.ref a :: st)) rfl (hsz.trans hml.symm) rfl hd hf (W := W) (by show 2 * 0 + _ ≤ _; omega) hl
  exact (k T' X' e').via f
/-! calls -/
section Calls
variable {y z : MethodName} {bytes : ByteArray} {maxL : Nat} {ret : Option FieldType} {rm : Room} {Q : Option Value → Heap → List Loc → Prop} {argsL : List Value} {ps : List FieldType} {r : Option FieldType} {mx W : Nat} {a : Addr} {C : String}
theorem Go.callS (X : Stand p l e R s m args below meth c T locs cells slots) (hx : p.tables.exec = Jvm.exec) (hZ : Z.Warmed39 s.vm) (hown : s.vm.findClass own = some m.cls) (w1 : (Cond.methodLink own index y).before a0 Z = true) (w2 : (Cond.static y).before a0 Z = true) (w3 : (Cond.initialized y.cls).before a0 Z = true) (w4 : (Cond.code y bytes maxL ret).before a0 Z = true)
    (hy : y.cls ≠ "java/lang/invoke/MethodHandle" ∧ y.cls ≠ "java/lang/invoke/VarHandle") (eT : T.heap = h) (hM : Met l y bytes maxL ret [] rm Z argsL.toArray h Q) (hml : c.maxLocals = mx) (hsz : Ls.size = mx) (pd : parseMethodDescriptor y.desc = some ⟨ps, r⟩) (hlen : argsL.length = ps.length) (hs : st = argsL.reverse ++ rest) (hW : (rest.map fun v => v.category).sum ≤ W)
    (hf : rm.frames + 1 ≤ R.frames) (hl : W + (maxL + 11) + rm.locals ≤ R.locals) (hc : cells + rm.cells ≤ R.cells) (hsl : slots + rm.slots ≤ R.slots) (hd : decode c.code pc = .ok (.invokestatic index, 3))
    (k : ∀ v T' L, Stand p l e R s m args below meth c T' (locs ++ L) (cells + rm.cells) (slots + rm.slots) → Q v T'.heap L → Go p e below T' (mkF m (pc + 3) Ls (v.toList ++ rest)) G) : Go p e below T (mkF m pc Ls st) G := by
  obtain ⟨v, vm₁, ⟨T', L', k', n'⟩, -, X', ⟨Lc, hQ, l1, y1, z1⟩, f⟩ := Jvm.LawKit.callS X hx hown (mvT hZ w1) (mvT hZ w2) (mvT hZ w3) (mvT hZ w4) hy (backOf (W := W) hM hZ w4 w3 hf hl) (g := mkF m pc Ls st) rfl (hsz.trans hml.symm) (argsL := argsL) (rest := rest) (lenOf pd hlen) hs (by show 2 * 0 + _ ≤ _; omega) hd (fun _ _ => ⟨rfl, eT, hc, hsl⟩)
  dsimp only [Pt.U, Pt.locs, Pt.cells, Pt.slots] at X' l1 y1 z1 f hQ
  subst l1 y1 z1
  exact (k v T' Lc X' hQ).via f
theorem Go.callV (X : Stand p l e R s m args below meth c T locs cells slots) (hx : p.tables.exec = Jvm.exec) (hZ : Z.Warmed39 s.vm) (hown : s.vm.findClass own = some m.cls) (w1 : (Cond.methodLink own index y).before a0 Z = true) (w2 : (Cond.declares y).before a0 Z = true) (hnf : NotFace s y) (w3 : (Cond.selects C y z).before a0 Z = true) (w4 : (Cond.instanceMethod z).before a0 Z = true) (w5 : (Cond.code z bytes maxL ret).before a0 Z = true) (w6 : (Cond.initialized z.cls).before a0 Z = true)
    (hy : y.cls ≠ "java/lang/invoke/MethodHandle" ∧ y.cls ≠ "java/lang/invoke/VarHandle") (eT : T.heap = h) (E : Exa Z h a C) (hM : Met l z bytes maxL ret [] rm Z (.ref a :: argsL).toArray h Q) (hml : c.maxLocals = mx) (hsz : Ls.size = mx) (pd : parseMethodDescriptor y.desc = some ⟨ps, r⟩) (hlen : argsL.length = ps.length) (hs : st = argsL.reverse ++ .ref a :: rest) (hW : (rest.map fun v => v.category).sum ≤ W)
    (hf : rm.frames + 1 ≤ R.frames) (hl : W + (maxL + 11) + rm.locals ≤ R.locals) (hc : cells + rm.cells ≤ R.cells) (hsl : slots + rm.slots ≤ R.slots) (hd : decode c.code pc = .ok (.invokevirtual index, 3))
    (k : ∀ v T' L, Stand p l e R s m args below meth c T' (locs ++ L) (cells + rm.cells) (slots + rm.slots) → Q v T'.heap L → Go p e below T' (mkF m (pc + 3) Ls (v.toList ++ rest)) G) : Go p e below T (mkF m pc Ls st) G := by
  obtain ⟨cq, kq, q1, q2, q3⟩ := isOf hZ eT E
  obtain ⟨v, vm₁, ⟨T', L', k', n'⟩, -, X', ⟨Lc, hQ, l1, y1, z1⟩, f⟩ := X.virtualBack hx hown (mvT hZ w1) (mvT hZ w2) hnf (mvT hZ w3) (mvT hZ w4) hy (backOf (W := W) hM hZ w5 w6 hf hl) q1 q3 (g := mkF m pc Ls st) rfl (hsz.trans hml.symm) (Steps.refl _) (argsL := argsL) (rest := rest) (lenOf pd hlen) hs (by show 2 * 0 + _ ≤ _; omega) hd (fun _ _ => ⟨rfl, eT, hc, hsl⟩)
  dsimp only [Pt.U, Pt.locs, Pt.cells, Pt.slots] at X' l1 y1 z1 f hQ
  subst l1 y1 z1
  exact (k v T' Lc X' hQ).via fun t q => f.trans q
theorem Go.callI (X : Stand p l e R s m args below meth c T locs cells slots) (hx : p.tables.exec = Jvm.exec) (hZ : Z.Warmed39 s.vm) (hown : s.vm.findClass own = some m.cls) (hy1 : y.name = "<init>") (w1 : (Cond.methodLink own index y).before a0 Z = true) (w2 : (Cond.instanceMethod y).before a0 Z = true) (w5 : (Cond.code y bytes maxL none).before a0 Z = true) (w6 : (Cond.initialized y.cls).before a0 Z = true)
    (hy : y.cls ≠ "java/lang/invoke/MethodHandle" ∧ y.cls ≠ "java/lang/invoke/VarHandle") (eT : T.heap = h) (hM : Met l y bytes maxL none [] rm Z (.ref a :: argsL).toArray h Q) (hml : c.maxLocals = mx) (hsz : Ls.size = mx) (pd : parseMethodDescriptor y.desc = some ⟨ps, r⟩) (hlen : argsL.length = ps.length) (hs : st = argsL.reverse ++ .ref a :: rest) (hW : (rest.map fun v => v.category).sum ≤ W)
    (hf : rm.frames + 1 ≤ R.frames) (hl : W + (maxL + 11) + rm.locals ≤ R.locals) (hc : cells + rm.cells ≤ R.cells) (hsl : slots + rm.slots ≤ R.slots) (hd : decode c.code pc = .ok (.invokespecial index, 3))
    (k : ∀ v T' L, Stand p l e R s m args below meth c T' (locs ++ L) (cells + rm.cells) (slots + rm.slots) → Q v T'.heap L → Go p e below T' (mkF m (pc + 3) Ls (v.toList ++ rest)) G) : Go p e below T (mkF m pc Ls st) G := by
  obtain ⟨v, vm₁, ⟨T', L', k', n'⟩, -, X', ⟨Lc, hQ, l1, y1, z1⟩, f⟩ := X.specialBack hx hy1 hown (mvT hZ w1) (mvT hZ w2) (mvT hZ w5) hy (backOf (W := W) hM hZ w5 w6 hf hl) (g := mkF m pc Ls st) rfl (hsz.trans hml.symm) (Steps.refl _) (a := a) (argsL := argsL) (rest := rest) (lenOf pd hlen) hs (by show 2 * 0 + _ ≤ _; omega) hd (fun _ _ => ⟨rfl, eT, hc, hsl⟩)
  dsimp only [Pt.U, Pt.locs, Pt.cells, Pt.slots] at X' l1 y1 z1 f hQ
  subst l1 y1 z1
  exact (k v T' Lc X' hQ).via fun t q => f.trans q
end Calls
/-! from the case's words -/
theorem sta_of {C n d K : String} (w : (Cond.exactly (.static C n d) K).value args s none s [] = some true) (wi : (Cond.initialized C).before args s = true) (wl : (Cond.laysStatic C n d).before args s = true) :
    ∃ x, (Term.static C n d).eval args s none [] s = some (.ref x) ∧ Sta s s.heap C n d (.ref x) ∧ Exa s s.heap x K := by
  obtain ⟨x, ev⟩ := exa_v w
  exact ⟨x, ev, Sta.start ev (Or.inr ⟨wi, wl⟩), Exa.start ev w⟩
theorem fld_of {t : Term} {C n d : String} {k : Int32} {x : Addr} (ev : t.eval args s none [] s = some (.ref x)) (w : (Cond.eq (.field t C n d) (.int k)).value args s none s [] = some true) : Fld s s.heap x C n d (.int k) := by
  have q := Cond.eq_int (Cond.before_iff.mpr w) rfl
  exact Fld.start ((fld_at ev).symm.trans q)
theorem fldR_of {t u : Term} {C n d : String} {x y : Addr} (ev : t.eval args s none [] s = some (.ref x)) (ew : u.eval args s none [] s = some (.ref y)) (w : (Cond.eq (.field t C n d) u).value args s none s [] = some true) : Fld s s.heap x C n d (.ref y) := by
  obtain ⟨v1, v2, h1, h2, h3, h4⟩ := cmp_v (Or.inl w)
  cases ew.symm.trans h2
  have q : v1 = .ref y := gotT (eq_R h1 h2 h4.2 rfl) w
  exact Fld.start ((fld_at ev).symm.trans (h1.trans (by rw [q])))
theorem rne {a b : Addr} (h : a ≠ b) : ¬ (Value.ref a = Value.ref b) := fun q => h (Value.ref.inj q)
theorem i5 (x : Int32) : (x &&& 2147483647) % 5 = 0 ∨ (x &&& 2147483647) % 5 = 1 ∨ (x &&& 2147483647) % 5 = 2 ∨ (x &&& 2147483647) % 5 = 3 ∨ (x &&& 2147483647) % 5 = 4 := by
  have a1 := c_mask x 2147483647 31 (by decide) (by decide)
  have a2 := (c_irem (x &&& 2147483647) 5 5 (by decide)).1 (by rw [a1]; exact Int.emod_nonneg _ (by decide))
  simp only [← Int32.toInt_inj, Int32.reduceToInt]
  omega
end Own
end Jvm.Own
namespace Jvm.Own
open Sem ClassFile Op Lib Jvm.Stand Jvm.Free Jvm.LawKit Jvm.RoadKit
section Arrays
variable {p : Program} {l : Launch} {e : Env} {R : Room} {s : State} {m : MethodId} {args : Array Value} {below : List Frame} {meth : Method} {c : Code} {T : State} {locs : List Loc} {cells slots : Nat} {Z : State} {a0 : Array Value} {h h' : Heap} {G : Outcome → State → Prop} {pc pc' : Nat} {Ls : Array Slot} {st rest : List Value} {own : String} {index : Nat}
variable {a b : Addr} {kk : ClassId} {ty : FieldType} {n i : Nat} {f : Nat → Value} {j x : Int32} {v : Value} {sl : Nat} {ws : List Addr}
/-- in the heap h an array of kind ty and of n places; the i-th holds f i -/
def AV (Z : State) (h : Heap) (a : Addr) (kk : ClassId) (ty : FieldType) (n : Nat) (f : Nat → Value) : Prop :=
  ∃ c : Cell, Arr Z h a c ty ∧ c.cls = kk ∧ c.slots.size = n ∧ n < 2 ^ 31 ∧ (∀ i, i < n → c.slots[i]? = some (f i)) ∧ ∀ i, i < n → fits ty (f i) = true
def upd (f : Nat → Value) (i : Nat) (v : Value) : Nat → Value := fun j => if j = i then v else f j
theorem upd_eq : upd f i v i = v := if_pos rfl
theorem upd_ne {j : Nat} (q : j ≠ i) : upd f i v j = f j := if_neg q
theorem AV.lt (F : AV Z h a kk ty n f) : a < h.size := by obtain ⟨c, A, -⟩ := F; exact A.lt
theorem AV.ext (F : AV Z h a kk ty n f) (E : Ext h h') : AV Z h' a kk ty n f := by obtain ⟨c, A, r⟩ := F; exact ⟨c, A.ext E, r⟩
theorem AV.other (F : AV Z h b kk ty n f) (W : Wr h h' a sl v) (q : b ≠ a) : AV Z h' b kk ty n f := by obtain ⟨c, A, r⟩ := F; exact ⟨c, A.other W q, r⟩
theorem AV.keep (F : AV Z h a kk ty n f) (K : Keep h h' ws) (q : a ∉ ws) : AV Z h' a kk ty n f := by obtain ⟨c, A, r⟩ := F; exact ⟨c, ⟨K.2.1 a c A.1 q, A.2⟩, r⟩
theorem AV.cong {g : Nat → Value} (F : AV Z h a kk ty n f) (q : ∀ i, i < n → f i = g i) : AV Z h a kk ty n g := by
  obtain ⟨c, A, r1, r2, r3, r4, r5⟩ := F
  exact ⟨c, A, r1, r2, r3, fun i hi => by rw [← q i hi]; exact r4 i hi, fun i hi => by rw [← q i hi]; exact r5 i hi⟩
theorem AV.set (F : AV Z h a kk ty n f) (W : Wr h h' a i v) (hv : fits ty v = true) (hi : i < n) : AV Z h' a kk ty n (upd f i v) := by
  obtain ⟨c, A, r1, r2, r3, r4, r5⟩ := F
  refine ⟨_, A.same W, r1, by rw [sz_set]; exact r2, r3, fun y hy => ?_, fun y hy => ?_⟩
  · by_cases q : y = i
    · subst q; rw [upd_eq]; simp [Cell.setSlot, r2, hi]
    · rw [upd_ne q, ← r4 y hy]; simp only [Cell.setSlot]; exact Array.getElem?_setIfInBounds_ne (Ne.symm q)
  · by_cases q : y = i
    · subst q; rw [upd_eq]; exact hv
    · rw [upd_ne q]; exact r5 y hy
theorem ix_nat (hj : j.toInt = (i : Int)) : ¬ j < 0 ∧ j.toNatClampNeg = i := by
  constructor
  · rw [Int32.lt_iff_toInt_lt, hj, show (0 : Int32).toInt = 0 from rfl]; omega
  · simp only [Int32.toNatClampNeg, hj]; rfl
theorem ix_in {c : Cell} (hs : c.slots.size = n) (hj : j.toInt = (i : Int)) (hi : i < n) : ¬ (j < 0 ∨ c.slots.size ≤ j.toNatClampNeg) := by
  obtain ⟨q1, q2⟩ := ix_nat hj
  rw [q2, hs]; exact fun q => q.elim q1 (fun r => by omega)
theorem Go.newP (X : Stand p l e R s m args below meth c T locs cells slots) (hx : p.tables.exec = Jvm.exec) (hZ : Z.Warmed39 s.vm) {aty : ArrayType} (hty : newarray.typeOf aty = ty) (w : (Cond.arrayClass ty).before a0 Z = true) (eT : T.heap = h) (hd : decode c.code pc = .ok (.newarray aty, 2)) {z : Int32} {cap : Nat} (hz : z.toInt = (n : Int)) (hcap : n ≤ cap) (hb : cap * 8 ≤ 536870912) (hc : cells + 1 ≤ R.cells) (hl : slots + cap ≤ R.slots)
    (k : ∀ T' h' a cA, a = h.size → Stand p l e R s m args below meth c T' locs (cells + 1) (slots + cap) → T'.heap = h' → Ext h h' → AV Z h' a cA ty n (fun _ => defaultValue ty) → Go p e below T' (mkF m (pc + 2) Ls (.ref a :: st)) G) : Go p e below T (mkF m pc Ls (.int z :: st)) G := by
  obtain ⟨q1, q2⟩ := ix_nat hz
  subst hty
  obtain ⟨T', h', cA, X', e', E, A, f⟩ := RoadKit.newP X hx hZ w eT (g := mkF m pc Ls (.int z :: st)) rfl hd rfl q1 (by rw [q2]; exact hcap) hb hc hl
  refine (k T' h' _ cA rfl X' e' E ⟨_, A, rfl, by rw [sz_new, q2], by have := z.toInt_lt; omega, fun i hi => ?_, fun i hi => ?_⟩).via f
  · simp only [newA, q2]; rw [Array.getElem?_replicate, if_pos hi]
  · cases aty <;> rfl
theorem Go.arraylength (X : Stand p l e R s m args below meth c T locs cells slots) (hx : p.tables.exec = Jvm.exec) (hZ : Z.Warmed39 s.vm) (eT : T.heap = h) (A : AV Z h a kk ty n f) {z : Int32} (hz : z.toInt = (n : Int)) (hd : decode c.code pc = .ok (.arraylength, 1)) (k : Go p e below T (mkF m (pc + 1) Ls (.int z :: st)) G) : Go p e below T (mkF m pc Ls (.ref a :: st)) G := by
  obtain ⟨cl, A, r1, r2, r3, r4, r5⟩ := A
  have q : cl.slots.size.toInt32 = z := by rw [r2]; exact Int32.toInt_inj.mp (by rw [len_toInt r3, hz])
  refine k.via fun t u => X.arraylength hx (by rw [eT]; exact A.1) (State.isArrayOf_alike hZ.alike A.2.1) (g := mkF m pc Ls (.ref a :: st)) rfl rfl hd t ?_
  rw [q]; exact u
theorem Go.baload (X : Stand p l e R s m args below meth c T locs cells slots) (hx : p.tables.exec = Jvm.exec) (hZ : Z.Warmed39 s.vm) (eT : T.heap = h) (A : AV Z h a kk .byte n f) (hj : j.toInt = (i : Int)) (hi : i < n) (hv : f i = v) (hd : decode c.code pc = .ok (.baload, 1)) (k : Go p e below T (mkF m (pc + 1) Ls (v :: st)) G) : Go p e below T (mkF m pc Ls (.int j :: .ref a :: st)) G := by
  obtain ⟨cl, A, r1, r2, r3, r4, r5⟩ := A
  exact k.via fun t u => X.baloadBytes hx (by rw [eT]; exact A.1) (State.isArrayOf_alike hZ.alike A.2.1) A.2.2 (ix_in r2 hj hi) (by rw [(ix_nat hj).2, ← hv]; exact r4 i hi) (g := mkF m pc Ls (.int j :: .ref a :: st)) rfl rfl hd t u
theorem Go.zaload (X : Stand p l e R s m args below meth c T locs cells slots) (hx : p.tables.exec = Jvm.exec) (hZ : Z.Warmed39 s.vm) (eT : T.heap = h) (A : AV Z h a kk .boolean n f) (hj : j.toInt = (i : Int)) (hi : i < n) (hv : f i = v) (hd : decode c.code pc = .ok (.baload, 1)) (k : Go p e below T (mkF m (pc + 1) Ls (v :: st)) G) : Go p e below T (mkF m pc Ls (.int j :: .ref a :: st)) G := by
  obtain ⟨cl, A, r1, r2, r3, r4, r5⟩ := A
  exact k.via fun t u => X.baloadBooleans hx (by rw [eT]; exact A.1) (State.isArrayOf_alike hZ.alike A.2.1) A.2.2 (ix_in r2 hj hi) (by rw [(ix_nat hj).2, ← hv]; exact r4 i hi) (g := mkF m pc Ls (.int j :: .ref a :: st)) rfl rfl hd t u
theorem Go.caload (X : Stand p l e R s m args below meth c T locs cells slots) (hx : p.tables.exec = Jvm.exec) (hZ : Z.Warmed39 s.vm) (eT : T.heap = h) (A : AV Z h a kk .char n f) (hj : j.toInt = (i : Int)) (hi : i < n) (hv : f i = v) (hd : decode c.code pc = .ok (.caload, 1)) (k : Go p e below T (mkF m (pc + 1) Ls (v :: st)) G) : Go p e below T (mkF m pc Ls (.int j :: .ref a :: st)) G := by
  obtain ⟨cl, A, r1, r2, r3, r4, r5⟩ := A
  exact k.via fun t u => X.caload hx (by rw [eT]; exact A.1) (State.isArrayOf_alike hZ.alike A.2.1) A.2.2 (ix_in r2 hj hi) (by rw [(ix_nat hj).2, ← hv]; exact r4 i hi) (g := mkF m pc Ls (.int j :: .ref a :: st)) rfl rfl hd t u
theorem Go.iaload (X : Stand p l e R s m args below meth c T locs cells slots) (hx : p.tables.exec = Jvm.exec) (hZ : Z.Warmed39 s.vm) (eT : T.heap = h) (A : AV Z h a kk .int n f) (hj : j.toInt = (i : Int)) (hi : i < n) (hv : f i = v) (hd : decode c.code pc = .ok (.iaload, 1)) (k : Go p e below T (mkF m (pc + 1) Ls (v :: st)) G) : Go p e below T (mkF m pc Ls (.int j :: .ref a :: st)) G := by
  obtain ⟨cl, A, r1, r2, r3, r4, r5⟩ := A
  exact k.via fun t u => X.iaload hx (by rw [eT]; exact A.1) (State.isArrayOf_alike hZ.alike A.2.1) A.2.2 (ix_in r2 hj hi) (by rw [(ix_nat hj).2, ← hv]; exact r4 i hi) (g := mkF m pc Ls (.int j :: .ref a :: st)) rfl rfl hd t u
theorem Go.aaload (X : Stand p l e R s m args below meth c T locs cells slots) (hx : p.tables.exec = Jvm.exec) (hZ : Z.Warmed39 s.vm) (eT : T.heap = h) (A : AV Z h a kk ty n f) (hty : ty.isReference = true) (hj : j.toInt = (i : Int)) (hi : i < n) (hv : f i = v) (hd : decode c.code pc = .ok (.aaload, 1)) (k : Go p e below T (mkF m (pc + 1) Ls (v :: st)) G) : Go p e below T (mkF m pc Ls (.int j :: .ref a :: st)) G := by
  obtain ⟨cl, A, r1, r2, r3, r4, r5⟩ := A
  exact k.via fun t u => X.aaload hx (by rw [eT]; exact A.1) (State.isArrayOf_alike hZ.alike A.2.1) hty A.2.2 (ix_in r2 hj hi) (by rw [(ix_nat hj).2, ← hv]; exact r4 i hi) (g := mkF m pc Ls (.int j :: .ref a :: st)) rfl rfl hd t u
theorem Go.bastore (X : Stand p l e R s m args below meth c T locs cells slots) (hx : p.tables.exec = Jvm.exec) (hZ : Z.Warmed39 s.vm) (eT : T.heap = h) (A : AV Z h a kk .byte n f) (hj : j.toInt = (i : Int)) (hi : i < n) (hd : decode c.code pc = .ok (.bastore, 1))
    (k : ∀ T' h', Stand p l e R s m args below meth c T' (locs ++ [⟨a, i⟩]) cells slots → T'.heap = h' → Wr h h' a i (.int (nar .byte x)) → AV Z h' a kk .byte n (upd f i (.int (nar .byte x))) → Go p e below T' (mkF m (pc + 1) Ls st) G) : Go p e below T (mkF m pc Ls (.int x :: .int j :: .ref a :: st)) G := by
  have A' := A
  obtain ⟨cl, A, r1, r2, r3, r4, r5⟩ := A
  obtain ⟨T', h', X', e', W, f'⟩ := stB X hx hZ eT A (j := j) (x := x) (ix_in r2 hj hi) (g := mkF m pc Ls (.int x :: .int j :: .ref a :: st)) rfl rfl hd
  rw [(ix_nat hj).2] at X' W
  exact (k T' h' X' e' W (A'.set W (fits_nar_byte x) hi)).via f'
theorem Go.zastore (X : Stand p l e R s m args below meth c T locs cells slots) (hx : p.tables.exec = Jvm.exec) (hZ : Z.Warmed39 s.vm) (eT : T.heap = h) (A : AV Z h a kk .boolean n f) (hj : j.toInt = (i : Int)) (hi : i < n) (hd : decode c.code pc = .ok (.bastore, 1))
    (k : ∀ T' h', Stand p l e R s m args below meth c T' (locs ++ [⟨a, i⟩]) cells slots → T'.heap = h' → Wr h h' a i (.int (nar .boolean x)) → AV Z h' a kk .boolean n (upd f i (.int (nar .boolean x))) → Go p e below T' (mkF m (pc + 1) Ls st) G) : Go p e below T (mkF m pc Ls (.int x :: .int j :: .ref a :: st)) G := by
  have A' := A
  obtain ⟨cl, A, r1, r2, r3, r4, r5⟩ := A
  obtain ⟨T', h', X', e', W, f'⟩ := stZ X hx hZ eT A (j := j) (x := x) (ix_in r2 hj hi) (g := mkF m pc Ls (.int x :: .int j :: .ref a :: st)) rfl rfl hd
  rw [(ix_nat hj).2] at X' W
  exact (k T' h' X' e' W (A'.set W (fits_nar_bool x) hi)).via f'
theorem Go.castore (X : Stand p l e R s m args below meth c T locs cells slots) (hx : p.tables.exec = Jvm.exec) (hZ : Z.Warmed39 s.vm) (eT : T.heap = h) (A : AV Z h a kk .char n f) (hj : j.toInt = (i : Int)) (hi : i < n) (hd : decode c.code pc = .ok (.castore, 1))
    (k : ∀ T' h', Stand p l e R s m args below meth c T' (locs ++ [⟨a, i⟩]) cells slots → T'.heap = h' → Wr h h' a i (.int (nar .char x)) → AV Z h' a kk .char n (upd f i (.int (nar .char x))) → Go p e below T' (mkF m (pc + 1) Ls st) G) : Go p e below T (mkF m pc Ls (.int x :: .int j :: .ref a :: st)) G := by
  have A' := A
  obtain ⟨cl, A, r1, r2, r3, r4, r5⟩ := A
  obtain ⟨T', h', X', e', W, f'⟩ := stC X hx hZ eT A (j := j) (x := x) (ix_in r2 hj hi) (g := mkF m pc Ls (.int x :: .int j :: .ref a :: st)) rfl rfl hd
  rw [(ix_nat hj).2] at X' W
  exact (k T' h' X' e' W (A'.set W (fits_nar_char x) hi)).via f'
theorem Go.iastore (X : Stand p l e R s m args below meth c T locs cells slots) (hx : p.tables.exec = Jvm.exec) (hZ : Z.Warmed39 s.vm) (eT : T.heap = h) (A : AV Z h a kk .int n f) (hj : j.toInt = (i : Int)) (hi : i < n) (hd : decode c.code pc = .ok (.iastore, 1))
    (k : ∀ T' h', Stand p l e R s m args below meth c T' (locs ++ [⟨a, i⟩]) cells slots → T'.heap = h' → Wr h h' a i (.int x) → AV Z h' a kk .int n (upd f i (.int x)) → Go p e below T' (mkF m (pc + 1) Ls st) G) : Go p e below T (mkF m pc Ls (.int x :: .int j :: .ref a :: st)) G := by
  have A' := A
  obtain ⟨cl, A, r1, r2, r3, r4, r5⟩ := A
  obtain ⟨T', h', X', e', W, f'⟩ := stI X hx hZ eT A (j := j) (x := x) (ix_in r2 hj hi) (g := mkF m pc Ls (.int x :: .int j :: .ref a :: st)) rfl rfl hd
  rw [(ix_nat hj).2] at X' W
  exact (k T' h' X' e' W (A'.set W rfl hi)).via f'
theorem Go.newR (X : Stand p l e R s m args below meth c T locs cells slots) (hx : p.tables.exec = Jvm.exec) (hZ : Z.Warmed39 s.vm) (hown : s.vm.findClass own = some m.cls) {C : String} (w1 : (Cond.classLink own index C).before a0 Z = true) (w2 : (Cond.arrayOver (.object C)).before a0 Z = true) (eT : T.heap = h) (hd : decode c.code pc = .ok (.anewarray index, 3)) {z : Int32} {cap : Nat} (hz : z.toInt = (n : Int)) (hcap : n ≤ cap) (hb : cap * 8 ≤ 536870912) (hc : cells + 1 ≤ R.cells) (hl : slots + cap ≤ R.slots)
    (k : ∀ T' h' a cA, a = h.size → Stand p l e R s m args below meth c T' locs (cells + 1) (slots + cap) → T'.heap = h' → Ext h h' → AV Z h' a cA (.object C) n (fun _ => .null) → Ovr Z cA C → Go p e below T' (mkF m (pc + 3) Ls (.ref a :: st)) G) : Go p e below T (mkF m pc Ls (.int z :: st)) G := by
  obtain ⟨q1, q2⟩ := ix_nat hz
  obtain ⟨T', h', cA, X', e', E, A, -, O, f⟩ := RoadKit.newRE X hx hZ hown w1 w2 eT (g := mkF m pc Ls (.int z :: st)) rfl hd rfl q1 (by rw [q2]; exact hcap) hb hc hl rfl
  refine (k T' h' _ cA rfl X' e' E ⟨_, A, rfl, by rw [sz_new, q2], by have := z.toInt_lt; omega, fun i hi => ?_, fun i hi => rfl⟩ O).via f
  simp only [newA, q2, defaultValue]; rw [Array.getElem?_replicate, if_pos hi]
theorem Go.aastore (X : Stand p l e R s m args below meth c T locs cells slots) (hx : p.tables.exec = Jvm.exec) (hZ : Z.Warmed39 s.vm) (eT : T.heap = h) {C : String} {y : Addr} (A : AV Z h a kk (.object C) n f) (O : Ovr Z kk C) (I : Ins Z h y C true) (hj : j.toInt = (i : Int)) (hi : i < n) (hd : decode c.code pc = .ok (.aastore, 1))
    (k : ∀ T' h', Stand p l e R s m args below meth c T' (locs ++ [⟨a, i⟩]) cells slots → T'.heap = h' → Wr h h' a i (.ref y) → AV Z h' a kk (.object C) n (upd f i (.ref y)) → Go p e below T' (mkF m (pc + 1) Ls st) G) : Go p e below T (mkF m pc Ls (.ref y :: .int j :: .ref a :: st)) G := by
  have A' := A
  obtain ⟨cl, A, r1, r2, r3, r4, r5⟩ := A
  obtain ⟨T', h', X', e', W, f'⟩ := stR X hx hZ eT A (j := j) (ix_in r2 hj hi) rfl (Sto.ofV A r1 O I) (g := mkF m pc Ls (.ref y :: .int j :: .ref a :: st)) rfl rfl hd
  rw [(ix_nat hj).2] at X' W
  exact (k T' h' X' e' W (A'.set W rfl hi)).via f'
theorem Go.instY (X : Stand p l e R s m args below meth c T locs cells slots) (hx : p.tables.exec = Jvm.exec) (hZ : Z.Warmed39 s.vm) (hown : s.vm.findClass own = some m.cls) {K : String} (w : (Cond.classLink own index K).before a0 Z = true) (eT : T.heap = h) (F : Ins Z h a K true) (hd : decode c.code pc = .ok (.instanceof index, 3))
    (k : ∀ T', Stand p l e R s m args below meth c T' locs cells slots → T'.heap = h → Go p e below T' (mkF m (pc + 3) Ls (.int 1 :: st)) G) : Go p e below T (mkF m pc Ls (.ref a :: st)) G := by
  obtain ⟨T', X', e', f⟩ := RoadKit.instY X hx hZ hown w eT F (g := mkF m pc Ls (.ref a :: st)) rfl rfl hd
  exact (k T' X' e').via f
theorem Go.castY (X : Stand p l e R s m args below meth c T locs cells slots) (hx : p.tables.exec = Jvm.exec) (hZ : Z.Warmed39 s.vm) (hown : s.vm.findClass own = some m.cls) {K : String} (w : (Cond.classLink own index K).before a0 Z = true) (eT : T.heap = h) (F : Ins Z h a K true) (hd : decode c.code pc = .ok (.checkcast index, 3))
    (k : ∀ T', Stand p l e R s m args below meth c T' locs cells slots → T'.heap = h → Go p e below T' (mkF m (pc + 3) Ls (.ref a :: st)) G) : Go p e below T (mkF m pc Ls (.ref a :: st)) G := by
  obtain ⟨T', X', e', f⟩ := RoadKit.castY X hx hZ hown w eT F (g := mkF m pc Ls (.ref a :: st)) rfl rfl hd
  exact (k T' X' e').via f
theorem Go.instNo (X : Stand p l e R s m args below meth c T locs cells slots) (hx : p.tables.exec = Jvm.exec) (hZ : Z.Warmed39 s.vm) (hown : s.vm.findClass own = some m.cls) {K C : String} (w : (Cond.classLink own index K).before a0 Z = true) (eT : T.heap = h) (E : Exa Z h a C) (F : ∃ c t, Z.vm.findClass C = some c ∧ Z.vm.findClass K = some t ∧ Z.vm.assignable c t = false) (hd : decode c.code pc = .ok (.instanceof index, 3))
    (k : ∀ T', Stand p l e R s m args below meth c T' locs cells slots → T'.heap = h → Go p e below T' (mkF m (pc + 3) Ls (.int 0 :: st)) G) : Go p e below T (mkF m pc Ls (.ref a :: st)) G := by
  obtain ⟨T', X', e', f⟩ := RoadKit.instNo X hx hZ hown w eT E F (g := mkF m pc Ls (.ref a :: st)) rfl rfl hd
  exact (k T' X' e').via f
theorem Go.instNull (X : Stand p l e R s m args below meth c T locs cells slots) (hx : p.tables.exec = Jvm.exec) (hd : decode c.code pc = .ok (.instanceof index, 3)) (n : Go p e below T (mkF m (pc + 3) Ls (.int 0 :: st)) G) : Go p e below T (mkF m pc Ls (.null :: st)) G :=
  n.via fun t q => X.instanceofNull hx (g := mkF m pc Ls (.null :: st)) rfl rfl hd t q
theorem Go.dup_x1 (X : Stand p l e R s m args below meth c T locs cells slots) (hx : p.tables.exec = Jvm.exec) {w : Value} (hd : decode c.code pc = .ok (.dup_x1, 1)) (hc : v.category = 1) (hc' : w.category = 1) (n : Go p e below T (mkF m (pc + 1) Ls (v :: w :: v :: st)) G) : Go p e below T (mkF m pc Ls (v :: w :: st)) G :=
  n.via fun t q => XT.dupX1 X.here hx rfl hd rfl hc hc' q
/-- C, whose superclass is S, whose superclass is the root O, is no K -/
theorem ns_root {O K : String} {n : Nat} (w : (Cond.noSuperclass O).before a0 Z = true) (wk : (Cond.instantiable K n).before a0 Z = true) (hn : O ≠ K) : NS Z O K := by
  obtain ⟨c, k, h1, h2, h3, -, -⟩ := Cond.noSuperclass_spec w
  obtain ⟨t, kt, g1, -⟩ := Cond.instantiable_spec wk
  have ne := ids_ne h1 g1 hn
  refine ⟨c, t, h1, g1, fun fuel => ?_⟩
  cases fuel with
  | zero => rfl
  | succ f => simp [Vm.isSubclassAux, ne, h2, h3]
theorem ns_no {C S K : String} {n : Nat} (w : (Cond.superclass C S).before a0 Z = true) (wk : (Cond.instantiable K n).before a0 Z = true) (q : NS Z C K) (hn : C ≠ K) : ∃ c t, Z.vm.findClass C = some c ∧ Z.vm.findClass K = some t ∧ Z.vm.assignable c t = false := by
  obtain ⟨c, t, h0, g0, n3⟩ := q
  obtain ⟨p, k, kp, h1, h2, h3, h4, h5, -, h7⟩ := Cond.superclass_spec h0 w
  obtain ⟨t', k', g1, g2, g3, g4, -⟩ := Cond.instantiable_spec wk
  cases g0.symm.trans g1
  have g5 : k'.isInterface = false := by simp only [Bool.or_eq_false_iff] at g4; exact g4.1
  have ne := ids_ne h0 g0 hn
  refine ⟨c, t, h0, g0, ?_⟩
  show Z.vm.assignableAux (255 + 1) c t = false
  simp [Vm.assignableAux, ne, h2, g2, h5, g3, g5, Vm.isSubclass, n3]
/-- the road of a boolean answer -/
def BQ (P : Prop) (v : Option Value) : Prop := (v = some (.int 1) ∧ P) ∨ (v = some (.int 0) ∧ ¬ P)
theorem nar_b (x : Int32) : nar .byte (nar .byte x) = nar .byte x := by
  show (x.toInt8.toInt32).toInt8.toInt32 = x.toInt8.toInt32
  rw [Int8.toInt8_toInt32]
end Arrays
end Jvm.Own
namespace Jvm.Own
open Sem ClassFile Op Lib Jvm.Stand Jvm.Free Jvm.LawKit Jvm.RoadKit
section Wide
variable {p : Program} {l : Launch} {e : Env} {R : Room} {s : State} {m : MethodId} {args : Array Value} {below : List Frame} {meth : Method} {c : Code} {T : State} {locs : List Loc} {cells slots : Nat} {Z : State} {a0 : Array Value} {h h' : Heap} {G : Outcome → State → Prop} {pc pc' : Nat} {Ls : Array Slot} {st rest : List Value} {own text : String} {index k0 : Nat} {vm0 : Vm}
abbrev RetGW (s : State) (Q : Option Value → Heap → List Loc → Prop) (C S : Nat) (o : Outcome) (t : State) : Prop := ∃ v L, o = .returned v ∧ Q v t.heap L ∧ ReturnedEndW s o t L C S
abbrev MetW (l : Launch) (y : MethodName) (bytes : ByteArray) (maxL : Nat) (ret : Option FieldType) (ws : List Jvm.Cond) (rm : Room) (Z : State) (as' : Array Value) (h0 : Heap) (Q : Option Value → Heap → List Loc → Prop) : Prop :=
  MetFree l y (head1 (Jvm.Cond.code y bytes maxL ret :: ws) rm) (fun a U => a = as' ∧ Z.Warmed39 U.vm ∧ U.heap = h0) (fun _ _ _ _ _ => True) (fun _ U o U' => RetGW U Q rm.cells rm.slots o U')
theorem MetW.of {y : MethodName} {bytes : ByteArray} {maxL : Nat} {ret : Option FieldType} {ws : List Jvm.Cond} {rm : Room} {as' : Array Value} {h0 : Heap} {Q : Option Value → Heap → List Loc → Prop} (hpn : plainFor y = true) (hef : ∀ m, entryFrame m as' maxL = mkF m 0 Ls [])
    (body : ∀ (p : Program) (e : Env) (s : State) (m : MethodId) (below : List Frame) (meth : Method) (c : Code) (T : State), p.tables.exec = Jvm.exec → c.code = bytes → c.maxLocals = maxL → (s.setVm s.vm).vm.findClass y.cls = some m.cls → meth.name = y.name → meth.sig.returnType = ret → meth.locks = false → Z.Warmed39 (s.setVm s.vm).vm → Stand p l e rm (s.setVm s.vm) m as' below meth c T [] 0 0 → T.heap = h0 → s.heap = h0 → s.Since s.vm 0 →
      Go p e below T (mkF m 0 Ls []) (RetGW s Q rm.cells rm.slots)) : MetW l y bytes maxL ret ws rm Z as' h0 Q := by
  refine MetFree.of_bodySF hpn hisR ?_
  intro p e s m args below meth c s₁ Bd hml0 hP hK
  obtain ⟨rfl, hZ, hh⟩ := hP
  obtain ⟨s₂, o, h1, h2, h3, h4⟩ := body p e s m below meth c s₁ Bd.exec Bd.bytes hml0 (findClass_of_methodNamed Bd.named) (name_of_methodNamed Bd.named Bd.method).1 Bd.returns (BodyLoose.notSynchronized Bd) hZ (Stand.of_body Bd) (by rw [← hh, Bd.state]; rfl) hh (State.WarmedH.since (State.WarmedH.refl s) 0)
  exact ⟨s₂, o, castTop (hef m) h1, h2, h3, h4⟩
theorem Go.retW_n {Q : Option Value → Heap → List Loc → Prop} {C S : Nat} (X : Stand p l e R (s.setVm vm0) m args below meth c T locs cells slots) (hx : p.tables.exec = Jvm.exec) {t : FieldType} {z : Int32} (hS0 : s.Since vm0 k0) (hk : k0 ≤ T.heap.size) (hret : meth.sig.returnType = some t) (hlk : meth.locks = false) (ht : t = .boolean ∨ t = .byte ∨ t = .char ∨ t = .short) (hd : decode c.code pc = .ok (.ireturn, 1)) (hC : cells ≤ C) (hS : slots ≤ S) (hQ : Q (some (.int (nar t z))) T.heap locs) : Go p e below T (mkF m pc Ls (.int z :: rest)) (RetGW s Q C S) := by
  obtain ⟨fs, hr, hrun, hended, hW⟩ := X.leaveW hS0 hk (v := some (.int (nar t z))) (fun h => by rw [hret] at h; cases h) hlk
  exact ⟨_, _, retN X hx hret ht hd hr, hrun, hended, _, _, rfl, hQ, ⟨_, rfl⟩, hW.2.1, hW.2.2.1, hW.2.2.2.mono hC hS⟩
theorem Go.ldcS (X : Stand p l e R (s.setVm vm0) m args below meth c T locs cells slots) (hx : p.tables.exec = Jvm.exec) (hZ : Z.Warmed39 (s.setVm vm0).vm) (hown : (s.setVm vm0).vm.findClass own = some m.cls) (w : (Cond.stringLink own index text).before a0 Z = true) (wS : ∀ a ∈ Bundle.stringAtoms, a.before a0 Z = true) (eT : T.heap = h) (hS : s.Since vm0 k0) (hk : k0 ≤ h.size) (hd : decode c.code pc = .ok (.ldc index, 2)) {n : Nat} (hn : 4 * text.toList.length ≤ n) (hbig : n ≤ 536870912) (hc : cells + 2 ≤ R.cells) (hl : slots + (n + 4) ≤ R.slots)
    (k : ∀ a T' h' k1, Stand p l e R (s.setVm T'.vm) m args below meth c T' locs (cells + 2) (slots + (n + 4)) → T'.heap = h' → Ext h h' → s.Since T'.vm k1 → k1 ≤ h'.size → Z.Warmed39 (s.setVm T'.vm).vm → (s.setVm T'.vm).vm.findClass own = some m.cls → Go p e below T' (mkF m (pc + 2) Ls (.ref a :: st)) G) : Go p e below T (mkF m pc Ls st) G := by
  obtain ⟨a, T', h', k1, X', e', E, hS', hk', hZ', hown', f⟩ := RoadKit.ldcS X hx hZ hown w wS eT hS hk (g := mkF m pc Ls st) rfl hd hn hbig hc hl
  exact (k a T' h' k1 X' e' E hS' hk' hZ' hown').via f
theorem atomsS {f : Jvm.Cond → Prop} (h : f (.initialized "java/lang/String") ∧ f (.instantiable "java/lang/String" 4) ∧ f (.arrayClass .byte) ∧ f (.laysFinal "java/lang/String" "java/lang/String" "value" "[B") ∧ f (.laysFinal "java/lang/String" "java/lang/String" "coder" "B") ∧ f (.soleField "java/lang/String" "value") ∧ f (.soleField "java/lang/String" "coder")) : ∀ a ∈ Bundle.stringAtoms, f a := by
  intro a ha
  simp only [Bundle.stringAtoms, Bundle.sN, List.mem_cons, List.not_mem_nil, or_false] at ha
  obtain ⟨h1, h2, h3, h4, h5, h6, h7⟩ := h
  rcases ha with rfl | rfl | rfl | rfl | rfl | rfl | rfl <;> assumption
end Wide
end Jvm.Own
namespace Jvm.Own
open Sem ClassFile Op Lib Jvm.Stand Jvm.Free Jvm.LawKit Jvm.RoadKit
section Strs
variable {p : Program} {l : Launch} {e : Env} {R : Room} {s : State} {m : MethodId} {args : Array Value} {below : List Frame} {meth : Method} {c : Code} {T : State} {locs : List Loc} {cells slots : Nat} {Z : State} {a0 : Array Value} {h h' : Heap} {G : Outcome → State → Prop} {pc pc' : Nat} {Ls : Array Slot} {st rest : List Value} {own text : String} {index k0 : Nat} {vm0 : Vm}
variable {a b : Addr} {kk k1 k2 : ClassId} {ty t1 t2 : FieldType} {n n1 n2 i : Nat} {f f1 f2 : Nat → Value} {j x : Int32} {v w : Value}
theorem Fld.one {C nm d : String} (F : Fld Z h a C nm d v) (F' : Fld Z h a C nm d w) : v = w := Classical.byContradiction fun q => Fld.ne F F' q rfl
theorem AV.one (A : AV Z h a k1 t1 n1 f1) (B : AV Z h a k2 t2 n2 f2) : n1 = n2 ∧ ∀ i, i < n1 → f1 i = f2 i := by
  obtain ⟨c, A, r1, r2, r3, r4, r5⟩ := A
  obtain ⟨c', B, q1, q2, q3, q4, q5⟩ := B
  cases A.1.symm.trans B.1
  refine ⟨r2.symm.trans q2, fun i hi => ?_⟩
  exact Option.some.inj ((r4 i hi).symm.trans (q4 i (by omega)))
theorem AV.of_arv {z : Int32} {vs : List Value} {dv : Value} (F : Arv Z h a kk ty z vs dv) (hz : z.toInt = (n : Int)) : AV Z h a kk ty n (fun i => vs.getD i dv) := by
  obtain ⟨c, A, r1, r2, r3, H, Gf⟩ := F
  have q := (ix_nat hz).2
  refine ⟨c, A, r1, r2.trans q, by have := z.toInt_lt; omega, fun i hi => H i (by omega), fun i hi => Gf i (by omega)⟩
theorem AV.arv (F : AV Z h a kk ty n f) {z : Int32} (hz : z.toInt = (n : Int)) (dv : Value) : Arv Z h a kk ty z ((List.range n).map f) dv := by
  obtain ⟨c, A, r1, r2, r3, r4, r5⟩ := F
  have q := ix_nat hz
  refine ⟨c, A, r1, r2.trans q.2.symm, q.1, fun i hi => ?_, fun i hi => ?_⟩
  · rw [r4 i (by omega)]; simp [List.getD_eq_getElem?_getD, show i < n by omega]
  · have := r5 i (by omega); simpa [List.getD_eq_getElem?_getD, show i < n by omega] using this
theorem av_start {t : Term} {z : Int32} (hf : Fit s) (ev : t.eval args s none [] s = some (.ref b)) (wa : (Cond.arrayOf t ty).value args s none s [] = some true) (wl : (Cond.eq (.length t) (.int z)).value args s none s [] = some true) (hz : z.toInt = (n : Int)) :
    ∃ kk f, AV s s.heap b kk ty n f ∧ ∀ (j x : Int32) (i : Nat), (Cond.eq (.elem t (.int j)) (.int x)).value args s none s [] = some true → j.toInt = (i : Int) → f i = .int x := by
  obtain ⟨cl, A⟩ := Arr.start ev wa
  have hlen := Cond.eq_int (Cond.before_iff.mpr wl) rfl
  have hA := A.fin (Vm.Alike.refl _)
  have h31 := Free.SBG.length_lt ev hA hlen
  have hsz : cl.slots.size.toInt32 = z := Value.int.inj (Option.some.inj ((len_f ev hA h31).symm.trans hlen))
  have hn : cl.slots.size = n := by have := len_toInt h31; rw [hsz, hz] at this; omega
  refine ⟨cl.cls, fun i => (cl.slots[i]?).getD .null, ⟨cl, A, rfl, hn, by omega, fun i hi => ?_, fun i hi => ?_⟩, fun j x i we hj => ?_⟩
  · simp [show i < cl.slots.size by omega]
  · have e1 : (Nat.toInt32 i).toNatClampNeg = i := by simp only [Int32.toNatClampNeg, len_toInt (show i < 2 ^ 31 by omega)]; rfl
    exact elem_fits (j := Nat.toInt32 i) hf A (idx_in (by omega) h31) (by rw [e1]; simp [show i < cl.slots.size by omega])
  · have q := Cond.eq_int (Cond.before_iff.mpr we) rfl
    have r := elem_in q ev rfl A.1
    rw [(ix_nat hj).2] at r
    show (cl.slots[i]?).getD .null = _
    rw [r.2]; rfl
/-- the law's own contract: its start is the case's -/
abbrev MetL (l : Launch) (y : MethodName) (bytes : ByteArray) (maxL : Nat) (ret : Option FieldType) (ws : List Jvm.Cond) (rm : Room) (Z : State) (as' : Array Value) (h0 : Heap) (Q : Option Value → Heap → List Loc → Prop) : Prop :=
  MetFree l y (head1 (Jvm.Cond.code y bytes maxL ret :: ws) rm) (fun a U => a = as' ∧ U = Z ∧ U.heap = h0) (fun _ _ _ _ _ => True) (fun _ U o U' => RetGW U Q rm.cells rm.slots o U')
theorem MetL.of {y : MethodName} {bytes : ByteArray} {maxL : Nat} {ret : Option FieldType} {ws : List Jvm.Cond} {rm : Room} {as' : Array Value} {h0 : Heap} {Q : Option Value → Heap → List Loc → Prop} (hpn : plainFor y = true) (hef : ∀ m, entryFrame m as' maxL = mkF m 0 Ls [])
    (body : ∀ (p : Program) (e : Env) (s : State) (m : MethodId) (below : List Frame) (meth : Method) (c : Code) (T : State), p.tables.exec = Jvm.exec → c.code = bytes → c.maxLocals = maxL → (s.setVm s.vm).vm.findClass y.cls = some m.cls → meth.name = y.name → meth.sig.returnType = ret → meth.locks = false → Z.Warmed39 (s.setVm s.vm).vm → Stand p l e rm (s.setVm s.vm) m as' below meth c T [] 0 0 → T.heap = h0 → s.heap = h0 → s.Since s.vm 0 → s = Z →
      Go p e below T (mkF m 0 Ls []) (RetGW s Q rm.cells rm.slots)) : MetL l y bytes maxL ret ws rm Z as' h0 Q := by
  refine MetFree.of_bodySF hpn hisR ?_
  intro p e s m args below meth c s₁ Bd hml0 hP hK
  obtain ⟨rfl, hZ, hh⟩ := hP
  obtain ⟨s₂, o, h1, h2, h3, h4⟩ := body p e s m below meth c s₁ Bd.exec Bd.bytes hml0 (findClass_of_methodNamed Bd.named) (name_of_methodNamed Bd.named Bd.method).1 Bd.returns (BodyLoose.notSynchronized Bd) (by rw [hZ]; exact State.Warmed39.refl _) (Stand.of_body Bd) (by rw [← hh, Bd.state]; rfl) hh (State.WarmedH.since (State.WarmedH.refl s) 0) hZ
  exact ⟨s₂, o, castTop (hef m) h1, h2, h3, h4⟩
/-- ldc of a String constant, read -/
theorem Go.ldcV {Ts : List String} (X : Stand p l e R (s.setVm vm0) m args below meth c T locs cells slots) (hx : p.tables.exec = Jvm.exec) (hZ : Z.Warmed39 (s.setVm vm0).vm) (hown : (s.setVm vm0).vm.findClass own = some m.cls) (w : (Cond.stringLink own index text).before a0 Z = true) (wS : ∀ a ∈ Bundle.stringAtoms, a.before a0 Z = true) (eT : T.heap = h) (hS : s.Since vm0 k0) (hk : k0 ≤ h.size) (N : Fr s.heap.size locs) (hs : s = Z) (Ib : IB Z vm0 Ts) (hnot : text ∉ Ts) (hh : Jvm.Lit.constHeld Z own index) (hcw : Jvm.Lit.compactW.before a0 Z = true)
    {vs : List Value} {z : Int32} (ht : (∀ c ∈ text.toList, c.toNat < 256) ∧ text.toList.map (fun c => Value.int (Jvm.Lit.byteI c.toNat.toUInt16)) = vs) (hz : z.toInt = (n : Int)) (hl : n = vs.length) (hd : decode c.code pc = .ok (.ldc index, 2)) {cap : Nat} (hn : 4 * text.toList.length ≤ cap) (hbig : cap ≤ 536870912) (hc : cells + 2 ≤ R.cells) (hl' : slots + (cap + 4) ≤ R.slots)
    (k : ∀ a T' h' k1 b kk, Stand p l e R (s.setVm T'.vm) m args below meth c T' locs (cells + 2) (slots + (cap + 4)) → T'.heap = h' → Ext h h' → s.Since T'.vm k1 → k1 ≤ h'.size → Z.Warmed39 (s.setVm T'.vm).vm → (s.setVm T'.vm).vm.findClass own = some m.cls →
      Exa Z h' a "java/lang/String" → Fld Z h' a "java/lang/String" "coder" "B" (.int 0) → Fld Z h' a "java/lang/String" "value" "[B" (.ref b) → AV Z h' b kk .byte n (fun i => vs.getD i (.int 0)) → IB Z T'.vm (text :: Ts) → Go p e below T' (mkF m (pc + 2) Ls (.ref a :: st)) G) : Go p e below T (mkF m pc Ls st) G := by
  obtain ⟨a, T', h', k1, b, kk, X', e', E, hS', hk', hZ', hown', E1, F1, F2, A1, -, -, I', -, f⟩ := ldcSVL X hx hZ hown w wS eT hS hk N (fun b cl q => by rw [hs]; exact q) Ib hnot hh hcw ht (ix_nat hz).1 ((ix_nat hz).2.trans hl) (g := mkF m pc Ls st) rfl hd hn hbig hc hl'
  exact (k a T' h' k1 b kk X' e' E hS' hk' hZ' hown' E1 F1 F2 (AV.of_arv A1 hz) I').via f
end Strs
end Jvm.Own
namespace Jvm.Own
open Sem ClassFile Op Lib Jvm.Stand Jvm.Free Jvm.LawKit Jvm.RoadKit
section More
variable {p : Program} {l : Launch} {e : Env} {R : Room} {s : State} {m : MethodId} {args : Array Value} {below : List Frame} {meth : Method} {c : Code} {T : State} {locs : List Loc} {cells slots : Nat} {Z : State} {a0 : Array Value} {h h' : Heap} {G : Outcome → State → Prop} {pc pc' : Nat} {Ls : Array Slot} {st rest : List Value} {own text : String} {index k0 : Nat}
variable {y : MethodName} {bytes : ByteArray} {maxL : Nat} {ret : Option FieldType} {rm : Room} {Q : Option Value → Heap → List Loc → Prop} {argsL : List Value} {ps : List FieldType} {r : Option FieldType} {mx W n : Nat} {a b : Addr} {C : String}
/-- a private method by its contract -/
theorem Go.callP (X : Stand p l e R s m args below meth c T locs cells slots) (hx : p.tables.exec = Jvm.exec) (hZ : Z.Warmed39 s.vm) (hown : s.vm.findClass own = some m.cls) (w1 : (Cond.methodLink own index y).before a0 Z = true) (w2 : (Cond.instanceMethod y).before a0 Z = true) (w3 : (Cond.privateMethod y).before a0 Z = true) (w4 : (Cond.instantiable y.cls n).before a0 Z = true) (w5 : (Cond.code y bytes maxL ret).before a0 Z = true) (w6 : (Cond.initialized y.cls).before a0 Z = true)
    (hy : y.cls ≠ "java/lang/invoke/MethodHandle" ∧ y.cls ≠ "java/lang/invoke/VarHandle") (eT : T.heap = h) (E : Exa Z h a C) (hM : Met l y bytes maxL ret [] rm Z (.ref a :: argsL).toArray h Q) (hml : c.maxLocals = mx) (hsz : Ls.size = mx) (pd : parseMethodDescriptor y.desc = some ⟨ps, r⟩) (hlen : argsL.length = ps.length) (hs : st = argsL.reverse ++ .ref a :: rest) (hW : (rest.map fun v => v.category).sum ≤ W)
    (hf : rm.frames + 1 ≤ R.frames) (hl : W + (maxL + 11) + rm.locals ≤ R.locals) (hc : cells + rm.cells ≤ R.cells) (hsl : slots + rm.slots ≤ R.slots) (hd : decode c.code pc = .ok (.invokevirtual index, 3))
    (k : ∀ v T' L, Stand p l e R s m args below meth c T' (locs ++ L) (cells + rm.cells) (slots + rm.slots) → Q v T'.heap L → Go p e below T' (mkF m (pc + 3) Ls (v.toList ++ rest)) G) : Go p e below T (mkF m pc Ls st) G := by
  obtain ⟨cl, q1, q2⟩ := E.cell
  have hp : s.PrivateAt y := Cond.privateMethod_at (mvP hZ w3 (args := #[]))
  obtain ⟨ci, ki, i1, i2, i3, i4, -⟩ := Cond.instantiable_spec (mvT (args := args) hZ w4)
  have i5 : ki.isInterface = false := by simp only [Bool.or_eq_false_iff] at i4; exact i4.1
  obtain ⟨v, vm₁, ⟨T', L', k', n'⟩, -, X', ⟨Lc, hQ, l1, y1, z1⟩, f⟩ := X.privateBack hx hown (mvT hZ w1) (mvT hZ w2) (selects_self_of_private i1 i2 i5 hp (mvT hZ w2) hy) hp (mvT hZ w5) hy (backOf (W := W) hM hZ w5 w6 hf hl) (g := mkF m pc Ls st) rfl (hsz.trans hml.symm) (Steps.refl _) (a := a) (by rw [eT]; exact q1) q2 (argsL := argsL) (rest := rest) (lenOf pd hlen) hs (by show 2 * 0 + _ ≤ _; omega) hd (fun _ _ => ⟨rfl, eT, hc, hsl⟩)
  dsimp only [Pt.U, Pt.locs, Pt.cells, Pt.slots] at X' l1 y1 z1 f hQ
  subst l1 y1 z1
  exact (k v T' Lc X' hQ).via fun t q => f.trans q
theorem getD_app3 {A B D : List Value} {d : Value} {i : Nat} : (A ++ B ++ D).getD i d = if i < A.length then A.getD i d else if i < A.length + B.length then B.getD (i - A.length) d else D.getD (i - A.length - B.length) d := by
  simp only [List.getD_eq_getElem?_getD]
  split
  · rename_i q; rw [List.getElem?_append_left (by rw [List.length_append]; omega), List.getElem?_append_left q]
  · rename_i q
    split
    · rename_i r; rw [List.getElem?_append_left (by rw [List.length_append]; omega), List.getElem?_append_right (by omega)]
    · rename_i r; rw [List.getElem?_append_right (by rw [List.length_append]; omega), List.length_append]; congr 2; omega
theorem getD_rm {f : Nat → Value} {n i : Nat} {d : Value} (hi : i < n) : ((List.range n).map f).getD i d = f i := by
  simp [List.getD_eq_getElem?_getD, hi]
/-- System.arraycopy of plain components -/
theorem Go.acopy (X : Stand p l e R s m args below meth c T locs cells slots) (hx : p.tables.exec = Jvm.exec) (hZ : Z.Warmed39 s.vm) (hown : s.vm.findClass own = some m.cls) (w1 : (Cond.methodLink own index Jvm.Stand.acN).before a0 Z = true) (w2 : (Cond.native Jvm.Stand.acN).before a0 Z = true) (w3 : (Cond.static Jvm.Stand.acN).before a0 Z = true) (w4 : (Cond.initialized "java/lang/System").before a0 Z = true) (eT : T.heap = h)
    {k1 k2 : ClassId} {ty : FieldType} {n1 n2 i1 i2 cnt n0 : Nat} {f1 f2 : Nat → Value} {sp dp nn : Int32} (A : AV Z h a k1 ty n1 f1) (B : AV Z h b k2 ty n2 f2) (hp : refKind ty = false) (hsp : sp.toInt = (i1 : Int)) (hdp : dp.toInt = (i2 : Int)) (hnn : nn.toInt = (cnt : Int)) (h4 : i1 + cnt ≤ n1) (h5 : i2 + cnt ≤ n2) (N : Fr n0 locs) (ge : n0 ≤ b)
    (hml : c.maxLocals = mx) (hsz : Ls.size = mx) (hd : decode c.code pc = .ok (.invokestatic index, 3)) (hf : 1 ≤ R.frames) (hW : (st.map fun v => v.category).sum ≤ W) (hlo : W + 18 ≤ R.locals)
    (k : ∀ T' h' L, Stand p l e R s m args below meth c T' L cells slots → T'.heap = h' → Fr n0 L → Keep h h' [b] → AV Z h' b k2 ty n2 (fun i => if i2 ≤ i ∧ i < i2 + cnt then f1 (i1 + (i - i2)) else f2 i) → Go p e below T' (mkF m (pc + 3) Ls st) G) : Go p e below T (mkF m pc Ls (.int nn :: .int dp :: .ref b :: .int sp :: .ref a :: st)) G := by
  have zA : (Nat.toInt32 n1).toInt = (n1 : Int) := by obtain ⟨_, -, -, -, q, -⟩ := A; exact len_toInt q
  have zB : (Nat.toInt32 n2).toInt = (n2 : Int) := by obtain ⟨_, -, -, -, q, -⟩ := B; exact len_toInt q
  obtain ⟨s1, s2⟩ := ix_nat hsp; obtain ⟨d1, d2⟩ := ix_nat hdp; obtain ⟨c1, c2⟩ := ix_nat hnn; obtain ⟨-, a2⟩ := ix_nat zA; obtain ⟨-, b2⟩ := ix_nat zB
  obtain ⟨T', h', L, X', e', N', K, B', f⟩ := cpA X hx hZ hown w1 w2 w3 w4 eT (A.arv zA (.int 0)) (B.arv zB (.int 0)) (Or.inl ⟨rfl, hp⟩) s1 d1 c1 (by rw [s2, c2, a2]; exact h4) (by rw [d2, c2, b2]; exact h5) rfl (by rw [d2, c2]; simpa using h5) N ge (g := mkF m pc Ls (.int nn :: .int dp :: .ref b :: .int sp :: .ref a :: st)) rfl (hsz.trans hml.symm) rfl hd hf (W := W) (by show 2 * 0 + _ ≤ _; omega) hlo
  refine (k T' h' L X' e' N' K ((AV.of_arv B' zB).cong fun i hi => ?_)).via f
  rw [s2, d2, c2, getD_app3]
  have l1 : (((List.range n2).map f2).take i2).length = i2 := by simp; omega
  have l2 : ((List.range cnt).map fun i => ((List.range n1).map f1).getD (i1 + i) (.int 0)).length = cnt := by simp
  rw [l1, l2]
  by_cases q : i < i2
  · rw [if_pos q, if_neg (by omega)]
    simp only [List.getD_eq_getElem?_getD, List.getElem?_take, if_pos q]
    simp [hi]
  · rw [if_neg q]
    by_cases q2 : i < i2 + cnt
    · rw [if_pos q2, if_pos ⟨by omega, q2⟩, getD_rm (by omega), getD_rm (by omega)]
    · rw [if_neg q2, if_neg (by omega)]
      simp only [List.getD_eq_getElem?_getD, List.getElem?_drop]
      rw [show i2 + cnt + (i - i2 - cnt) = i by omega]
      simp [hi]
end More
end Jvm.Own
namespace Jvm.Pilot.@@N@@
open Jvm Jvm.ClassFile Sem Op Lib Jvm.Free Jvm.Stand Jvm.LawKit Jvm.RoadKit Jvm.Own Bundle Jvm.Pilot.@@N@@.Jvm.D
theorem hwi {a0 : Array Value} {Z : State} (hw : ∀ d ∈ tables_1, d.before a0 Z = true) (i : Nat) {d : Jvm.Cond} (h : tables_1[i]? = some d) : d.before a0 Z = true := hw _ (List.mem_of_getElem? h)
def Ty (Z : State) (h : Heap) (b0 b1 b2 b3 b4 : Addr) : Prop := Sta Z h "com/example/fylgja/fylgja/Type" "BOOLEAN" "Lcom/example/fylgja/fylgja/Type;" (.ref b0) ∧ Sta Z h "com/example/fylgja/fylgja/Type" "INTEGER" "Lcom/example/fylgja/fylgja/Type;" (.ref b1) ∧ Sta Z h "com/example/fylgja/fylgja/Type" "STRING" "Lcom/example/fylgja/fylgja/Type;" (.ref b2) ∧ Sta Z h "com/example/fylgja/fylgja/Type" "INTEGER_LIST" "Lcom/example/fylgja/fylgja/Type;" (.ref b3) ∧ Sta Z h "com/example/fylgja/fylgja/Type" "STRING_LIST" "Lcom/example/fylgja/fylgja/Type;" (.ref b4) ∧ Exa Z h b0 "com/example/fylgja/fylgja/Type" ∧ Exa Z h b1 "com/example/fylgja/fylgja/Type" ∧ Exa Z h b2 "com/example/fylgja/fylgja/Type" ∧ Exa Z h b3 "com/example/fylgja/fylgja/Type" ∧ Exa Z h b4 "com/example/fylgja/fylgja/Type" ∧ b1 ≠ b0 ∧ b2 ≠ b0 ∧ b2 ≠ b1 ∧ b3 ≠ b0 ∧ b3 ≠ b1 ∧ b3 ≠ b2 ∧ b4 ≠ b0 ∧ b4 ≠ b1 ∧ b4 ≠ b2 ∧ b4 ≠ b3
theorem d1_0 : decode method_2_code 0 = .ok (.iload_n 0, 1) := by decide +kernel
theorem d1_1 : decode method_2_code 1 = .ok (.ifCond .ne 7, 3) := by decide +kernel
theorem d1_4 : decode method_2_code 4 = .ok (.getstatic 7, 3) := by decide +kernel
theorem d1_7 : decode method_2_code 7 = .ok (.areturn, 1) := by decide +kernel
theorem d1_8 : decode method_2_code 8 = .ok (.iload_n 0, 1) := by decide +kernel
theorem d1_9 : decode method_2_code 9 = .ok (.iconst 1, 1) := by decide +kernel
theorem d1_10 : decode method_2_code 10 = .ok (.if_icmp .ne 7, 3) := by decide +kernel
theorem d1_13 : decode method_2_code 13 = .ok (.getstatic 13, 3) := by decide +kernel
theorem d1_16 : decode method_2_code 16 = .ok (.areturn, 1) := by decide +kernel
theorem d1_17 : decode method_2_code 17 = .ok (.iload_n 0, 1) := by decide +kernel
theorem d1_18 : decode method_2_code 18 = .ok (.iconst 2, 1) := by decide +kernel
theorem d1_19 : decode method_2_code 19 = .ok (.if_icmp .ne 7, 3) := by decide +kernel
theorem d1_22 : decode method_2_code 22 = .ok (.getstatic 16, 3) := by decide +kernel
theorem d1_25 : decode method_2_code 25 = .ok (.areturn, 1) := by decide +kernel
theorem d1_26 : decode method_2_code 26 = .ok (.iload_n 0, 1) := by decide +kernel
theorem d1_27 : decode method_2_code 27 = .ok (.iconst 3, 1) := by decide +kernel
theorem d1_28 : decode method_2_code 28 = .ok (.if_icmp .ne 7, 3) := by decide +kernel
theorem d1_31 : decode method_2_code 31 = .ok (.getstatic 19, 3) := by decide +kernel
theorem d1_34 : decode method_2_code 34 = .ok (.areturn, 1) := by decide +kernel
theorem d1_35 : decode method_2_code 35 = .ok (.getstatic 22, 3) := by decide +kernel
theorem d1_38 : decode method_2_code 38 = .ok (.areturn, 1) := by decide +kernel
theorem d2_0 : decode prog_124_method_6_code 0 = .ok (.aload_n 0, 1) := by decide +kernel
theorem d2_1 : decode prog_124_method_6_code 1 = .ok (.getstatic 7, 3) := by decide +kernel
theorem d2_4 : decode prog_124_method_6_code 4 = .ok (.if_acmp .ne 10, 3) := by decide +kernel
theorem d2_7 : decode prog_124_method_6_code 7 = .ok (.getstatic 13, 3) := by decide +kernel
theorem d2_10 : decode prog_124_method_6_code 10 = .ok (.astore_n 1, 1) := by decide +kernel
theorem d2_11 : decode prog_124_method_6_code 11 = .ok (.goto 34, 3) := by decide +kernel
theorem d2_14 : decode prog_124_method_6_code 14 = .ok (.aload_n 0, 1) := by decide +kernel
theorem d2_15 : decode prog_124_method_6_code 15 = .ok (.getstatic 10, 3) := by decide +kernel
theorem d2_18 : decode prog_124_method_6_code 18 = .ok (.if_acmp .ne 10, 3) := by decide +kernel
theorem d2_21 : decode prog_124_method_6_code 21 = .ok (.getstatic 16, 3) := by decide +kernel
theorem d2_24 : decode prog_124_method_6_code 24 = .ok (.astore_n 1, 1) := by decide +kernel
theorem d2_25 : decode prog_124_method_6_code 25 = .ok (.goto 20, 3) := by decide +kernel
theorem d2_28 : decode prog_124_method_6_code 28 = .ok (.new 42, 3) := by decide +kernel
theorem d2_31 : decode prog_124_method_6_code 31 = .ok (.dup, 1) := by decide +kernel
theorem d2_32 : decode prog_124_method_6_code 32 = .ok (.aload_n 0, 1) := by decide +kernel
theorem d2_33 : decode prog_124_method_6_code 33 = .ok (.invokestatic 44, 3) := by decide +kernel
theorem d2_41 : decode prog_124_method_6_code 41 = .ok (.invokespecial 53, 3) := by decide +kernel
theorem d2_44 : decode prog_124_method_6_code 44 = .ok (.athrow, 1) := by decide +kernel
theorem d2_45 : decode prog_124_method_6_code 45 = .ok (.aload_n 1, 1) := by decide +kernel
theorem d2_46 : decode prog_124_method_6_code 46 = .ok (.areturn, 1) := by decide +kernel
theorem d3_0 : decode prog_124_method_4_code 0 = .ok (.aload_n 0, 1) := by decide +kernel
theorem d3_1 : decode prog_124_method_4_code 1 = .ok (.getstatic 13, 3) := by decide +kernel
theorem d3_4 : decode prog_124_method_4_code 4 = .ok (.if_acmp .eq 10, 3) := by decide +kernel
theorem d3_7 : decode prog_124_method_4_code 7 = .ok (.aload_n 0, 1) := by decide +kernel
theorem d3_8 : decode prog_124_method_4_code 8 = .ok (.getstatic 16, 3) := by decide +kernel
theorem d3_11 : decode prog_124_method_4_code 11 = .ok (.if_acmp .ne 7, 3) := by decide +kernel
theorem d3_14 : decode prog_124_method_4_code 14 = .ok (.iconst 1, 1) := by decide +kernel
theorem d3_15 : decode prog_124_method_4_code 15 = .ok (.goto 4, 3) := by decide +kernel
theorem d3_18 : decode prog_124_method_4_code 18 = .ok (.iconst 0, 1) := by decide +kernel
theorem d3_19 : decode prog_124_method_4_code 19 = .ok (.ireturn, 1) := by decide +kernel
theorem d4_0 : decode prog_124_method_5_code 0 = .ok (.aload_n 0, 1) := by decide +kernel
theorem d4_1 : decode prog_124_method_5_code 1 = .ok (.getstatic 13, 3) := by decide +kernel
theorem d4_4 : decode prog_124_method_5_code 4 = .ok (.if_acmp .ne 10, 3) := by decide +kernel
theorem d4_7 : decode prog_124_method_5_code 7 = .ok (.getstatic 7, 3) := by decide +kernel
theorem d4_10 : decode prog_124_method_5_code 10 = .ok (.astore_n 1, 1) := by decide +kernel
theorem d4_11 : decode prog_124_method_5_code 11 = .ok (.goto 34, 3) := by decide +kernel
theorem d4_14 : decode prog_124_method_5_code 14 = .ok (.aload_n 0, 1) := by decide +kernel
theorem d4_15 : decode prog_124_method_5_code 15 = .ok (.getstatic 16, 3) := by decide +kernel
theorem d4_18 : decode prog_124_method_5_code 18 = .ok (.if_acmp .ne 10, 3) := by decide +kernel
theorem d4_21 : decode prog_124_method_5_code 21 = .ok (.getstatic 10, 3) := by decide +kernel
theorem d4_24 : decode prog_124_method_5_code 24 = .ok (.astore_n 1, 1) := by decide +kernel
theorem d4_25 : decode prog_124_method_5_code 25 = .ok (.goto 20, 3) := by decide +kernel
theorem d4_28 : decode prog_124_method_5_code 28 = .ok (.new 42, 3) := by decide +kernel
theorem d4_31 : decode prog_124_method_5_code 31 = .ok (.dup, 1) := by decide +kernel
theorem d4_32 : decode prog_124_method_5_code 32 = .ok (.aload_n 0, 1) := by decide +kernel
theorem d4_33 : decode prog_124_method_5_code 33 = .ok (.invokestatic 44, 3) := by decide +kernel
theorem d4_41 : decode prog_124_method_5_code 41 = .ok (.invokespecial 53, 3) := by decide +kernel
theorem d4_44 : decode prog_124_method_5_code 44 = .ok (.athrow, 1) := by decide +kernel
theorem d4_45 : decode prog_124_method_5_code 45 = .ok (.aload_n 1, 1) := by decide +kernel
theorem d4_46 : decode prog_124_method_5_code 46 = .ok (.areturn, 1) := by decide +kernel
def Qpk0 (Z : State) (b0 b1 b2 b3 b4 : Addr) (h0 : Heap) (n0 : Nat) (v : Option Value) (h : Heap) (L : List Loc) : Prop := v = some (.ref b0) ∧ Fr n0 L ∧ h = h0
set_option maxRecDepth 65536 in
set_option maxHeartbeats 40000000 in
theorem rmpk0 (l : Launch) (Z : State) (a0 : Array Value) (hw : ∀ d ∈ tables_1, d.before a0 Z = true) (b0 b1 b2 b3 b4 : Addr) (h0 : Heap) (n0 : Nat) (Z0 : n0 ≤ h0.size) (ty : Ty Z h0 b0 b1 b2 b3 b4) :
    Met l (⟨"com/example/fylgja/fylgja/TypeIsListPinLaw", "pick", "(I)Lcom/example/fylgja/fylgja/Type;"⟩ : MethodName) method_2_code 1 (some (.object "com/example/fylgja/fylgja/Type")) [] ({ frames := 0, cells := 0, slots := 0, locals := 0 } : Room) Z #[(.int (0 : Int32))] h0 (Qpk0 Z b0 b1 b2 b3 b4 h0 n0) := by
  refine Met.of (Ls := #[.val (.int (0 : Int32))]) (by first | exact plainFor_of_name (by first | (simp [plainName, overriddenIn]; done) | decide +kernel) | decide +kernel) (fun m => by first | (simp [entryFrame, mkF, argsToLocals, Value.category]; done) | rfl) ?_
  intro p e s m below meth c T0 hx hby hml hown hnm hret hlk hZ X0 e0
  have N0 := Fr.nil n0
  show Go p e below T0 (mkF m 0 #[.val (.int (0 : Int32))] []) _
  obtain ⟨S0, S1, S2, S3, S4, E0, E1, E2, E3, E4, ne10, ne20, ne21, ne30, ne31, ne32, ne40, ne41, ne42, ne43⟩ := ty
  refine Go.iload_n X0 hx (hb hby d1_0) rfl ?_
  show Go p e below T0 (mkF m 1 #[.val (.int (0 : Int32))] [(.int (0 : Int32))]) _
  refine Go.ifc X0 hx (hb hby d1_1) (pc' := 8) (by decide) (iz_ne _) (fun c1 => ?_) (fun c1 => ?_)
  · exact absurd c1 (by decide)
  replace c1 := Decidable.not_not.mp c1
  show Go p e below T0 (mkF m 4 #[.val (.int (0 : Int32))] []) _
  refine Go.getS X0 hx hZ hown (hwi hw 5 rfl) e0 S0 (hb hby d1_4) ?_
  intro T1 X1 e1
  show Go p e below T1 (mkF m 7 #[.val (.int (0 : Int32))] [(.ref b0)]) _
  refine Go.ret_a X1 hx hret hlk rfl rfl rfl (hb hby d1_7) (by decide) (by decide) ?_
  rw [e1]
  exact ⟨rfl, N0, rfl⟩
def Qpk1 (Z : State) (b0 b1 b2 b3 b4 : Addr) (h0 : Heap) (n0 : Nat) (v : Option Value) (h : Heap) (L : List Loc) : Prop := v = some (.ref b1) ∧ Fr n0 L ∧ h = h0
set_option maxRecDepth 65536 in
set_option maxHeartbeats 40000000 in
theorem rmpk1 (l : Launch) (Z : State) (a0 : Array Value) (hw : ∀ d ∈ tables_1, d.before a0 Z = true) (b0 b1 b2 b3 b4 : Addr) (h0 : Heap) (n0 : Nat) (Z0 : n0 ≤ h0.size) (ty : Ty Z h0 b0 b1 b2 b3 b4) :
    Met l (⟨"com/example/fylgja/fylgja/TypeIsListPinLaw", "pick", "(I)Lcom/example/fylgja/fylgja/Type;"⟩ : MethodName) method_2_code 1 (some (.object "com/example/fylgja/fylgja/Type")) [] ({ frames := 0, cells := 0, slots := 0, locals := 0 } : Room) Z #[(.int (1 : Int32))] h0 (Qpk1 Z b0 b1 b2 b3 b4 h0 n0) := by
  refine Met.of (Ls := #[.val (.int (1 : Int32))]) (by first | exact plainFor_of_name (by first | (simp [plainName, overriddenIn]; done) | decide +kernel) | decide +kernel) (fun m => by first | (simp [entryFrame, mkF, argsToLocals, Value.category]; done) | rfl) ?_
  intro p e s m below meth c T0 hx hby hml hown hnm hret hlk hZ X0 e0
  have N0 := Fr.nil n0
  show Go p e below T0 (mkF m 0 #[.val (.int (1 : Int32))] []) _
  obtain ⟨S0, S1, S2, S3, S4, E0, E1, E2, E3, E4, ne10, ne20, ne21, ne30, ne31, ne32, ne40, ne41, ne42, ne43⟩ := ty
  refine Go.iload_n X0 hx (hb hby d1_0) rfl ?_
  show Go p e below T0 (mkF m 1 #[.val (.int (1 : Int32))] [(.int (1 : Int32))]) _
  refine Go.ifc X0 hx (hb hby d1_1) (pc' := 8) (by decide) (iz_ne _) (fun c1 => ?_) (fun c1 => ?_)
  rotate_left
  · exact absurd (by decide) c1
  show Go p e below T0 (mkF m 8 #[.val (.int (1 : Int32))] []) _
  refine Go.iload_n X0 hx (hb hby d1_8) rfl ?_
  show Go p e below T0 (mkF m 9 #[.val (.int (1 : Int32))] [(.int (1 : Int32))]) _
  refine Go.iconst X0 hx (hb hby d1_9) ?_
  show Go p e below T0 (mkF m 10 #[.val (.int (1 : Int32))] [(.int (1 : Int32)), (.int (1 : Int32))]) _
  refine Go.icmp X0 hx (hb hby d1_10) (pc' := 17) (by decide) (ic_ne _ _) (fun c10 => ?_) (fun c10 => ?_)
  · exact absurd c10 (by decide)
  replace c10 := Decidable.not_not.mp c10
  show Go p e below T0 (mkF m 13 #[.val (.int (1 : Int32))] []) _
  refine Go.getS X0 hx hZ hown (hwi hw 8 rfl) e0 S1 (hb hby d1_13) ?_
  intro T1 X1 e1
  show Go p e below T1 (mkF m 16 #[.val (.int (1 : Int32))] [(.ref b1)]) _
  refine Go.ret_a X1 hx hret hlk rfl rfl rfl (hb hby d1_16) (by decide) (by decide) ?_
  rw [e1]
  exact ⟨rfl, N0, rfl⟩
def Qpk2 (Z : State) (b0 b1 b2 b3 b4 : Addr) (h0 : Heap) (n0 : Nat) (v : Option Value) (h : Heap) (L : List Loc) : Prop := v = some (.ref b2) ∧ Fr n0 L ∧ h = h0
set_option maxRecDepth 65536 in
set_option maxHeartbeats 40000000 in
theorem rmpk2 (l : Launch) (Z : State) (a0 : Array Value) (hw : ∀ d ∈ tables_1, d.before a0 Z = true) (b0 b1 b2 b3 b4 : Addr) (h0 : Heap) (n0 : Nat) (Z0 : n0 ≤ h0.size) (ty : Ty Z h0 b0 b1 b2 b3 b4) :
    Met l (⟨"com/example/fylgja/fylgja/TypeIsListPinLaw", "pick", "(I)Lcom/example/fylgja/fylgja/Type;"⟩ : MethodName) method_2_code 1 (some (.object "com/example/fylgja/fylgja/Type")) [] ({ frames := 0, cells := 0, slots := 0, locals := 0 } : Room) Z #[(.int (2 : Int32))] h0 (Qpk2 Z b0 b1 b2 b3 b4 h0 n0) := by
  refine Met.of (Ls := #[.val (.int (2 : Int32))]) (by first | exact plainFor_of_name (by first | (simp [plainName, overriddenIn]; done) | decide +kernel) | decide +kernel) (fun m => by first | (simp [entryFrame, mkF, argsToLocals, Value.category]; done) | rfl) ?_
  intro p e s m below meth c T0 hx hby hml hown hnm hret hlk hZ X0 e0
  have N0 := Fr.nil n0
  show Go p e below T0 (mkF m 0 #[.val (.int (2 : Int32))] []) _
  obtain ⟨S0, S1, S2, S3, S4, E0, E1, E2, E3, E4, ne10, ne20, ne21, ne30, ne31, ne32, ne40, ne41, ne42, ne43⟩ := ty
  refine Go.iload_n X0 hx (hb hby d1_0) rfl ?_
  show Go p e below T0 (mkF m 1 #[.val (.int (2 : Int32))] [(.int (2 : Int32))]) _
  refine Go.ifc X0 hx (hb hby d1_1) (pc' := 8) (by decide) (iz_ne _) (fun c1 => ?_) (fun c1 => ?_)
  rotate_left
  · exact absurd (by decide) c1
  show Go p e below T0 (mkF m 8 #[.val (.int (2 : Int32))] []) _
  refine Go.iload_n X0 hx (hb hby d1_8) rfl ?_
  show Go p e below T0 (mkF m 9 #[.val (.int (2 : Int32))] [(.int (2 : Int32))]) _
  refine Go.iconst X0 hx (hb hby d1_9) ?_
  show Go p e below T0 (mkF m 10 #[.val (.int (2 : Int32))] [(.int (1 : Int32)), (.int (2 : Int32))]) _
  refine Go.icmp X0 hx (hb hby d1_10) (pc' := 17) (by decide) (ic_ne _ _) (fun c10 => ?_) (fun c10 => ?_)
  rotate_left
  · exact absurd (by decide) c10
  show Go p e below T0 (mkF m 17 #[.val (.int (2 : Int32))] []) _
  refine Go.iload_n X0 hx (hb hby d1_17) rfl ?_
  show Go p e below T0 (mkF m 18 #[.val (.int (2 : Int32))] [(.int (2 : Int32))]) _
  refine Go.iconst X0 hx (hb hby d1_18) ?_
  show Go p e below T0 (mkF m 19 #[.val (.int (2 : Int32))] [(.int (2 : Int32)), (.int (2 : Int32))]) _
  refine Go.icmp X0 hx (hb hby d1_19) (pc' := 26) (by decide) (ic_ne _ _) (fun c19 => ?_) (fun c19 => ?_)
  · exact absurd c19 (by decide)
  replace c19 := Decidable.not_not.mp c19
  show Go p e below T0 (mkF m 22 #[.val (.int (2 : Int32))] []) _
  refine Go.getS X0 hx hZ hown (hwi hw 18 rfl) e0 S2 (hb hby d1_22) ?_
  intro T1 X1 e1
  show Go p e below T1 (mkF m 25 #[.val (.int (2 : Int32))] [(.ref b2)]) _
  refine Go.ret_a X1 hx hret hlk rfl rfl rfl (hb hby d1_25) (by decide) (by decide) ?_
  rw [e1]
  exact ⟨rfl, N0, rfl⟩
def Qpk3 (Z : State) (b0 b1 b2 b3 b4 : Addr) (h0 : Heap) (n0 : Nat) (v : Option Value) (h : Heap) (L : List Loc) : Prop := v = some (.ref b3) ∧ Fr n0 L ∧ h = h0
set_option maxRecDepth 65536 in
set_option maxHeartbeats 40000000 in
theorem rmpk3 (l : Launch) (Z : State) (a0 : Array Value) (hw : ∀ d ∈ tables_1, d.before a0 Z = true) (b0 b1 b2 b3 b4 : Addr) (h0 : Heap) (n0 : Nat) (Z0 : n0 ≤ h0.size) (ty : Ty Z h0 b0 b1 b2 b3 b4) :
    Met l (⟨"com/example/fylgja/fylgja/TypeIsListPinLaw", "pick", "(I)Lcom/example/fylgja/fylgja/Type;"⟩ : MethodName) method_2_code 1 (some (.object "com/example/fylgja/fylgja/Type")) [] ({ frames := 0, cells := 0, slots := 0, locals := 0 } : Room) Z #[(.int (3 : Int32))] h0 (Qpk3 Z b0 b1 b2 b3 b4 h0 n0) := by
  refine Met.of (Ls := #[.val (.int (3 : Int32))]) (by first | exact plainFor_of_name (by first | (simp [plainName, overriddenIn]; done) | decide +kernel) | decide +kernel) (fun m => by first | (simp [entryFrame, mkF, argsToLocals, Value.category]; done) | rfl) ?_
  intro p e s m below meth c T0 hx hby hml hown hnm hret hlk hZ X0 e0
  have N0 := Fr.nil n0
  show Go p e below T0 (mkF m 0 #[.val (.int (3 : Int32))] []) _
  obtain ⟨S0, S1, S2, S3, S4, E0, E1, E2, E3, E4, ne10, ne20, ne21, ne30, ne31, ne32, ne40, ne41, ne42, ne43⟩ := ty
  refine Go.iload_n X0 hx (hb hby d1_0) rfl ?_
  show Go p e below T0 (mkF m 1 #[.val (.int (3 : Int32))] [(.int (3 : Int32))]) _
  refine Go.ifc X0 hx (hb hby d1_1) (pc' := 8) (by decide) (iz_ne _) (fun c1 => ?_) (fun c1 => ?_)
  rotate_left
  · exact absurd (by decide) c1
  show Go p e below T0 (mkF m 8 #[.val (.int (3 : Int32))] []) _
  refine Go.iload_n X0 hx (hb hby d1_8) rfl ?_
  show Go p e below T0 (mkF m 9 #[.val (.int (3 : Int32))] [(.int (3 : Int32))]) _
  refine Go.iconst X0 hx (hb hby d1_9) ?_
  show Go p e below T0 (mkF m 10 #[.val (.int (3 : Int32))] [(.int (1 : Int32)), (.int (3 : Int32))]) _
  refine Go.icmp X0 hx (hb hby d1_10) (pc' := 17) (by decide) (ic_ne _ _) (fun c10 => ?_) (fun c10 => ?_)
  rotate_left
  · exact absurd (by decide) c10
  show Go p e below T0 (mkF m 17 #[.val (.int (3 : Int32))] []) _
  refine Go.iload_n X0 hx (hb hby d1_17) rfl ?_
  show Go p e below T0 (mkF m 18 #[.val (.int (3 : Int32))] [(.int (3 : Int32))]) _
  refine Go.iconst X0 hx (hb hby d1_18) ?_
  show Go p e below T0 (mkF m 19 #[.val (.int (3 : Int32))] [(.int (2 : Int32)), (.int (3 : Int32))]) _
  refine Go.icmp X0 hx (hb hby d1_19) (pc' := 26) (by decide) (ic_ne _ _) (fun c19 => ?_) (fun c19 => ?_)
  rotate_left
  · exact absurd (by decide) c19
  show Go p e below T0 (mkF m 26 #[.val (.int (3 : Int32))] []) _
  refine Go.iload_n X0 hx (hb hby d1_26) rfl ?_
  show Go p e below T0 (mkF m 27 #[.val (.int (3 : Int32))] [(.int (3 : Int32))]) _
  refine Go.iconst X0 hx (hb hby d1_27) ?_
  show Go p e below T0 (mkF m 28 #[.val (.int (3 : Int32))] [(.int (3 : Int32)), (.int (3 : Int32))]) _
  refine Go.icmp X0 hx (hb hby d1_28) (pc' := 35) (by decide) (ic_ne _ _) (fun c28 => ?_) (fun c28 => ?_)
  · exact absurd c28 (by decide)
  replace c28 := Decidable.not_not.mp c28
  show Go p e below T0 (mkF m 31 #[.val (.int (3 : Int32))] []) _
  refine Go.getS X0 hx hZ hown (hwi hw 28 rfl) e0 S3 (hb hby d1_31) ?_
  intro T1 X1 e1
  show Go p e below T1 (mkF m 34 #[.val (.int (3 : Int32))] [(.ref b3)]) _
  refine Go.ret_a X1 hx hret hlk rfl rfl rfl (hb hby d1_34) (by decide) (by decide) ?_
  rw [e1]
  exact ⟨rfl, N0, rfl⟩
def Qpk4 (Z : State) (b0 b1 b2 b3 b4 : Addr) (h0 : Heap) (n0 : Nat) (v : Option Value) (h : Heap) (L : List Loc) : Prop := v = some (.ref b4) ∧ Fr n0 L ∧ h = h0
set_option maxRecDepth 65536 in
set_option maxHeartbeats 40000000 in
theorem rmpk4 (l : Launch) (Z : State) (a0 : Array Value) (hw : ∀ d ∈ tables_1, d.before a0 Z = true) (b0 b1 b2 b3 b4 : Addr) (h0 : Heap) (n0 : Nat) (Z0 : n0 ≤ h0.size) (ty : Ty Z h0 b0 b1 b2 b3 b4) :
    Met l (⟨"com/example/fylgja/fylgja/TypeIsListPinLaw", "pick", "(I)Lcom/example/fylgja/fylgja/Type;"⟩ : MethodName) method_2_code 1 (some (.object "com/example/fylgja/fylgja/Type")) [] ({ frames := 0, cells := 0, slots := 0, locals := 0 } : Room) Z #[(.int (4 : Int32))] h0 (Qpk4 Z b0 b1 b2 b3 b4 h0 n0) := by
  refine Met.of (Ls := #[.val (.int (4 : Int32))]) (by first | exact plainFor_of_name (by first | (simp [plainName, overriddenIn]; done) | decide +kernel) | decide +kernel) (fun m => by first | (simp [entryFrame, mkF, argsToLocals, Value.category]; done) | rfl) ?_
  intro p e s m below meth c T0 hx hby hml hown hnm hret hlk hZ X0 e0
  have N0 := Fr.nil n0
  show Go p e below T0 (mkF m 0 #[.val (.int (4 : Int32))] []) _
  obtain ⟨S0, S1, S2, S3, S4, E0, E1, E2, E3, E4, ne10, ne20, ne21, ne30, ne31, ne32, ne40, ne41, ne42, ne43⟩ := ty
  refine Go.iload_n X0 hx (hb hby d1_0) rfl ?_
  show Go p e below T0 (mkF m 1 #[.val (.int (4 : Int32))] [(.int (4 : Int32))]) _
  refine Go.ifc X0 hx (hb hby d1_1) (pc' := 8) (by decide) (iz_ne _) (fun c1 => ?_) (fun c1 => ?_)
  rotate_left
  · exact absurd (by decide) c1
  show Go p e below T0 (mkF m 8 #[.val (.int (4 : Int32))] []) _
  refine Go.iload_n X0 hx (hb hby d1_8) rfl ?_
  show Go p e below T0 (mkF m 9 #[.val (.int (4 : Int32))] [(.int (4 : Int32))]) _
  refine Go.iconst X0 hx (hb hby d1_9) ?_
  show Go p e below T0 (mkF m 10 #[.val (.int (4 : Int32))] [(.int (1 : Int32)), (.int (4 : Int32))]) _
  refine Go.icmp X0 hx (hb hby d1_10) (pc' := 17) (by decide) (ic_ne _ _) (fun c10 => ?_) (fun c10 => ?_)
  rotate_left
  · exact absurd (by decide) c10
  show Go p e below T0 (mkF m 17 #[.val (.int (4 : Int32))] []) _
  refine Go.iload_n X0 hx (hb hby d1_17) rfl ?_
  show Go p e below T0 (mkF m 18 #[.val (.int (4 : Int32))] [(.int (4 : Int32))]) _
  refine Go.iconst X0 hx (hb hby d1_18) ?_
  show Go p e below T0 (mkF m 19 #[.val (.int (4 : Int32))] [(.int (2 : Int32)), (.int (4 : Int32))]) _
  refine Go.icmp X0 hx (hb hby d1_19) (pc' := 26) (by decide) (ic_ne _ _) (fun c19 => ?_) (fun c19 => ?_)
  rotate_left
  · exact absurd (by decide) c19
  show Go p e below T0 (mkF m 26 #[.val (.int (4 : Int32))] []) _
  refine Go.iload_n X0 hx (hb hby d1_26) rfl ?_
  show Go p e below T0 (mkF m 27 #[.val (.int (4 : Int32))] [(.int (4 : Int32))]) _
  refine Go.iconst X0 hx (hb hby d1_27) ?_
  show Go p e below T0 (mkF m 28 #[.val (.int (4 : Int32))] [(.int (3 : Int32)), (.int (4 : Int32))]) _
  refine Go.icmp X0 hx (hb hby d1_28) (pc' := 35) (by decide) (ic_ne _ _) (fun c28 => ?_) (fun c28 => ?_)
  rotate_left
  · exact absurd (by decide) c28
  show Go p e below T0 (mkF m 35 #[.val (.int (4 : Int32))] []) _
  refine Go.getS X0 hx hZ hown (hwi hw 34 rfl) e0 S4 (hb hby d1_35) ?_
  intro T1 X1 e1
  show Go p e below T1 (mkF m 38 #[.val (.int (4 : Int32))] [(.ref b4)]) _
  refine Go.ret_a X1 hx hret hlk rfl rfl rfl (hb hby d1_38) (by decide) (by decide) ?_
  rw [e1]
  exact ⟨rfl, N0, rfl⟩
def Qli1 (Z : State) (b0 b1 b2 b3 b4 : Addr) (h0 : Heap) (n0 : Nat) (v : Option Value) (h : Heap) (L : List Loc) : Prop := v = some (.ref b3) ∧ Fr n0 L ∧ h = h0
set_option maxRecDepth 65536 in
set_option maxHeartbeats 40000000 in
theorem rmli1 (l : Launch) (Z : State) (a0 : Array Value) (hw : ∀ d ∈ tables_1, d.before a0 Z = true) (b0 b1 b2 b3 b4 : Addr) (h0 : Heap) (n0 : Nat) (Z0 : n0 ≤ h0.size) (ty : Ty Z h0 b0 b1 b2 b3 b4) :
    Met l (⟨"com/example/fylgja/fylgja/Type", "list", "()Lcom/example/fylgja/fylgja/Type;"⟩ : MethodName) prog_124_method_6_code 2 (some (.object "com/example/fylgja/fylgja/Type")) [] ({ frames := 0, cells := 0, slots := 0, locals := 0 } : Room) Z #[(.ref b1)] h0 (Qli1 Z b0 b1 b2 b3 b4 h0 n0) := by
  refine Met.of (Ls := #[.val (.ref b1), .unset]) (by first | exact plainFor_of_name (by first | (simp [plainName, overriddenIn]; done) | decide +kernel) | decide +kernel) (fun m => by first | (simp [entryFrame, mkF, argsToLocals, Value.category]; done) | rfl) ?_
  intro p e s m below meth c T0 hx hby hml hown hnm hret hlk hZ X0 e0
  have N0 := Fr.nil n0
  show Go p e below T0 (mkF m 0 #[.val (.ref b1), .unset] []) _
  obtain ⟨S0, S1, S2, S3, S4, E0, E1, E2, E3, E4, ne10, ne20, ne21, ne30, ne31, ne32, ne40, ne41, ne42, ne43⟩ := ty
  refine Go.aload_n X0 hx (hb hby d2_0) rfl rfl ?_
  show Go p e below T0 (mkF m 1 #[.val (.ref b1), .unset] [(.ref b1)]) _
  refine Go.getS X0 hx hZ hown (hwi hw 15 rfl) e0 S1 (hb hby d2_1) ?_
  intro T1 X1 e1
  show Go p e below T1 (mkF m 4 #[.val (.ref b1), .unset] [(.ref b1), (.ref b1)]) _
  refine Go.acmp X1 hx (hb hby d2_4) (pc' := 14) (by decide) rfl rfl (ac_ne _ _) (fun c4 => ?_) (fun c4 => ?_)
  · exact absurd rfl c4
  replace c4 := Decidable.not_not.mp c4
  show Go p e below T1 (mkF m 7 #[.val (.ref b1), .unset] []) _
  refine Go.getS X1 hx hZ hown (hwi hw 16 rfl) e1 S3 (hb hby d2_7) ?_
  intro T2 X2 e2
  show Go p e below T2 (mkF m 10 #[.val (.ref b1), .unset] [(.ref b3)]) _
  refine Go.astore_n X2 hx (hb hby d2_10) rfl (L' := #[.val (.ref b1), .val (.ref b3)]) rfl ?_
  show Go p e below T2 (mkF m 11 #[.val (.ref b1), .val (.ref b3)] []) _
  refine Go.goto X2 hx (hb hby d2_11) (pc' := 45) (by decide) ?_
  show Go p e below T2 (mkF m 45 #[.val (.ref b1), .val (.ref b3)] []) _
  refine Go.aload_n X2 hx (hb hby d2_45) rfl rfl ?_
  show Go p e below T2 (mkF m 46 #[.val (.ref b1), .val (.ref b3)] [(.ref b3)]) _
  refine Go.ret_a X2 hx hret hlk rfl rfl rfl (hb hby d2_46) (by decide) (by decide) ?_
  rw [e2]
  exact ⟨rfl, N0, rfl⟩
def Qel3 (Z : State) (b0 b1 b2 b3 b4 : Addr) (h0 : Heap) (n0 : Nat) (v : Option Value) (h : Heap) (L : List Loc) : Prop := v = some (.ref b1) ∧ Fr n0 L ∧ h = h0
set_option maxRecDepth 65536 in
set_option maxHeartbeats 40000000 in
theorem rmel3 (l : Launch) (Z : State) (a0 : Array Value) (hw : ∀ d ∈ tables_1, d.before a0 Z = true) (b0 b1 b2 b3 b4 : Addr) (h0 : Heap) (n0 : Nat) (Z0 : n0 ≤ h0.size) (ty : Ty Z h0 b0 b1 b2 b3 b4) :
    Met l (⟨"com/example/fylgja/fylgja/Type", "element", "()Lcom/example/fylgja/fylgja/Type;"⟩ : MethodName) prog_124_method_5_code 2 (some (.object "com/example/fylgja/fylgja/Type")) [] ({ frames := 0, cells := 0, slots := 0, locals := 0 } : Room) Z #[(.ref b3)] h0 (Qel3 Z b0 b1 b2 b3 b4 h0 n0) := by
  refine Met.of (Ls := #[.val (.ref b3), .unset]) (by first | exact plainFor_of_name (by first | (simp [plainName, overriddenIn]; done) | decide +kernel) | decide +kernel) (fun m => by first | (simp [entryFrame, mkF, argsToLocals, Value.category]; done) | rfl) ?_
  intro p e s m below meth c T0 hx hby hml hown hnm hret hlk hZ X0 e0
  have N0 := Fr.nil n0
  show Go p e below T0 (mkF m 0 #[.val (.ref b3), .unset] []) _
  obtain ⟨S0, S1, S2, S3, S4, E0, E1, E2, E3, E4, ne10, ne20, ne21, ne30, ne31, ne32, ne40, ne41, ne42, ne43⟩ := ty
  refine Go.aload_n X0 hx (hb hby d4_0) rfl rfl ?_
  show Go p e below T0 (mkF m 1 #[.val (.ref b3), .unset] [(.ref b3)]) _
  refine Go.getS X0 hx hZ hown (hwi hw 16 rfl) e0 S3 (hb hby d4_1) ?_
  intro T1 X1 e1
  show Go p e below T1 (mkF m 4 #[.val (.ref b3), .unset] [(.ref b3), (.ref b3)]) _
  refine Go.acmp X1 hx (hb hby d4_4) (pc' := 14) (by decide) rfl rfl (ac_ne _ _) (fun c4 => ?_) (fun c4 => ?_)
  · exact absurd rfl c4
  replace c4 := Decidable.not_not.mp c4
  show Go p e below T1 (mkF m 7 #[.val (.ref b3), .unset] []) _
  refine Go.getS X1 hx hZ hown (hwi hw 15 rfl) e1 S1 (hb hby d4_7) ?_
  intro T2 X2 e2
  show Go p e below T2 (mkF m 10 #[.val (.ref b3), .unset] [(.ref b1)]) _
  refine Go.astore_n X2 hx (hb hby d4_10) rfl (L' := #[.val (.ref b3), .val (.ref b1)]) rfl ?_
  show Go p e below T2 (mkF m 11 #[.val (.ref b3), .val (.ref b1)] []) _
  refine Go.goto X2 hx (hb hby d4_11) (pc' := 45) (by decide) ?_
  show Go p e below T2 (mkF m 45 #[.val (.ref b3), .val (.ref b1)] []) _
  refine Go.aload_n X2 hx (hb hby d4_45) rfl rfl ?_
  show Go p e below T2 (mkF m 46 #[.val (.ref b3), .val (.ref b1)] [(.ref b1)]) _
  refine Go.ret_a X2 hx hret hlk rfl rfl rfl (hb hby d4_46) (by decide) (by decide) ?_
  rw [e2]
  exact ⟨rfl, N0, rfl⟩
def Qli2 (Z : State) (b0 b1 b2 b3 b4 : Addr) (h0 : Heap) (n0 : Nat) (v : Option Value) (h : Heap) (L : List Loc) : Prop := v = some (.ref b4) ∧ Fr n0 L ∧ h = h0
set_option maxRecDepth 65536 in
set_option maxHeartbeats 40000000 in
theorem rmli2 (l : Launch) (Z : State) (a0 : Array Value) (hw : ∀ d ∈ tables_1, d.before a0 Z = true) (b0 b1 b2 b3 b4 : Addr) (h0 : Heap) (n0 : Nat) (Z0 : n0 ≤ h0.size) (ty : Ty Z h0 b0 b1 b2 b3 b4) :
    Met l (⟨"com/example/fylgja/fylgja/Type", "list", "()Lcom/example/fylgja/fylgja/Type;"⟩ : MethodName) prog_124_method_6_code 2 (some (.object "com/example/fylgja/fylgja/Type")) [] ({ frames := 0, cells := 0, slots := 0, locals := 0 } : Room) Z #[(.ref b2)] h0 (Qli2 Z b0 b1 b2 b3 b4 h0 n0) := by
  refine Met.of (Ls := #[.val (.ref b2), .unset]) (by first | exact plainFor_of_name (by first | (simp [plainName, overriddenIn]; done) | decide +kernel) | decide +kernel) (fun m => by first | (simp [entryFrame, mkF, argsToLocals, Value.category]; done) | rfl) ?_
  intro p e s m below meth c T0 hx hby hml hown hnm hret hlk hZ X0 e0
  have N0 := Fr.nil n0
  show Go p e below T0 (mkF m 0 #[.val (.ref b2), .unset] []) _
  obtain ⟨S0, S1, S2, S3, S4, E0, E1, E2, E3, E4, ne10, ne20, ne21, ne30, ne31, ne32, ne40, ne41, ne42, ne43⟩ := ty
  refine Go.aload_n X0 hx (hb hby d2_0) rfl rfl ?_
  show Go p e below T0 (mkF m 1 #[.val (.ref b2), .unset] [(.ref b2)]) _
  refine Go.getS X0 hx hZ hown (hwi hw 15 rfl) e0 S1 (hb hby d2_1) ?_
  intro T1 X1 e1
  show Go p e below T1 (mkF m 4 #[.val (.ref b2), .unset] [(.ref b1), (.ref b2)]) _
  refine Go.acmp X1 hx (hb hby d2_4) (pc' := 14) (by decide) rfl rfl (ac_ne _ _) (fun c4 => ?_) (fun c4 => ?_)
  rotate_left
  · exact absurd (rne ne21) c4
  show Go p e below T1 (mkF m 14 #[.val (.ref b2), .unset] []) _
  refine Go.aload_n X1 hx (hb hby d2_14) rfl rfl ?_
  show Go p e below T1 (mkF m 15 #[.val (.ref b2), .unset] [(.ref b2)]) _
  refine Go.getS X1 hx hZ hown (hwi hw 20 rfl) e1 S2 (hb hby d2_15) ?_
  intro T2 X2 e2
  show Go p e below T2 (mkF m 18 #[.val (.ref b2), .unset] [(.ref b2), (.ref b2)]) _
  refine Go.acmp X2 hx (hb hby d2_18) (pc' := 28) (by decide) rfl rfl (ac_ne _ _) (fun c18 => ?_) (fun c18 => ?_)
  · exact absurd rfl c18
  replace c18 := Decidable.not_not.mp c18
  show Go p e below T2 (mkF m 21 #[.val (.ref b2), .unset] []) _
  refine Go.getS X2 hx hZ hown (hwi hw 21 rfl) e2 S4 (hb hby d2_21) ?_
  intro T3 X3 e3
  show Go p e below T3 (mkF m 24 #[.val (.ref b2), .unset] [(.ref b4)]) _
  refine Go.astore_n X3 hx (hb hby d2_24) rfl (L' := #[.val (.ref b2), .val (.ref b4)]) rfl ?_
  show Go p e below T3 (mkF m 25 #[.val (.ref b2), .val (.ref b4)] []) _
  refine Go.goto X3 hx (hb hby d2_25) (pc' := 45) (by decide) ?_
  show Go p e below T3 (mkF m 45 #[.val (.ref b2), .val (.ref b4)] []) _
  refine Go.aload_n X3 hx (hb hby d2_45) rfl rfl ?_
  show Go p e below T3 (mkF m 46 #[.val (.ref b2), .val (.ref b4)] [(.ref b4)]) _
  refine Go.ret_a X3 hx hret hlk rfl rfl rfl (hb hby d2_46) (by decide) (by decide) ?_
  rw [e3]
  exact ⟨rfl, N0, rfl⟩
def Qel4 (Z : State) (b0 b1 b2 b3 b4 : Addr) (h0 : Heap) (n0 : Nat) (v : Option Value) (h : Heap) (L : List Loc) : Prop := v = some (.ref b2) ∧ Fr n0 L ∧ h = h0
set_option maxRecDepth 65536 in
set_option maxHeartbeats 40000000 in
theorem rmel4 (l : Launch) (Z : State) (a0 : Array Value) (hw : ∀ d ∈ tables_1, d.before a0 Z = true) (b0 b1 b2 b3 b4 : Addr) (h0 : Heap) (n0 : Nat) (Z0 : n0 ≤ h0.size) (ty : Ty Z h0 b0 b1 b2 b3 b4) :
    Met l (⟨"com/example/fylgja/fylgja/Type", "element", "()Lcom/example/fylgja/fylgja/Type;"⟩ : MethodName) prog_124_method_5_code 2 (some (.object "com/example/fylgja/fylgja/Type")) [] ({ frames := 0, cells := 0, slots := 0, locals := 0 } : Room) Z #[(.ref b4)] h0 (Qel4 Z b0 b1 b2 b3 b4 h0 n0) := by
  refine Met.of (Ls := #[.val (.ref b4), .unset]) (by first | exact plainFor_of_name (by first | (simp [plainName, overriddenIn]; done) | decide +kernel) | decide +kernel) (fun m => by first | (simp [entryFrame, mkF, argsToLocals, Value.category]; done) | rfl) ?_
  intro p e s m below meth c T0 hx hby hml hown hnm hret hlk hZ X0 e0
  have N0 := Fr.nil n0
  show Go p e below T0 (mkF m 0 #[.val (.ref b4), .unset] []) _
  obtain ⟨S0, S1, S2, S3, S4, E0, E1, E2, E3, E4, ne10, ne20, ne21, ne30, ne31, ne32, ne40, ne41, ne42, ne43⟩ := ty
  refine Go.aload_n X0 hx (hb hby d4_0) rfl rfl ?_
  show Go p e below T0 (mkF m 1 #[.val (.ref b4), .unset] [(.ref b4)]) _
  refine Go.getS X0 hx hZ hown (hwi hw 16 rfl) e0 S3 (hb hby d4_1) ?_
  intro T1 X1 e1
  show Go p e below T1 (mkF m 4 #[.val (.ref b4), .unset] [(.ref b3), (.ref b4)]) _
  refine Go.acmp X1 hx (hb hby d4_4) (pc' := 14) (by decide) rfl rfl (ac_ne _ _) (fun c4 => ?_) (fun c4 => ?_)
  rotate_left
  · exact absurd (rne ne43) c4
  show Go p e below T1 (mkF m 14 #[.val (.ref b4), .unset] []) _
  refine Go.aload_n X1 hx (hb hby d4_14) rfl rfl ?_
  show Go p e below T1 (mkF m 15 #[.val (.ref b4), .unset] [(.ref b4)]) _
  refine Go.getS X1 hx hZ hown (hwi hw 21 rfl) e1 S4 (hb hby d4_15) ?_
  intro T2 X2 e2
  show Go p e below T2 (mkF m 18 #[.val (.ref b4), .unset] [(.ref b4), (.ref b4)]) _
  refine Go.acmp X2 hx (hb hby d4_18) (pc' := 28) (by decide) rfl rfl (ac_ne _ _) (fun c18 => ?_) (fun c18 => ?_)
  · exact absurd rfl c18
  replace c18 := Decidable.not_not.mp c18
  show Go p e below T2 (mkF m 21 #[.val (.ref b4), .unset] []) _
  refine Go.getS X2 hx hZ hown (hwi hw 20 rfl) e2 S2 (hb hby d4_21) ?_
  intro T3 X3 e3
  show Go p e below T3 (mkF m 24 #[.val (.ref b4), .unset] [(.ref b2)]) _
  refine Go.astore_n X3 hx (hb hby d4_24) rfl (L' := #[.val (.ref b4), .val (.ref b2)]) rfl ?_
  show Go p e below T3 (mkF m 25 #[.val (.ref b4), .val (.ref b2)] []) _
  refine Go.goto X3 hx (hb hby d4_25) (pc' := 45) (by decide) ?_
  show Go p e below T3 (mkF m 45 #[.val (.ref b4), .val (.ref b2)] []) _
  refine Go.aload_n X3 hx (hb hby d4_45) rfl rfl ?_
  show Go p e below T3 (mkF m 46 #[.val (.ref b4), .val (.ref b2)] [(.ref b2)]) _
  refine Go.ret_a X3 hx hret hlk rfl rfl rfl (hb hby d4_46) (by decide) (by decide) ?_
  rw [e3]
  exact ⟨rfl, N0, rfl⟩
def Qil0 (Z : State) (b0 b1 b2 b3 b4 : Addr) (h0 : Heap) (n0 : Nat) (v : Option Value) (h : Heap) (L : List Loc) : Prop := v = some (.int (0 : Int32)) ∧ Fr n0 L ∧ h = h0
set_option maxRecDepth 65536 in
set_option maxHeartbeats 40000000 in
theorem rmil0 (l : Launch) (Z : State) (a0 : Array Value) (hw : ∀ d ∈ tables_1, d.before a0 Z = true) (b0 b1 b2 b3 b4 : Addr) (h0 : Heap) (n0 : Nat) (Z0 : n0 ≤ h0.size) (ty : Ty Z h0 b0 b1 b2 b3 b4) :
    Met l (⟨"com/example/fylgja/fylgja/Type", "isList", "()Z"⟩ : MethodName) prog_124_method_4_code 1 (some .boolean) [] ({ frames := 0, cells := 0, slots := 0, locals := 0 } : Room) Z #[(.ref b0)] h0 (Qil0 Z b0 b1 b2 b3 b4 h0 n0) := by
  refine Met.of (Ls := #[.val (.ref b0)]) (by first | exact plainFor_of_name (by first | (simp [plainName, overriddenIn]; done) | decide +kernel) | decide +kernel) (fun m => by first | (simp [entryFrame, mkF, argsToLocals, Value.category]; done) | rfl) ?_
  intro p e s m below meth c T0 hx hby hml hown hnm hret hlk hZ X0 e0
  have N0 := Fr.nil n0
  show Go p e below T0 (mkF m 0 #[.val (.ref b0)] []) _
  obtain ⟨S0, S1, S2, S3, S4, E0, E1, E2, E3, E4, ne10, ne20, ne21, ne30, ne31, ne32, ne40, ne41, ne42, ne43⟩ := ty
  refine Go.aload_n X0 hx (hb hby d3_0) rfl rfl ?_
  show Go p e below T0 (mkF m 1 #[.val (.ref b0)] [(.ref b0)]) _
  refine Go.getS X0 hx hZ hown (hwi hw 16 rfl) e0 S3 (hb hby d3_1) ?_
  intro T1 X1 e1
  show Go p e below T1 (mkF m 4 #[.val (.ref b0)] [(.ref b3), (.ref b0)]) _
  refine Go.acmp X1 hx (hb hby d3_4) (pc' := 14) (by decide) rfl rfl (ac_eq _ _) (fun c4 => ?_) (fun c4 => ?_)
  · exact absurd c4 (rne (Ne.symm ne30))
  show Go p e below T1 (mkF m 7 #[.val (.ref b0)] []) _
  refine Go.aload_n X1 hx (hb hby d3_7) rfl rfl ?_
  show Go p e below T1 (mkF m 8 #[.val (.ref b0)] [(.ref b0)]) _
  refine Go.getS X1 hx hZ hown (hwi hw 21 rfl) e1 S4 (hb hby d3_8) ?_
  intro T2 X2 e2
  show Go p e below T2 (mkF m 11 #[.val (.ref b0)] [(.ref b4), (.ref b0)]) _
  refine Go.acmp X2 hx (hb hby d3_11) (pc' := 18) (by decide) rfl rfl (ac_ne _ _) (fun c11 => ?_) (fun c11 => ?_)
  rotate_left
  · exact absurd (rne (Ne.symm ne40)) c11
  show Go p e below T2 (mkF m 18 #[.val (.ref b0)] []) _
  refine Go.iconst X2 hx (hb hby d3_18) ?_
  show Go p e below T2 (mkF m 19 #[.val (.ref b0)] [(.int (0 : Int32))]) _
  refine Go.ret_n X2 hx hret hlk (by simp) (hb hby d3_19) (by decide) (by decide) ?_
  rw [e2]
  exact ⟨rfl, N0, rfl⟩
def Qil1 (Z : State) (b0 b1 b2 b3 b4 : Addr) (h0 : Heap) (n0 : Nat) (v : Option Value) (h : Heap) (L : List Loc) : Prop := v = some (.int (0 : Int32)) ∧ Fr n0 L ∧ h = h0
set_option maxRecDepth 65536 in
set_option maxHeartbeats 40000000 in
theorem rmil1 (l : Launch) (Z : State) (a0 : Array Value) (hw : ∀ d ∈ tables_1, d.before a0 Z = true) (b0 b1 b2 b3 b4 : Addr) (h0 : Heap) (n0 : Nat) (Z0 : n0 ≤ h0.size) (ty : Ty Z h0 b0 b1 b2 b3 b4) :
    Met l (⟨"com/example/fylgja/fylgja/Type", "isList", "()Z"⟩ : MethodName) prog_124_method_4_code 1 (some .boolean) [] ({ frames := 0, cells := 0, slots := 0, locals := 0 } : Room) Z #[(.ref b1)] h0 (Qil1 Z b0 b1 b2 b3 b4 h0 n0) := by
  refine Met.of (Ls := #[.val (.ref b1)]) (by first | exact plainFor_of_name (by first | (simp [plainName, overriddenIn]; done) | decide +kernel) | decide +kernel) (fun m => by first | (simp [entryFrame, mkF, argsToLocals, Value.category]; done) | rfl) ?_
  intro p e s m below meth c T0 hx hby hml hown hnm hret hlk hZ X0 e0
  have N0 := Fr.nil n0
  show Go p e below T0 (mkF m 0 #[.val (.ref b1)] []) _
  obtain ⟨S0, S1, S2, S3, S4, E0, E1, E2, E3, E4, ne10, ne20, ne21, ne30, ne31, ne32, ne40, ne41, ne42, ne43⟩ := ty
  refine Go.aload_n X0 hx (hb hby d3_0) rfl rfl ?_
  show Go p e below T0 (mkF m 1 #[.val (.ref b1)] [(.ref b1)]) _
  refine Go.getS X0 hx hZ hown (hwi hw 16 rfl) e0 S3 (hb hby d3_1) ?_
  intro T1 X1 e1
  show Go p e below T1 (mkF m 4 #[.val (.ref b1)] [(.ref b3), (.ref b1)]) _
  refine Go.acmp X1 hx (hb hby d3_4) (pc' := 14) (by decide) rfl rfl (ac_eq _ _) (fun c4 => ?_) (fun c4 => ?_)
  · exact absurd c4 (rne (Ne.symm ne31))
  show Go p e below T1 (mkF m 7 #[.val (.ref b1)] []) _
  refine Go.aload_n X1 hx (hb hby d3_7) rfl rfl ?_
  show Go p e below T1 (mkF m 8 #[.val (.ref b1)] [(.ref b1)]) _
  refine Go.getS X1 hx hZ hown (hwi hw 21 rfl) e1 S4 (hb hby d3_8) ?_
  intro T2 X2 e2
  show Go p e below T2 (mkF m 11 #[.val (.ref b1)] [(.ref b4), (.ref b1)]) _
  refine Go.acmp X2 hx (hb hby d3_11) (pc' := 18) (by decide) rfl rfl (ac_ne _ _) (fun c11 => ?_) (fun c11 => ?_)
  rotate_left
  · exact absurd (rne (Ne.symm ne41)) c11
  show Go p e below T2 (mkF m 18 #[.val (.ref b1)] []) _
  refine Go.iconst X2 hx (hb hby d3_18) ?_
  show Go p e below T2 (mkF m 19 #[.val (.ref b1)] [(.int (0 : Int32))]) _
  refine Go.ret_n X2 hx hret hlk (by simp) (hb hby d3_19) (by decide) (by decide) ?_
  rw [e2]
  exact ⟨rfl, N0, rfl⟩
def Qil2 (Z : State) (b0 b1 b2 b3 b4 : Addr) (h0 : Heap) (n0 : Nat) (v : Option Value) (h : Heap) (L : List Loc) : Prop := v = some (.int (0 : Int32)) ∧ Fr n0 L ∧ h = h0
set_option maxRecDepth 65536 in
set_option maxHeartbeats 40000000 in
theorem rmil2 (l : Launch) (Z : State) (a0 : Array Value) (hw : ∀ d ∈ tables_1, d.before a0 Z = true) (b0 b1 b2 b3 b4 : Addr) (h0 : Heap) (n0 : Nat) (Z0 : n0 ≤ h0.size) (ty : Ty Z h0 b0 b1 b2 b3 b4) :
    Met l (⟨"com/example/fylgja/fylgja/Type", "isList", "()Z"⟩ : MethodName) prog_124_method_4_code 1 (some .boolean) [] ({ frames := 0, cells := 0, slots := 0, locals := 0 } : Room) Z #[(.ref b2)] h0 (Qil2 Z b0 b1 b2 b3 b4 h0 n0) := by
  refine Met.of (Ls := #[.val (.ref b2)]) (by first | exact plainFor_of_name (by first | (simp [plainName, overriddenIn]; done) | decide +kernel) | decide +kernel) (fun m => by first | (simp [entryFrame, mkF, argsToLocals, Value.category]; done) | rfl) ?_
  intro p e s m below meth c T0 hx hby hml hown hnm hret hlk hZ X0 e0
  have N0 := Fr.nil n0
  show Go p e below T0 (mkF m 0 #[.val (.ref b2)] []) _
  obtain ⟨S0, S1, S2, S3, S4, E0, E1, E2, E3, E4, ne10, ne20, ne21, ne30, ne31, ne32, ne40, ne41, ne42, ne43⟩ := ty
  refine Go.aload_n X0 hx (hb hby d3_0) rfl rfl ?_
  show Go p e below T0 (mkF m 1 #[.val (.ref b2)] [(.ref b2)]) _
  refine Go.getS X0 hx hZ hown (hwi hw 16 rfl) e0 S3 (hb hby d3_1) ?_
  intro T1 X1 e1
  show Go p e below T1 (mkF m 4 #[.val (.ref b2)] [(.ref b3), (.ref b2)]) _
  refine Go.acmp X1 hx (hb hby d3_4) (pc' := 14) (by decide) rfl rfl (ac_eq _ _) (fun c4 => ?_) (fun c4 => ?_)
  · exact absurd c4 (rne (Ne.symm ne32))
  show Go p e below T1 (mkF m 7 #[.val (.ref b2)] []) _
  refine Go.aload_n X1 hx (hb hby d3_7) rfl rfl ?_
  show Go p e below T1 (mkF m 8 #[.val (.ref b2)] [(.ref b2)]) _
  refine Go.getS X1 hx hZ hown (hwi hw 21 rfl) e1 S4 (hb hby d3_8) ?_
  intro T2 X2 e2
  show Go p e below T2 (mkF m 11 #[.val (.ref b2)] [(.ref b4), (.ref b2)]) _
  refine Go.acmp X2 hx (hb hby d3_11) (pc' := 18) (by decide) rfl rfl (ac_ne _ _) (fun c11 => ?_) (fun c11 => ?_)
  rotate_left
  · exact absurd (rne (Ne.symm ne42)) c11
  show Go p e below T2 (mkF m 18 #[.val (.ref b2)] []) _
  refine Go.iconst X2 hx (hb hby d3_18) ?_
  show Go p e below T2 (mkF m 19 #[.val (.ref b2)] [(.int (0 : Int32))]) _
  refine Go.ret_n X2 hx hret hlk (by simp) (hb hby d3_19) (by decide) (by decide) ?_
  rw [e2]
  exact ⟨rfl, N0, rfl⟩
def Qil3 (Z : State) (b0 b1 b2 b3 b4 : Addr) (h0 : Heap) (n0 : Nat) (v : Option Value) (h : Heap) (L : List Loc) : Prop := v = some (.int (1 : Int32)) ∧ Fr n0 L ∧ h = h0
set_option maxRecDepth 65536 in
set_option maxHeartbeats 40000000 in
theorem rmil3 (l : Launch) (Z : State) (a0 : Array Value) (hw : ∀ d ∈ tables_1, d.before a0 Z = true) (b0 b1 b2 b3 b4 : Addr) (h0 : Heap) (n0 : Nat) (Z0 : n0 ≤ h0.size) (ty : Ty Z h0 b0 b1 b2 b3 b4) :
    Met l (⟨"com/example/fylgja/fylgja/Type", "isList", "()Z"⟩ : MethodName) prog_124_method_4_code 1 (some .boolean) [] ({ frames := 0, cells := 0, slots := 0, locals := 0 } : Room) Z #[(.ref b3)] h0 (Qil3 Z b0 b1 b2 b3 b4 h0 n0) := by
  refine Met.of (Ls := #[.val (.ref b3)]) (by first | exact plainFor_of_name (by first | (simp [plainName, overriddenIn]; done) | decide +kernel) | decide +kernel) (fun m => by first | (simp [entryFrame, mkF, argsToLocals, Value.category]; done) | rfl) ?_
  intro p e s m below meth c T0 hx hby hml hown hnm hret hlk hZ X0 e0
  have N0 := Fr.nil n0
  show Go p e below T0 (mkF m 0 #[.val (.ref b3)] []) _
  obtain ⟨S0, S1, S2, S3, S4, E0, E1, E2, E3, E4, ne10, ne20, ne21, ne30, ne31, ne32, ne40, ne41, ne42, ne43⟩ := ty
  refine Go.aload_n X0 hx (hb hby d3_0) rfl rfl ?_
  show Go p e below T0 (mkF m 1 #[.val (.ref b3)] [(.ref b3)]) _
  refine Go.getS X0 hx hZ hown (hwi hw 16 rfl) e0 S3 (hb hby d3_1) ?_
  intro T1 X1 e1
  show Go p e below T1 (mkF m 4 #[.val (.ref b3)] [(.ref b3), (.ref b3)]) _
  refine Go.acmp X1 hx (hb hby d3_4) (pc' := 14) (by decide) rfl rfl (ac_eq _ _) (fun c4 => ?_) (fun c4 => ?_)
  rotate_left
  · exact absurd rfl c4
  show Go p e below T1 (mkF m 14 #[.val (.ref b3)] []) _
  refine Go.iconst X1 hx (hb hby d3_14) ?_
  show Go p e below T1 (mkF m 15 #[.val (.ref b3)] [(.int (1 : Int32))]) _
  refine Go.goto X1 hx (hb hby d3_15) (pc' := 19) (by decide) ?_
  show Go p e below T1 (mkF m 19 #[.val (.ref b3)] [(.int (1 : Int32))]) _
  refine Go.ret_n X1 hx hret hlk (by simp) (hb hby d3_19) (by decide) (by decide) ?_
  rw [e1]
  exact ⟨rfl, N0, rfl⟩
def Qil4 (Z : State) (b0 b1 b2 b3 b4 : Addr) (h0 : Heap) (n0 : Nat) (v : Option Value) (h : Heap) (L : List Loc) : Prop := v = some (.int (1 : Int32)) ∧ Fr n0 L ∧ h = h0
set_option maxRecDepth 65536 in
set_option maxHeartbeats 40000000 in
theorem rmil4 (l : Launch) (Z : State) (a0 : Array Value) (hw : ∀ d ∈ tables_1, d.before a0 Z = true) (b0 b1 b2 b3 b4 : Addr) (h0 : Heap) (n0 : Nat) (Z0 : n0 ≤ h0.size) (ty : Ty Z h0 b0 b1 b2 b3 b4) :
    Met l (⟨"com/example/fylgja/fylgja/Type", "isList", "()Z"⟩ : MethodName) prog_124_method_4_code 1 (some .boolean) [] ({ frames := 0, cells := 0, slots := 0, locals := 0 } : Room) Z #[(.ref b4)] h0 (Qil4 Z b0 b1 b2 b3 b4 h0 n0) := by
  refine Met.of (Ls := #[.val (.ref b4)]) (by first | exact plainFor_of_name (by first | (simp [plainName, overriddenIn]; done) | decide +kernel) | decide +kernel) (fun m => by first | (simp [entryFrame, mkF, argsToLocals, Value.category]; done) | rfl) ?_
  intro p e s m below meth c T0 hx hby hml hown hnm hret hlk hZ X0 e0
  have N0 := Fr.nil n0
  show Go p e below T0 (mkF m 0 #[.val (.ref b4)] []) _
  obtain ⟨S0, S1, S2, S3, S4, E0, E1, E2, E3, E4, ne10, ne20, ne21, ne30, ne31, ne32, ne40, ne41, ne42, ne43⟩ := ty
  refine Go.aload_n X0 hx (hb hby d3_0) rfl rfl ?_
  show Go p e below T0 (mkF m 1 #[.val (.ref b4)] [(.ref b4)]) _
  refine Go.getS X0 hx hZ hown (hwi hw 16 rfl) e0 S3 (hb hby d3_1) ?_
  intro T1 X1 e1
  show Go p e below T1 (mkF m 4 #[.val (.ref b4)] [(.ref b3), (.ref b4)]) _
  refine Go.acmp X1 hx (hb hby d3_4) (pc' := 14) (by decide) rfl rfl (ac_eq _ _) (fun c4 => ?_) (fun c4 => ?_)
  · exact absurd c4 (rne ne43)
  show Go p e below T1 (mkF m 7 #[.val (.ref b4)] []) _
  refine Go.aload_n X1 hx (hb hby d3_7) rfl rfl ?_
  show Go p e below T1 (mkF m 8 #[.val (.ref b4)] [(.ref b4)]) _
  refine Go.getS X1 hx hZ hown (hwi hw 21 rfl) e1 S4 (hb hby d3_8) ?_
  intro T2 X2 e2
  show Go p e below T2 (mkF m 11 #[.val (.ref b4)] [(.ref b4), (.ref b4)]) _
  refine Go.acmp X2 hx (hb hby d3_11) (pc' := 18) (by decide) rfl rfl (ac_ne _ _) (fun c11 => ?_) (fun c11 => ?_)
  · exact absurd rfl c11
  replace c11 := Decidable.not_not.mp c11
  show Go p e below T2 (mkF m 14 #[.val (.ref b4)] []) _
  refine Go.iconst X2 hx (hb hby d3_14) ?_
  show Go p e below T2 (mkF m 15 #[.val (.ref b4)] [(.int (1 : Int32))]) _
  refine Go.goto X2 hx (hb hby d3_15) (pc' := 19) (by decide) ?_
  show Go p e below T2 (mkF m 19 #[.val (.ref b4)] [(.int (1 : Int32))]) _
  refine Go.ret_n X2 hx hret hlk (by simp) (hb hby d3_19) (by decide) (by decide) ?_
  rw [e2]
  exact ⟨rfl, N0, rfl⟩
def Q0 (Z : State) (p1 : Int32) (b0 b1 b2 b3 b4 : Addr) (h0 : Heap) (n0 : Nat) (v : Option Value) (h : Heap) (L : List Loc) : Prop := v = some (.int 1) ∧ Fr n0 L
set_option maxRecDepth 65536 in
set_option maxHeartbeats 40000000 in
theorem rm0 (l : Launch) (Z : State) (a0 : Array Value) (hw : ∀ d ∈ tables_1, d.before a0 Z = true) (ws : List Jvm.Cond) (p1 : Int32) (b0 b1 b2 b3 b4 : Addr) (h0 : Heap) (n0 : Nat) (Z0 : n0 ≤ h0.size) (ty : Ty Z h0 b0 b1 b2 b3 b4) :
    Met l x code maxLocals ret ws room_1 Z #[(.int p1)] h0 (Q0 Z p1 b0 b1 b2 b3 b4 h0 n0) := by
  refine Met.of (Ls := #[.val (.int p1), .unset, .unset, .unset, .unset, .unset, .unset]) (by first | exact plainFor_of_name (by first | (simp [plainName, overriddenIn, x]; done) | decide +kernel) | decide +kernel) (fun m => by first | (simp [entryFrame, mkF, argsToLocals, Value.category, maxLocals]; done) | rfl) ?_
  intro p e s m below meth c T0 hx hby hml hown hnm hret hlk hZ X0 e0
  have N0 := Fr.nil n0
  show Go p e below T0 (mkF m 0 #[.val (.int p1), .unset, .unset, .unset, .unset, .unset, .unset] []) _
  obtain ⟨S0, S1, S2, S3, S4, E0, E1, E2, E3, E4, ne10, ne20, ne21, ne30, ne31, ne32, ne40, ne41, ne42, ne43⟩ := id ty
  refine Go.iload_n X0 hx (hb hby at_0) rfl ?_
  show Go p e below T0 (mkF m 1 #[.val (.int p1), .unset, .unset, .unset, .unset, .unset, .unset] [(.int p1)]) _
  refine Go.ldcI X0 hx hZ hown (hwi hw 0 rfl) (hb hby at_1) ?_
  show Go p e below T0 (mkF m 3 #[.val (.int p1), .unset, .unset, .unset, .unset, .unset, .unset] [(.int (2147483647 : Int32)), (.int p1)]) _
  refine Go.iand X0 hx (hb hby at_3) ?_
  show Go p e below T0 (mkF m 4 #[.val (.int p1), .unset, .unset, .unset, .unset, .unset, .unset] [(.int (p1 &&& (2147483647 : Int32)))]) _
  refine Go.iconst X0 hx (hb hby at_4) ?_
  show Go p e below T0 (mkF m 5 #[.val (.int p1), .unset, .unset, .unset, .unset, .unset, .unset] [(.int (5 : Int32)), (.int (p1 &&& (2147483647 : Int32)))]) _
  refine Go.irem X0 hx (hb hby at_5) (by decide) ?_
  show Go p e below T0 (mkF m 6 #[.val (.int p1), .unset, .unset, .unset, .unset, .unset, .unset] [(.int ((p1 &&& (2147483647 : Int32)) % (5 : Int32)))]) _
  have hi := i5 p1
  rcases hi with hi | hi | hi | hi | hi
  · rw [hi]
    show Go p e below T0 (mkF m 6 #[.val (.int p1), .unset, .unset, .unset, .unset, .unset, .unset] [(.int (0 : Int32))]) _
    refine Go.istore_n X0 hx (hb hby at_6) (L' := #[.val (.int p1), .val (.int (0 : Int32)), .unset, .unset, .unset, .unset, .unset]) rfl ?_
    show Go p e below T0 (mkF m 7 #[.val (.int p1), .val (.int (0 : Int32)), .unset, .unset, .unset, .unset, .unset] []) _
    refine Go.iload_n X0 hx (hb hby at_7) rfl ?_
    show Go p e below T0 (mkF m 8 #[.val (.int p1), .val (.int (0 : Int32)), .unset, .unset, .unset, .unset, .unset] [(.int (0 : Int32))]) _
    refine Go.callS X0 hx hZ hown (hwi hw 1 rfl) (hwi hw 2 rfl) (hwi hw 3 rfl) (hwi hw 4 rfl) (by decide) e0 (argsL := [(.int (0 : Int32))]) (rmpk0 l Z a0 hw b0 b1 b2 b3 b4 h0 n0 Z0 ty) hml rfl (ps := [.int]) (r := (some (.object "com/example/fylgja/fylgja/Type"))) (by decide +kernel) rfl (rest := []) rfl (W := 0) (Nat.le_of_eq rfl) (by decide) (by decide) (by decide) (by decide) (hb hby at_8) ?_
    rintro _ T1 L1 X1 ⟨rfl, Nq1, e1⟩
    have N1 := Fr.app N0 Nq1
    show Go p e below T1 (mkF m 11 #[.val (.int p1), .val (.int (0 : Int32)), .unset, .unset, .unset, .unset, .unset] [(.ref b0)]) _
    refine Go.astore_n X1 hx (hb hby at_11) rfl (L' := #[.val (.int p1), .val (.int (0 : Int32)), .val (.ref b0), .unset, .unset, .unset, .unset]) rfl ?_
    show Go p e below T1 (mkF m 12 #[.val (.int p1), .val (.int (0 : Int32)), .val (.ref b0), .unset, .unset, .unset, .unset] []) _
    refine Go.getS X1 hx hZ hown (hwi hw 8 rfl) e1 S1 (hb hby at_12) ?_
    intro T2 X2 e2
    show Go p e below T2 (mkF m 15 #[.val (.int p1), .val (.int (0 : Int32)), .val (.ref b0), .unset, .unset, .unset, .unset] [(.ref b1)]) _
    refine Go.callV X2 hx hZ hown (hwi hw 10 rfl) (hwi hw 11 rfl) (notFace_of_selects (args := #[]) (mvT hZ (hwi hw 13 rfl))) (hwi hw 13 rfl) (hwi hw 12 rfl) (hwi hw 14 rfl) (hwi hw 6 rfl) (by decide) e2 E1 (argsL := []) (rmli1 l Z a0 hw b0 b1 b2 b3 b4 h0 n0 Z0 ty) hml rfl (ps := []) (r := (some (.object "com/example/fylgja/fylgja/Type"))) (by decide +kernel) rfl (rest := []) rfl (W := 0) (Nat.le_of_eq rfl) (by decide) (by decide) (by decide) (by decide) (hb hby at_15) ?_
    rintro _ T3 L3 X3 ⟨rfl, Nq3, e3⟩
    have N3 := Fr.app N1 Nq3
    show Go p e below T3 (mkF m 18 #[.val (.int p1), .val (.int (0 : Int32)), .val (.ref b0), .unset, .unset, .unset, .unset] [(.ref b3)]) _
    refine Go.astore_n X3 hx (hb hby at_18) rfl (L' := #[.val (.int p1), .val (.int (0 : Int32)), .val (.ref b0), .val (.ref b3), .unset, .unset, .unset]) rfl ?_
    show Go p e below T3 (mkF m 19 #[.val (.int p1), .val (.int (0 : Int32)), .val (.ref b0), .val (.ref b3), .unset, .unset, .unset] []) _
    refine Go.getS X3 hx hZ hown (hwi hw 18 rfl) e3 S2 (hb hby at_19) ?_
    intro T4 X4 e4
    show Go p e below T4 (mkF m 22 #[.val (.int p1), .val (.int (0 : Int32)), .val (.ref b0), .val (.ref b3), .unset, .unset, .unset] [(.ref b2)]) _
    refine Go.callV X4 hx hZ hown (hwi hw 10 rfl) (hwi hw 11 rfl) (notFace_of_selects (args := #[]) (mvT hZ (hwi hw 13 rfl))) (hwi hw 13 rfl) (hwi hw 12 rfl) (hwi hw 14 rfl) (hwi hw 6 rfl) (by decide) e4 E2 (argsL := []) (rmli2 l Z a0 hw b0 b1 b2 b3 b4 h0 n0 Z0 ty) hml rfl (ps := []) (r := (some (.object "com/example/fylgja/fylgja/Type"))) (by decide +kernel) rfl (rest := []) rfl (W := 0) (Nat.le_of_eq rfl) (by decide) (by decide) (by decide) (by decide) (hb hby at_22) ?_
    rintro _ T5 L5 X5 ⟨rfl, Nq5, e5⟩
    have N5 := Fr.app N3 Nq5
    show Go p e below T5 (mkF m 25 #[.val (.int p1), .val (.int (0 : Int32)), .val (.ref b0), .val (.ref b3), .unset, .unset, .unset] [(.ref b4)]) _
    refine Go.astore X5 hx (hb hby at_25) rfl (L' := #[.val (.int p1), .val (.int (0 : Int32)), .val (.ref b0), .val (.ref b3), .val (.ref b4), .unset, .unset]) rfl ?_
    show Go p e below T5 (mkF m 27 #[.val (.int p1), .val (.int (0 : Int32)), .val (.ref b0), .val (.ref b3), .val (.ref b4), .unset, .unset] []) _
    refine Go.aload_n X5 hx (hb hby at_27) rfl rfl ?_
    show Go p e below T5 (mkF m 28 #[.val (.int p1), .val (.int (0 : Int32)), .val (.ref b0), .val (.ref b3), .val (.ref b4), .unset, .unset] [(.ref b0)]) _
    refine Go.callV X5 hx hZ hown (hwi hw 23 rfl) (hwi hw 24 rfl) (notFace_of_selects (args := #[]) (mvT hZ (hwi hw 26 rfl))) (hwi hw 26 rfl) (hwi hw 25 rfl) (hwi hw 27 rfl) (hwi hw 6 rfl) (by decide) e5 E0 (argsL := []) (rmil0 l Z a0 hw b0 b1 b2 b3 b4 h0 n0 Z0 ty) hml rfl (ps := []) (r := (some .boolean)) (by decide +kernel) rfl (rest := []) rfl (W := 0) (Nat.le_of_eq rfl) (by decide) (by decide) (by decide) (by decide) (hb hby at_28) ?_
    rintro _ T6 L6 X6 ⟨rfl, Nq6, e6⟩
    have N6 := Fr.app N5 Nq6
    show Go p e below T6 (mkF m 31 #[.val (.int p1), .val (.int (0 : Int32)), .val (.ref b0), .val (.ref b3), .val (.ref b4), .unset, .unset] [(.int (0 : Int32))]) _
    refine Go.istore X6 hx (hb hby at_31) (L' := #[.val (.int p1), .val (.int (0 : Int32)), .val (.ref b0), .val (.ref b3), .val (.ref b4), .val (.int (0 : Int32)), .unset]) rfl ?_
    show Go p e below T6 (mkF m 33 #[.val (.int p1), .val (.int (0 : Int32)), .val (.ref b0), .val (.ref b3), .val (.ref b4), .val (.int (0 : Int32)), .unset] []) _
    refine Go.iload X6 hx (hb hby at_33) rfl ?_
    show Go p e below T6 (mkF m 35 #[.val (.int p1), .val (.int (0 : Int32)), .val (.ref b0), .val (.ref b3), .val (.ref b4), .val (.int (0 : Int32)), .unset] [(.int (0 : Int32))]) _
    refine Go.aload_n X6 hx (hb hby at_35) rfl rfl ?_
    show Go p e below T6 (mkF m 36 #[.val (.int p1), .val (.int (0 : Int32)), .val (.ref b0), .val (.ref b3), .val (.ref b4), .val (.int (0 : Int32)), .unset] [(.ref b0), (.int (0 : Int32))]) _
    refine Go.aload_n X6 hx (hb hby at_36) rfl rfl ?_
    show Go p e below T6 (mkF m 37 #[.val (.int p1), .val (.int (0 : Int32)), .val (.ref b0), .val (.ref b3), .val (.ref b4), .val (.int (0 : Int32)), .unset] [(.ref b3), (.ref b0), (.int (0 : Int32))]) _
    refine Go.acmp X6 hx (hb hby at_37) (pc' := 46) (by decide) rfl rfl (ac_eq _ _) (fun c37 => ?_) (fun c37 => ?_)
    · exact absurd c37 (rne (Ne.symm ne30))
    show Go p e below T6 (mkF m 40 #[.val (.int p1), .val (.int (0 : Int32)), .val (.ref b0), .val (.ref b3), .val (.ref b4), .val (.int (0 : Int32)), .unset] [(.int (0 : Int32))]) _
    refine Go.aload_n X6 hx (hb hby at_40) rfl rfl ?_
    show Go p e below T6 (mkF m 41 #[.val (.int p1), .val (.int (0 : Int32)), .val (.ref b0), .val (.ref b3), .val (.ref b4), .val (.int (0 : Int32)), .unset] [(.ref b0), (.int (0 : Int32))]) _
    refine Go.aload X6 hx (hb hby at_41) rfl rfl ?_
    show Go p e below T6 (mkF m 43 #[.val (.int p1), .val (.int (0 : Int32)), .val (.ref b0), .val (.ref b3), .val (.ref b4), .val (.int (0 : Int32)), .unset] [(.ref b4), (.ref b0), (.int (0 : Int32))]) _
    refine Go.acmp X6 hx (hb hby at_43) (pc' := 50) (by decide) rfl rfl (ac_ne _ _) (fun c43 => ?_) (fun c43 => ?_)
    rotate_left
    · exact absurd (rne (Ne.symm ne40)) c43
    show Go p e below T6 (mkF m 50 #[.val (.int p1), .val (.int (0 : Int32)), .val (.ref b0), .val (.ref b3), .val (.ref b4), .val (.int (0 : Int32)), .unset] [(.int (0 : Int32))]) _
    refine Go.iconst X6 hx (hb hby at_50) ?_
    show Go p e below T6 (mkF m 51 #[.val (.int p1), .val (.int (0 : Int32)), .val (.ref b0), .val (.ref b3), .val (.ref b4), .val (.int (0 : Int32)), .unset] [(.int (0 : Int32)), (.int (0 : Int32))]) _
    refine Go.icmp X6 hx (hb hby at_51) (pc' := 56) (by decide) (ic_eq _ _) (fun c51 => ?_) (fun c51 => ?_)
    rotate_left
    · exact absurd (by decide) c51
    show Go p e below T6 (mkF m 56 #[.val (.int p1), .val (.int (0 : Int32)), .val (.ref b0), .val (.ref b3), .val (.ref b4), .val (.int (0 : Int32)), .unset] []) _
    refine Go.iload X6 hx (hb hby at_56) rfl ?_
    show Go p e below T6 (mkF m 58 #[.val (.int p1), .val (.int (0 : Int32)), .val (.ref b0), .val (.ref b3), .val (.ref b4), .val (.int (0 : Int32)), .unset] [(.int (0 : Int32))]) _
    refine Go.ifc X6 hx (hb hby at_58) (pc' := 88) (by decide) (iz_eq _) (fun c58 => ?_) (fun c58 => ?_)
    rotate_left
    · exact absurd (by decide) c58
    show Go p e below T6 (mkF m 88 #[.val (.int p1), .val (.int (0 : Int32)), .val (.ref b0), .val (.ref b3), .val (.ref b4), .val (.int (0 : Int32)), .unset] []) _
    refine Go.iconst X6 hx (hb hby at_88) ?_
    show Go p e below T6 (mkF m 89 #[.val (.int p1), .val (.int (0 : Int32)), .val (.ref b0), .val (.ref b3), .val (.ref b4), .val (.int (0 : Int32)), .unset] [(.int (1 : Int32))]) _
    refine Go.ret_n X6 hx hret hlk (by simp) (hb hby at_89) (by decide) (by decide) ?_
    rw [e6]
    exact ⟨rfl, N6⟩
  · rw [hi]
    show Go p e below T0 (mkF m 6 #[.val (.int p1), .unset, .unset, .unset, .unset, .unset, .unset] [(.int (1 : Int32))]) _
    refine Go.istore_n X0 hx (hb hby at_6) (L' := #[.val (.int p1), .val (.int (1 : Int32)), .unset, .unset, .unset, .unset, .unset]) rfl ?_
    show Go p e below T0 (mkF m 7 #[.val (.int p1), .val (.int (1 : Int32)), .unset, .unset, .unset, .unset, .unset] []) _
    refine Go.iload_n X0 hx (hb hby at_7) rfl ?_
    show Go p e below T0 (mkF m 8 #[.val (.int p1), .val (.int (1 : Int32)), .unset, .unset, .unset, .unset, .unset] [(.int (1 : Int32))]) _
    refine Go.callS X0 hx hZ hown (hwi hw 1 rfl) (hwi hw 2 rfl) (hwi hw 3 rfl) (hwi hw 4 rfl) (by decide) e0 (argsL := [(.int (1 : Int32))]) (rmpk1 l Z a0 hw b0 b1 b2 b3 b4 h0 n0 Z0 ty) hml rfl (ps := [.int]) (r := (some (.object "com/example/fylgja/fylgja/Type"))) (by decide +kernel) rfl (rest := []) rfl (W := 0) (Nat.le_of_eq rfl) (by decide) (by decide) (by decide) (by decide) (hb hby at_8) ?_
    rintro _ T7 L7 X7 ⟨rfl, Nq7, e7⟩
    have N7 := Fr.app N0 Nq7
    show Go p e below T7 (mkF m 11 #[.val (.int p1), .val (.int (1 : Int32)), .unset, .unset, .unset, .unset, .unset] [(.ref b1)]) _
    refine Go.astore_n X7 hx (hb hby at_11) rfl (L' := #[.val (.int p1), .val (.int (1 : Int32)), .val (.ref b1), .unset, .unset, .unset, .unset]) rfl ?_
    show Go p e below T7 (mkF m 12 #[.val (.int p1), .val (.int (1 : Int32)), .val (.ref b1), .unset, .unset, .unset, .unset] []) _
    refine Go.getS X7 hx hZ hown (hwi hw 8 rfl) e7 S1 (hb hby at_12) ?_
    intro T8 X8 e8
    show Go p e below T8 (mkF m 15 #[.val (.int p1), .val (.int (1 : Int32)), .val (.ref b1), .unset, .unset, .unset, .unset] [(.ref b1)]) _
    refine Go.callV X8 hx hZ hown (hwi hw 10 rfl) (hwi hw 11 rfl) (notFace_of_selects (args := #[]) (mvT hZ (hwi hw 13 rfl))) (hwi hw 13 rfl) (hwi hw 12 rfl) (hwi hw 14 rfl) (hwi hw 6 rfl) (by decide) e8 E1 (argsL := []) (rmli1 l Z a0 hw b0 b1 b2 b3 b4 h0 n0 Z0 ty) hml rfl (ps := []) (r := (some (.object "com/example/fylgja/fylgja/Type"))) (by decide +kernel) rfl (rest := []) rfl (W := 0) (Nat.le_of_eq rfl) (by decide) (by decide) (by decide) (by decide) (hb hby at_15) ?_
    rintro _ T9 L9 X9 ⟨rfl, Nq9, e9⟩
    have N9 := Fr.app N7 Nq9
    show Go p e below T9 (mkF m 18 #[.val (.int p1), .val (.int (1 : Int32)), .val (.ref b1), .unset, .unset, .unset, .unset] [(.ref b3)]) _
    refine Go.astore_n X9 hx (hb hby at_18) rfl (L' := #[.val (.int p1), .val (.int (1 : Int32)), .val (.ref b1), .val (.ref b3), .unset, .unset, .unset]) rfl ?_
    show Go p e below T9 (mkF m 19 #[.val (.int p1), .val (.int (1 : Int32)), .val (.ref b1), .val (.ref b3), .unset, .unset, .unset] []) _
    refine Go.getS X9 hx hZ hown (hwi hw 18 rfl) e9 S2 (hb hby at_19) ?_
    intro T10 X10 e10
    show Go p e below T10 (mkF m 22 #[.val (.int p1), .val (.int (1 : Int32)), .val (.ref b1), .val (.ref b3), .unset, .unset, .unset] [(.ref b2)]) _
    refine Go.callV X10 hx hZ hown (hwi hw 10 rfl) (hwi hw 11 rfl) (notFace_of_selects (args := #[]) (mvT hZ (hwi hw 13 rfl))) (hwi hw 13 rfl) (hwi hw 12 rfl) (hwi hw 14 rfl) (hwi hw 6 rfl) (by decide) e10 E2 (argsL := []) (rmli2 l Z a0 hw b0 b1 b2 b3 b4 h0 n0 Z0 ty) hml rfl (ps := []) (r := (some (.object "com/example/fylgja/fylgja/Type"))) (by decide +kernel) rfl (rest := []) rfl (W := 0) (Nat.le_of_eq rfl) (by decide) (by decide) (by decide) (by decide) (hb hby at_22) ?_
    rintro _ T11 L11 X11 ⟨rfl, Nq11, e11⟩
    have N11 := Fr.app N9 Nq11
    show Go p e below T11 (mkF m 25 #[.val (.int p1), .val (.int (1 : Int32)), .val (.ref b1), .val (.ref b3), .unset, .unset, .unset] [(.ref b4)]) _
    refine Go.astore X11 hx (hb hby at_25) rfl (L' := #[.val (.int p1), .val (.int (1 : Int32)), .val (.ref b1), .val (.ref b3), .val (.ref b4), .unset, .unset]) rfl ?_
    show Go p e below T11 (mkF m 27 #[.val (.int p1), .val (.int (1 : Int32)), .val (.ref b1), .val (.ref b3), .val (.ref b4), .unset, .unset] []) _
    refine Go.aload_n X11 hx (hb hby at_27) rfl rfl ?_
    show Go p e below T11 (mkF m 28 #[.val (.int p1), .val (.int (1 : Int32)), .val (.ref b1), .val (.ref b3), .val (.ref b4), .unset, .unset] [(.ref b1)]) _
    refine Go.callV X11 hx hZ hown (hwi hw 23 rfl) (hwi hw 24 rfl) (notFace_of_selects (args := #[]) (mvT hZ (hwi hw 26 rfl))) (hwi hw 26 rfl) (hwi hw 25 rfl) (hwi hw 27 rfl) (hwi hw 6 rfl) (by decide) e11 E1 (argsL := []) (rmil1 l Z a0 hw b0 b1 b2 b3 b4 h0 n0 Z0 ty) hml rfl (ps := []) (r := (some .boolean)) (by decide +kernel) rfl (rest := []) rfl (W := 0) (Nat.le_of_eq rfl) (by decide) (by decide) (by decide) (by decide) (hb hby at_28) ?_
    rintro _ T12 L12 X12 ⟨rfl, Nq12, e12⟩
    have N12 := Fr.app N11 Nq12
    show Go p e below T12 (mkF m 31 #[.val (.int p1), .val (.int (1 : Int32)), .val (.ref b1), .val (.ref b3), .val (.ref b4), .unset, .unset] [(.int (0 : Int32))]) _
    refine Go.istore X12 hx (hb hby at_31) (L' := #[.val (.int p1), .val (.int (1 : Int32)), .val (.ref b1), .val (.ref b3), .val (.ref b4), .val (.int (0 : Int32)), .unset]) rfl ?_
    show Go p e below T12 (mkF m 33 #[.val (.int p1), .val (.int (1 : Int32)), .val (.ref b1), .val (.ref b3), .val (.ref b4), .val (.int (0 : Int32)), .unset] []) _
    refine Go.iload X12 hx (hb hby at_33) rfl ?_
    show Go p e below T12 (mkF m 35 #[.val (.int p1), .val (.int (1 : Int32)), .val (.ref b1), .val (.ref b3), .val (.ref b4), .val (.int (0 : Int32)), .unset] [(.int (0 : Int32))]) _
    refine Go.aload_n X12 hx (hb hby at_35) rfl rfl ?_
    show Go p e below T12 (mkF m 36 #[.val (.int p1), .val (.int (1 : Int32)), .val (.ref b1), .val (.ref b3), .val (.ref b4), .val (.int (0 : Int32)), .unset] [(.ref b1), (.int (0 : Int32))]) _
    refine Go.aload_n X12 hx (hb hby at_36) rfl rfl ?_
    show Go p e below T12 (mkF m 37 #[.val (.int p1), .val (.int (1 : Int32)), .val (.ref b1), .val (.ref b3), .val (.ref b4), .val (.int (0 : Int32)), .unset] [(.ref b3), (.ref b1), (.int (0 : Int32))]) _
    refine Go.acmp X12 hx (hb hby at_37) (pc' := 46) (by decide) rfl rfl (ac_eq _ _) (fun c37 => ?_) (fun c37 => ?_)
    · exact absurd c37 (rne (Ne.symm ne31))
    show Go p e below T12 (mkF m 40 #[.val (.int p1), .val (.int (1 : Int32)), .val (.ref b1), .val (.ref b3), .val (.ref b4), .val (.int (0 : Int32)), .unset] [(.int (0 : Int32))]) _
    refine Go.aload_n X12 hx (hb hby at_40) rfl rfl ?_
    show Go p e below T12 (mkF m 41 #[.val (.int p1), .val (.int (1 : Int32)), .val (.ref b1), .val (.ref b3), .val (.ref b4), .val (.int (0 : Int32)), .unset] [(.ref b1), (.int (0 : Int32))]) _
    refine Go.aload X12 hx (hb hby at_41) rfl rfl ?_
    show Go p e below T12 (mkF m 43 #[.val (.int p1), .val (.int (1 : Int32)), .val (.ref b1), .val (.ref b3), .val (.ref b4), .val (.int (0 : Int32)), .unset] [(.ref b4), (.ref b1), (.int (0 : Int32))]) _
    refine Go.acmp X12 hx (hb hby at_43) (pc' := 50) (by decide) rfl rfl (ac_ne _ _) (fun c43 => ?_) (fun c43 => ?_)
    rotate_left
    · exact absurd (rne (Ne.symm ne41)) c43
    show Go p e below T12 (mkF m 50 #[.val (.int p1), .val (.int (1 : Int32)), .val (.ref b1), .val (.ref b3), .val (.ref b4), .val (.int (0 : Int32)), .unset] [(.int (0 : Int32))]) _
    refine Go.iconst X12 hx (hb hby at_50) ?_
    show Go p e below T12 (mkF m 51 #[.val (.int p1), .val (.int (1 : Int32)), .val (.ref b1), .val (.ref b3), .val (.ref b4), .val (.int (0 : Int32)), .unset] [(.int (0 : Int32)), (.int (0 : Int32))]) _
    refine Go.icmp X12 hx (hb hby at_51) (pc' := 56) (by decide) (ic_eq _ _) (fun c51 => ?_) (fun c51 => ?_)
    rotate_left
    · exact absurd (by decide) c51
    show Go p e below T12 (mkF m 56 #[.val (.int p1), .val (.int (1 : Int32)), .val (.ref b1), .val (.ref b3), .val (.ref b4), .val (.int (0 : Int32)), .unset] []) _
    refine Go.iload X12 hx (hb hby at_56) rfl ?_
    show Go p e below T12 (mkF m 58 #[.val (.int p1), .val (.int (1 : Int32)), .val (.ref b1), .val (.ref b3), .val (.ref b4), .val (.int (0 : Int32)), .unset] [(.int (0 : Int32))]) _
    refine Go.ifc X12 hx (hb hby at_58) (pc' := 88) (by decide) (iz_eq _) (fun c58 => ?_) (fun c58 => ?_)
    rotate_left
    · exact absurd (by decide) c58
    show Go p e below T12 (mkF m 88 #[.val (.int p1), .val (.int (1 : Int32)), .val (.ref b1), .val (.ref b3), .val (.ref b4), .val (.int (0 : Int32)), .unset] []) _
    refine Go.iconst X12 hx (hb hby at_88) ?_
    show Go p e below T12 (mkF m 89 #[.val (.int p1), .val (.int (1 : Int32)), .val (.ref b1), .val (.ref b3), .val (.ref b4), .val (.int (0 : Int32)), .unset] [(.int (1 : Int32))]) _
    refine Go.ret_n X12 hx hret hlk (by simp) (hb hby at_89) (by decide) (by decide) ?_
    rw [e12]
    exact ⟨rfl, N12⟩
  · rw [hi]
    show Go p e below T0 (mkF m 6 #[.val (.int p1), .unset, .unset, .unset, .unset, .unset, .unset] [(.int (2 : Int32))]) _
    refine Go.istore_n X0 hx (hb hby at_6) (L' := #[.val (.int p1), .val (.int (2 : Int32)), .unset, .unset, .unset, .unset, .unset]) rfl ?_
    show Go p e below T0 (mkF m 7 #[.val (.int p1), .val (.int (2 : Int32)), .unset, .unset, .unset, .unset, .unset] []) _
    refine Go.iload_n X0 hx (hb hby at_7) rfl ?_
    show Go p e below T0 (mkF m 8 #[.val (.int p1), .val (.int (2 : Int32)), .unset, .unset, .unset, .unset, .unset] [(.int (2 : Int32))]) _
    refine Go.callS X0 hx hZ hown (hwi hw 1 rfl) (hwi hw 2 rfl) (hwi hw 3 rfl) (hwi hw 4 rfl) (by decide) e0 (argsL := [(.int (2 : Int32))]) (rmpk2 l Z a0 hw b0 b1 b2 b3 b4 h0 n0 Z0 ty) hml rfl (ps := [.int]) (r := (some (.object "com/example/fylgja/fylgja/Type"))) (by decide +kernel) rfl (rest := []) rfl (W := 0) (Nat.le_of_eq rfl) (by decide) (by decide) (by decide) (by decide) (hb hby at_8) ?_
    rintro _ T13 L13 X13 ⟨rfl, Nq13, e13⟩
    have N13 := Fr.app N0 Nq13
    show Go p e below T13 (mkF m 11 #[.val (.int p1), .val (.int (2 : Int32)), .unset, .unset, .unset, .unset, .unset] [(.ref b2)]) _
    refine Go.astore_n X13 hx (hb hby at_11) rfl (L' := #[.val (.int p1), .val (.int (2 : Int32)), .val (.ref b2), .unset, .unset, .unset, .unset]) rfl ?_
    show Go p e below T13 (mkF m 12 #[.val (.int p1), .val (.int (2 : Int32)), .val (.ref b2), .unset, .unset, .unset, .unset] []) _
    refine Go.getS X13 hx hZ hown (hwi hw 8 rfl) e13 S1 (hb hby at_12) ?_
    intro T14 X14 e14
    show Go p e below T14 (mkF m 15 #[.val (.int p1), .val (.int (2 : Int32)), .val (.ref b2), .unset, .unset, .unset, .unset] [(.ref b1)]) _
    refine Go.callV X14 hx hZ hown (hwi hw 10 rfl) (hwi hw 11 rfl) (notFace_of_selects (args := #[]) (mvT hZ (hwi hw 13 rfl))) (hwi hw 13 rfl) (hwi hw 12 rfl) (hwi hw 14 rfl) (hwi hw 6 rfl) (by decide) e14 E1 (argsL := []) (rmli1 l Z a0 hw b0 b1 b2 b3 b4 h0 n0 Z0 ty) hml rfl (ps := []) (r := (some (.object "com/example/fylgja/fylgja/Type"))) (by decide +kernel) rfl (rest := []) rfl (W := 0) (Nat.le_of_eq rfl) (by decide) (by decide) (by decide) (by decide) (hb hby at_15) ?_
    rintro _ T15 L15 X15 ⟨rfl, Nq15, e15⟩
    have N15 := Fr.app N13 Nq15
    show Go p e below T15 (mkF m 18 #[.val (.int p1), .val (.int (2 : Int32)), .val (.ref b2), .unset, .unset, .unset, .unset] [(.ref b3)]) _
    refine Go.astore_n X15 hx (hb hby at_18) rfl (L' := #[.val (.int p1), .val (.int (2 : Int32)), .val (.ref b2), .val (.ref b3), .unset, .unset, .unset]) rfl ?_
    show Go p e below T15 (mkF m 19 #[.val (.int p1), .val (.int (2 : Int32)), .val (.ref b2), .val (.ref b3), .unset, .unset, .unset] []) _
    refine Go.getS X15 hx hZ hown (hwi hw 18 rfl) e15 S2 (hb hby at_19) ?_
    intro T16 X16 e16
    show Go p e below T16 (mkF m 22 #[.val (.int p1), .val (.int (2 : Int32)), .val (.ref b2), .val (.ref b3), .unset, .unset, .unset] [(.ref b2)]) _
    refine Go.callV X16 hx hZ hown (hwi hw 10 rfl) (hwi hw 11 rfl) (notFace_of_selects (args := #[]) (mvT hZ (hwi hw 13 rfl))) (hwi hw 13 rfl) (hwi hw 12 rfl) (hwi hw 14 rfl) (hwi hw 6 rfl) (by decide) e16 E2 (argsL := []) (rmli2 l Z a0 hw b0 b1 b2 b3 b4 h0 n0 Z0 ty) hml rfl (ps := []) (r := (some (.object "com/example/fylgja/fylgja/Type"))) (by decide +kernel) rfl (rest := []) rfl (W := 0) (Nat.le_of_eq rfl) (by decide) (by decide) (by decide) (by decide) (hb hby at_22) ?_
    rintro _ T17 L17 X17 ⟨rfl, Nq17, e17⟩
    have N17 := Fr.app N15 Nq17
    show Go p e below T17 (mkF m 25 #[.val (.int p1), .val (.int (2 : Int32)), .val (.ref b2), .val (.ref b3), .unset, .unset, .unset] [(.ref b4)]) _
    refine Go.astore X17 hx (hb hby at_25) rfl (L' := #[.val (.int p1), .val (.int (2 : Int32)), .val (.ref b2), .val (.ref b3), .val (.ref b4), .unset, .unset]) rfl ?_
    show Go p e below T17 (mkF m 27 #[.val (.int p1), .val (.int (2 : Int32)), .val (.ref b2), .val (.ref b3), .val (.ref b4), .unset, .unset] []) _
    refine Go.aload_n X17 hx (hb hby at_27) rfl rfl ?_
    show Go p e below T17 (mkF m 28 #[.val (.int p1), .val (.int (2 : Int32)), .val (.ref b2), .val (.ref b3), .val (.ref b4), .unset, .unset] [(.ref b2)]) _
    refine Go.callV X17 hx hZ hown (hwi hw 23 rfl) (hwi hw 24 rfl) (notFace_of_selects (args := #[]) (mvT hZ (hwi hw 26 rfl))) (hwi hw 26 rfl) (hwi hw 25 rfl) (hwi hw 27 rfl) (hwi hw 6 rfl) (by decide) e17 E2 (argsL := []) (rmil2 l Z a0 hw b0 b1 b2 b3 b4 h0 n0 Z0 ty) hml rfl (ps := []) (r := (some .boolean)) (by decide +kernel) rfl (rest := []) rfl (W := 0) (Nat.le_of_eq rfl) (by decide) (by decide) (by decide) (by decide) (hb hby at_28) ?_
    rintro _ T18 L18 X18 ⟨rfl, Nq18, e18⟩
    have N18 := Fr.app N17 Nq18
    show Go p e below T18 (mkF m 31 #[.val (.int p1), .val (.int (2 : Int32)), .val (.ref b2), .val (.ref b3), .val (.ref b4), .unset, .unset] [(.int (0 : Int32))]) _
    refine Go.istore X18 hx (hb hby at_31) (L' := #[.val (.int p1), .val (.int (2 : Int32)), .val (.ref b2), .val (.ref b3), .val (.ref b4), .val (.int (0 : Int32)), .unset]) rfl ?_
    show Go p e below T18 (mkF m 33 #[.val (.int p1), .val (.int (2 : Int32)), .val (.ref b2), .val (.ref b3), .val (.ref b4), .val (.int (0 : Int32)), .unset] []) _
    refine Go.iload X18 hx (hb hby at_33) rfl ?_
    show Go p e below T18 (mkF m 35 #[.val (.int p1), .val (.int (2 : Int32)), .val (.ref b2), .val (.ref b3), .val (.ref b4), .val (.int (0 : Int32)), .unset] [(.int (0 : Int32))]) _
    refine Go.aload_n X18 hx (hb hby at_35) rfl rfl ?_
    show Go p e below T18 (mkF m 36 #[.val (.int p1), .val (.int (2 : Int32)), .val (.ref b2), .val (.ref b3), .val (.ref b4), .val (.int (0 : Int32)), .unset] [(.ref b2), (.int (0 : Int32))]) _
    refine Go.aload_n X18 hx (hb hby at_36) rfl rfl ?_
    show Go p e below T18 (mkF m 37 #[.val (.int p1), .val (.int (2 : Int32)), .val (.ref b2), .val (.ref b3), .val (.ref b4), .val (.int (0 : Int32)), .unset] [(.ref b3), (.ref b2), (.int (0 : Int32))]) _
    refine Go.acmp X18 hx (hb hby at_37) (pc' := 46) (by decide) rfl rfl (ac_eq _ _) (fun c37 => ?_) (fun c37 => ?_)
    · exact absurd c37 (rne (Ne.symm ne32))
    show Go p e below T18 (mkF m 40 #[.val (.int p1), .val (.int (2 : Int32)), .val (.ref b2), .val (.ref b3), .val (.ref b4), .val (.int (0 : Int32)), .unset] [(.int (0 : Int32))]) _
    refine Go.aload_n X18 hx (hb hby at_40) rfl rfl ?_
    show Go p e below T18 (mkF m 41 #[.val (.int p1), .val (.int (2 : Int32)), .val (.ref b2), .val (.ref b3), .val (.ref b4), .val (.int (0 : Int32)), .unset] [(.ref b2), (.int (0 : Int32))]) _
    refine Go.aload X18 hx (hb hby at_41) rfl rfl ?_
    show Go p e below T18 (mkF m 43 #[.val (.int p1), .val (.int (2 : Int32)), .val (.ref b2), .val (.ref b3), .val (.ref b4), .val (.int (0 : Int32)), .unset] [(.ref b4), (.ref b2), (.int (0 : Int32))]) _
    refine Go.acmp X18 hx (hb hby at_43) (pc' := 50) (by decide) rfl rfl (ac_ne _ _) (fun c43 => ?_) (fun c43 => ?_)
    rotate_left
    · exact absurd (rne (Ne.symm ne42)) c43
    show Go p e below T18 (mkF m 50 #[.val (.int p1), .val (.int (2 : Int32)), .val (.ref b2), .val (.ref b3), .val (.ref b4), .val (.int (0 : Int32)), .unset] [(.int (0 : Int32))]) _
    refine Go.iconst X18 hx (hb hby at_50) ?_
    show Go p e below T18 (mkF m 51 #[.val (.int p1), .val (.int (2 : Int32)), .val (.ref b2), .val (.ref b3), .val (.ref b4), .val (.int (0 : Int32)), .unset] [(.int (0 : Int32)), (.int (0 : Int32))]) _
    refine Go.icmp X18 hx (hb hby at_51) (pc' := 56) (by decide) (ic_eq _ _) (fun c51 => ?_) (fun c51 => ?_)
    rotate_left
    · exact absurd (by decide) c51
    show Go p e below T18 (mkF m 56 #[.val (.int p1), .val (.int (2 : Int32)), .val (.ref b2), .val (.ref b3), .val (.ref b4), .val (.int (0 : Int32)), .unset] []) _
    refine Go.iload X18 hx (hb hby at_56) rfl ?_
    show Go p e below T18 (mkF m 58 #[.val (.int p1), .val (.int (2 : Int32)), .val (.ref b2), .val (.ref b3), .val (.ref b4), .val (.int (0 : Int32)), .unset] [(.int (0 : Int32))]) _
    refine Go.ifc X18 hx (hb hby at_58) (pc' := 88) (by decide) (iz_eq _) (fun c58 => ?_) (fun c58 => ?_)
    rotate_left
    · exact absurd (by decide) c58
    show Go p e below T18 (mkF m 88 #[.val (.int p1), .val (.int (2 : Int32)), .val (.ref b2), .val (.ref b3), .val (.ref b4), .val (.int (0 : Int32)), .unset] []) _
    refine Go.iconst X18 hx (hb hby at_88) ?_
    show Go p e below T18 (mkF m 89 #[.val (.int p1), .val (.int (2 : Int32)), .val (.ref b2), .val (.ref b3), .val (.ref b4), .val (.int (0 : Int32)), .unset] [(.int (1 : Int32))]) _
    refine Go.ret_n X18 hx hret hlk (by simp) (hb hby at_89) (by decide) (by decide) ?_
    rw [e18]
    exact ⟨rfl, N18⟩
  · rw [hi]
    show Go p e below T0 (mkF m 6 #[.val (.int p1), .unset, .unset, .unset, .unset, .unset, .unset] [(.int (3 : Int32))]) _
    refine Go.istore_n X0 hx (hb hby at_6) (L' := #[.val (.int p1), .val (.int (3 : Int32)), .unset, .unset, .unset, .unset, .unset]) rfl ?_
    show Go p e below T0 (mkF m 7 #[.val (.int p1), .val (.int (3 : Int32)), .unset, .unset, .unset, .unset, .unset] []) _
    refine Go.iload_n X0 hx (hb hby at_7) rfl ?_
    show Go p e below T0 (mkF m 8 #[.val (.int p1), .val (.int (3 : Int32)), .unset, .unset, .unset, .unset, .unset] [(.int (3 : Int32))]) _
    refine Go.callS X0 hx hZ hown (hwi hw 1 rfl) (hwi hw 2 rfl) (hwi hw 3 rfl) (hwi hw 4 rfl) (by decide) e0 (argsL := [(.int (3 : Int32))]) (rmpk3 l Z a0 hw b0 b1 b2 b3 b4 h0 n0 Z0 ty) hml rfl (ps := [.int]) (r := (some (.object "com/example/fylgja/fylgja/Type"))) (by decide +kernel) rfl (rest := []) rfl (W := 0) (Nat.le_of_eq rfl) (by decide) (by decide) (by decide) (by decide) (hb hby at_8) ?_
    rintro _ T19 L19 X19 ⟨rfl, Nq19, e19⟩
    have N19 := Fr.app N0 Nq19
    show Go p e below T19 (mkF m 11 #[.val (.int p1), .val (.int (3 : Int32)), .unset, .unset, .unset, .unset, .unset] [(.ref b3)]) _
    refine Go.astore_n X19 hx (hb hby at_11) rfl (L' := #[.val (.int p1), .val (.int (3 : Int32)), .val (.ref b3), .unset, .unset, .unset, .unset]) rfl ?_
    show Go p e below T19 (mkF m 12 #[.val (.int p1), .val (.int (3 : Int32)), .val (.ref b3), .unset, .unset, .unset, .unset] []) _
    refine Go.getS X19 hx hZ hown (hwi hw 8 rfl) e19 S1 (hb hby at_12) ?_
    intro T20 X20 e20
    show Go p e below T20 (mkF m 15 #[.val (.int p1), .val (.int (3 : Int32)), .val (.ref b3), .unset, .unset, .unset, .unset] [(.ref b1)]) _
    refine Go.callV X20 hx hZ hown (hwi hw 10 rfl) (hwi hw 11 rfl) (notFace_of_selects (args := #[]) (mvT hZ (hwi hw 13 rfl))) (hwi hw 13 rfl) (hwi hw 12 rfl) (hwi hw 14 rfl) (hwi hw 6 rfl) (by decide) e20 E1 (argsL := []) (rmli1 l Z a0 hw b0 b1 b2 b3 b4 h0 n0 Z0 ty) hml rfl (ps := []) (r := (some (.object "com/example/fylgja/fylgja/Type"))) (by decide +kernel) rfl (rest := []) rfl (W := 0) (Nat.le_of_eq rfl) (by decide) (by decide) (by decide) (by decide) (hb hby at_15) ?_
    rintro _ T21 L21 X21 ⟨rfl, Nq21, e21⟩
    have N21 := Fr.app N19 Nq21
    show Go p e below T21 (mkF m 18 #[.val (.int p1), .val (.int (3 : Int32)), .val (.ref b3), .unset, .unset, .unset, .unset] [(.ref b3)]) _
    refine Go.astore_n X21 hx (hb hby at_18) rfl (L' := #[.val (.int p1), .val (.int (3 : Int32)), .val (.ref b3), .val (.ref b3), .unset, .unset, .unset]) rfl ?_
    show Go p e below T21 (mkF m 19 #[.val (.int p1), .val (.int (3 : Int32)), .val (.ref b3), .val (.ref b3), .unset, .unset, .unset] []) _
    refine Go.getS X21 hx hZ hown (hwi hw 18 rfl) e21 S2 (hb hby at_19) ?_
    intro T22 X22 e22
    show Go p e below T22 (mkF m 22 #[.val (.int p1), .val (.int (3 : Int32)), .val (.ref b3), .val (.ref b3), .unset, .unset, .unset] [(.ref b2)]) _
    refine Go.callV X22 hx hZ hown (hwi hw 10 rfl) (hwi hw 11 rfl) (notFace_of_selects (args := #[]) (mvT hZ (hwi hw 13 rfl))) (hwi hw 13 rfl) (hwi hw 12 rfl) (hwi hw 14 rfl) (hwi hw 6 rfl) (by decide) e22 E2 (argsL := []) (rmli2 l Z a0 hw b0 b1 b2 b3 b4 h0 n0 Z0 ty) hml rfl (ps := []) (r := (some (.object "com/example/fylgja/fylgja/Type"))) (by decide +kernel) rfl (rest := []) rfl (W := 0) (Nat.le_of_eq rfl) (by decide) (by decide) (by decide) (by decide) (hb hby at_22) ?_
    rintro _ T23 L23 X23 ⟨rfl, Nq23, e23⟩
    have N23 := Fr.app N21 Nq23
    show Go p e below T23 (mkF m 25 #[.val (.int p1), .val (.int (3 : Int32)), .val (.ref b3), .val (.ref b3), .unset, .unset, .unset] [(.ref b4)]) _
    refine Go.astore X23 hx (hb hby at_25) rfl (L' := #[.val (.int p1), .val (.int (3 : Int32)), .val (.ref b3), .val (.ref b3), .val (.ref b4), .unset, .unset]) rfl ?_
    show Go p e below T23 (mkF m 27 #[.val (.int p1), .val (.int (3 : Int32)), .val (.ref b3), .val (.ref b3), .val (.ref b4), .unset, .unset] []) _
    refine Go.aload_n X23 hx (hb hby at_27) rfl rfl ?_
    show Go p e below T23 (mkF m 28 #[.val (.int p1), .val (.int (3 : Int32)), .val (.ref b3), .val (.ref b3), .val (.ref b4), .unset, .unset] [(.ref b3)]) _
    refine Go.callV X23 hx hZ hown (hwi hw 23 rfl) (hwi hw 24 rfl) (notFace_of_selects (args := #[]) (mvT hZ (hwi hw 26 rfl))) (hwi hw 26 rfl) (hwi hw 25 rfl) (hwi hw 27 rfl) (hwi hw 6 rfl) (by decide) e23 E3 (argsL := []) (rmil3 l Z a0 hw b0 b1 b2 b3 b4 h0 n0 Z0 ty) hml rfl (ps := []) (r := (some .boolean)) (by decide +kernel) rfl (rest := []) rfl (W := 0) (Nat.le_of_eq rfl) (by decide) (by decide) (by decide) (by decide) (hb hby at_28) ?_
    rintro _ T24 L24 X24 ⟨rfl, Nq24, e24⟩
    have N24 := Fr.app N23 Nq24
    show Go p e below T24 (mkF m 31 #[.val (.int p1), .val (.int (3 : Int32)), .val (.ref b3), .val (.ref b3), .val (.ref b4), .unset, .unset] [(.int (1 : Int32))]) _
    refine Go.istore X24 hx (hb hby at_31) (L' := #[.val (.int p1), .val (.int (3 : Int32)), .val (.ref b3), .val (.ref b3), .val (.ref b4), .val (.int (1 : Int32)), .unset]) rfl ?_
    show Go p e below T24 (mkF m 33 #[.val (.int p1), .val (.int (3 : Int32)), .val (.ref b3), .val (.ref b3), .val (.ref b4), .val (.int (1 : Int32)), .unset] []) _
    refine Go.iload X24 hx (hb hby at_33) rfl ?_
    show Go p e below T24 (mkF m 35 #[.val (.int p1), .val (.int (3 : Int32)), .val (.ref b3), .val (.ref b3), .val (.ref b4), .val (.int (1 : Int32)), .unset] [(.int (1 : Int32))]) _
    refine Go.aload_n X24 hx (hb hby at_35) rfl rfl ?_
    show Go p e below T24 (mkF m 36 #[.val (.int p1), .val (.int (3 : Int32)), .val (.ref b3), .val (.ref b3), .val (.ref b4), .val (.int (1 : Int32)), .unset] [(.ref b3), (.int (1 : Int32))]) _
    refine Go.aload_n X24 hx (hb hby at_36) rfl rfl ?_
    show Go p e below T24 (mkF m 37 #[.val (.int p1), .val (.int (3 : Int32)), .val (.ref b3), .val (.ref b3), .val (.ref b4), .val (.int (1 : Int32)), .unset] [(.ref b3), (.ref b3), (.int (1 : Int32))]) _
    refine Go.acmp X24 hx (hb hby at_37) (pc' := 46) (by decide) rfl rfl (ac_eq _ _) (fun c37 => ?_) (fun c37 => ?_)
    rotate_left
    · exact absurd rfl c37
    show Go p e below T24 (mkF m 46 #[.val (.int p1), .val (.int (3 : Int32)), .val (.ref b3), .val (.ref b3), .val (.ref b4), .val (.int (1 : Int32)), .unset] [(.int (1 : Int32))]) _
    refine Go.iconst X24 hx (hb hby at_46) ?_
    show Go p e below T24 (mkF m 47 #[.val (.int p1), .val (.int (3 : Int32)), .val (.ref b3), .val (.ref b3), .val (.ref b4), .val (.int (1 : Int32)), .unset] [(.int (1 : Int32)), (.int (1 : Int32))]) _
    refine Go.goto X24 hx (hb hby at_47) (pc' := 51) (by decide) ?_
    show Go p e below T24 (mkF m 51 #[.val (.int p1), .val (.int (3 : Int32)), .val (.ref b3), .val (.ref b3), .val (.ref b4), .val (.int (1 : Int32)), .unset] [(.int (1 : Int32)), (.int (1 : Int32))]) _
    refine Go.icmp X24 hx (hb hby at_51) (pc' := 56) (by decide) (ic_eq _ _) (fun c51 => ?_) (fun c51 => ?_)
    rotate_left
    · exact absurd (by decide) c51
    show Go p e below T24 (mkF m 56 #[.val (.int p1), .val (.int (3 : Int32)), .val (.ref b3), .val (.ref b3), .val (.ref b4), .val (.int (1 : Int32)), .unset] []) _
    refine Go.iload X24 hx (hb hby at_56) rfl ?_
    show Go p e below T24 (mkF m 58 #[.val (.int p1), .val (.int (3 : Int32)), .val (.ref b3), .val (.ref b3), .val (.ref b4), .val (.int (1 : Int32)), .unset] [(.int (1 : Int32))]) _
    refine Go.ifc X24 hx (hb hby at_58) (pc' := 88) (by decide) (iz_eq _) (fun c58 => ?_) (fun c58 => ?_)
    · exact absurd c58 (by decide)
    show Go p e below T24 (mkF m 61 #[.val (.int p1), .val (.int (3 : Int32)), .val (.ref b3), .val (.ref b3), .val (.ref b4), .val (.int (1 : Int32)), .unset] []) _
    refine Go.aload_n X24 hx (hb hby at_61) rfl rfl ?_
    show Go p e below T24 (mkF m 62 #[.val (.int p1), .val (.int (3 : Int32)), .val (.ref b3), .val (.ref b3), .val (.ref b4), .val (.int (1 : Int32)), .unset] [(.ref b3)]) _
    refine Go.callV X24 hx hZ hown (hwi hw 29 rfl) (hwi hw 30 rfl) (notFace_of_selects (args := #[]) (mvT hZ (hwi hw 32 rfl))) (hwi hw 32 rfl) (hwi hw 31 rfl) (hwi hw 33 rfl) (hwi hw 6 rfl) (by decide) e24 E3 (argsL := []) (rmel3 l Z a0 hw b0 b1 b2 b3 b4 h0 n0 Z0 ty) hml rfl (ps := []) (r := (some (.object "com/example/fylgja/fylgja/Type"))) (by decide +kernel) rfl (rest := []) rfl (W := 0) (Nat.le_of_eq rfl) (by decide) (by decide) (by decide) (by decide) (hb hby at_62) ?_
    rintro _ T25 L25 X25 ⟨rfl, Nq25, e25⟩
    have N25 := Fr.app N24 Nq25
    show Go p e below T25 (mkF m 65 #[.val (.int p1), .val (.int (3 : Int32)), .val (.ref b3), .val (.ref b3), .val (.ref b4), .val (.int (1 : Int32)), .unset] [(.ref b1)]) _
    refine Go.astore X25 hx (hb hby at_65) rfl (L' := #[.val (.int p1), .val (.int (3 : Int32)), .val (.ref b3), .val (.ref b3), .val (.ref b4), .val (.int (1 : Int32)), .val (.ref b1)]) rfl ?_
    show Go p e below T25 (mkF m 67 #[.val (.int p1), .val (.int (3 : Int32)), .val (.ref b3), .val (.ref b3), .val (.ref b4), .val (.int (1 : Int32)), .val (.ref b1)] []) _
    refine Go.aload X25 hx (hb hby at_67) rfl rfl ?_
    show Go p e below T25 (mkF m 69 #[.val (.int p1), .val (.int (3 : Int32)), .val (.ref b3), .val (.ref b3), .val (.ref b4), .val (.int (1 : Int32)), .val (.ref b1)] [(.ref b1)]) _
    refine Go.callV X25 hx hZ hown (hwi hw 23 rfl) (hwi hw 24 rfl) (notFace_of_selects (args := #[]) (mvT hZ (hwi hw 26 rfl))) (hwi hw 26 rfl) (hwi hw 25 rfl) (hwi hw 27 rfl) (hwi hw 6 rfl) (by decide) e25 E1 (argsL := []) (rmil1 l Z a0 hw b0 b1 b2 b3 b4 h0 n0 Z0 ty) hml rfl (ps := []) (r := (some .boolean)) (by decide +kernel) rfl (rest := []) rfl (W := 0) (Nat.le_of_eq rfl) (by decide) (by decide) (by decide) (by decide) (hb hby at_69) ?_
    rintro _ T26 L26 X26 ⟨rfl, Nq26, e26⟩
    have N26 := Fr.app N25 Nq26
    show Go p e below T26 (mkF m 72 #[.val (.int p1), .val (.int (3 : Int32)), .val (.ref b3), .val (.ref b3), .val (.ref b4), .val (.int (1 : Int32)), .val (.ref b1)] [(.int (0 : Int32))]) _
    refine Go.ifc X26 hx (hb hby at_72) (pc' := 77) (by decide) (iz_eq _) (fun c72 => ?_) (fun c72 => ?_)
    rotate_left
    · exact absurd (by decide) c72
    show Go p e below T26 (mkF m 77 #[.val (.int p1), .val (.int (3 : Int32)), .val (.ref b3), .val (.ref b3), .val (.ref b4), .val (.int (1 : Int32)), .val (.ref b1)] []) _
    refine Go.aload X26 hx (hb hby at_77) rfl rfl ?_
    show Go p e below T26 (mkF m 79 #[.val (.int p1), .val (.int (3 : Int32)), .val (.ref b3), .val (.ref b3), .val (.ref b4), .val (.int (1 : Int32)), .val (.ref b1)] [(.ref b1)]) _
    refine Go.callV X26 hx hZ hown (hwi hw 10 rfl) (hwi hw 11 rfl) (notFace_of_selects (args := #[]) (mvT hZ (hwi hw 13 rfl))) (hwi hw 13 rfl) (hwi hw 12 rfl) (hwi hw 14 rfl) (hwi hw 6 rfl) (by decide) e26 E1 (argsL := []) (rmli1 l Z a0 hw b0 b1 b2 b3 b4 h0 n0 Z0 ty) hml rfl (ps := []) (r := (some (.object "com/example/fylgja/fylgja/Type"))) (by decide +kernel) rfl (rest := []) rfl (W := 0) (Nat.le_of_eq rfl) (by decide) (by decide) (by decide) (by decide) (hb hby at_79) ?_
    rintro _ T27 L27 X27 ⟨rfl, Nq27, e27⟩
    have N27 := Fr.app N26 Nq27
    show Go p e below T27 (mkF m 82 #[.val (.int p1), .val (.int (3 : Int32)), .val (.ref b3), .val (.ref b3), .val (.ref b4), .val (.int (1 : Int32)), .val (.ref b1)] [(.ref b3)]) _
    refine Go.aload_n X27 hx (hb hby at_82) rfl rfl ?_
    show Go p e below T27 (mkF m 83 #[.val (.int p1), .val (.int (3 : Int32)), .val (.ref b3), .val (.ref b3), .val (.ref b4), .val (.int (1 : Int32)), .val (.ref b1)] [(.ref b3), (.ref b3)]) _
    refine Go.acmp X27 hx (hb hby at_83) (pc' := 88) (by decide) rfl rfl (ac_eq _ _) (fun c83 => ?_) (fun c83 => ?_)
    rotate_left
    · exact absurd rfl c83
    show Go p e below T27 (mkF m 88 #[.val (.int p1), .val (.int (3 : Int32)), .val (.ref b3), .val (.ref b3), .val (.ref b4), .val (.int (1 : Int32)), .val (.ref b1)] []) _
    refine Go.iconst X27 hx (hb hby at_88) ?_
    show Go p e below T27 (mkF m 89 #[.val (.int p1), .val (.int (3 : Int32)), .val (.ref b3), .val (.ref b3), .val (.ref b4), .val (.int (1 : Int32)), .val (.ref b1)] [(.int (1 : Int32))]) _
    refine Go.ret_n X27 hx hret hlk (by simp) (hb hby at_89) (by decide) (by decide) ?_
    rw [e27]
    exact ⟨rfl, N27⟩
  · rw [hi]
    show Go p e below T0 (mkF m 6 #[.val (.int p1), .unset, .unset, .unset, .unset, .unset, .unset] [(.int (4 : Int32))]) _
    refine Go.istore_n X0 hx (hb hby at_6) (L' := #[.val (.int p1), .val (.int (4 : Int32)), .unset, .unset, .unset, .unset, .unset]) rfl ?_
    show Go p e below T0 (mkF m 7 #[.val (.int p1), .val (.int (4 : Int32)), .unset, .unset, .unset, .unset, .unset] []) _
    refine Go.iload_n X0 hx (hb hby at_7) rfl ?_
    show Go p e below T0 (mkF m 8 #[.val (.int p1), .val (.int (4 : Int32)), .unset, .unset, .unset, .unset, .unset] [(.int (4 : Int32))]) _
    refine Go.callS X0 hx hZ hown (hwi hw 1 rfl) (hwi hw 2 rfl) (hwi hw 3 rfl) (hwi hw 4 rfl) (by decide) e0 (argsL := [(.int (4 : Int32))]) (rmpk4 l Z a0 hw b0 b1 b2 b3 b4 h0 n0 Z0 ty) hml rfl (ps := [.int]) (r := (some (.object "com/example/fylgja/fylgja/Type"))) (by decide +kernel) rfl (rest := []) rfl (W := 0) (Nat.le_of_eq rfl) (by decide) (by decide) (by decide) (by decide) (hb hby at_8) ?_
    rintro _ T28 L28 X28 ⟨rfl, Nq28, e28⟩
    have N28 := Fr.app N0 Nq28
    show Go p e below T28 (mkF m 11 #[.val (.int p1), .val (.int (4 : Int32)), .unset, .unset, .unset, .unset, .unset] [(.ref b4)]) _
    refine Go.astore_n X28 hx (hb hby at_11) rfl (L' := #[.val (.int p1), .val (.int (4 : Int32)), .val (.ref b4), .unset, .unset, .unset, .unset]) rfl ?_
    show Go p e below T28 (mkF m 12 #[.val (.int p1), .val (.int (4 : Int32)), .val (.ref b4), .unset, .unset, .unset, .unset] []) _
    refine Go.getS X28 hx hZ hown (hwi hw 8 rfl) e28 S1 (hb hby at_12) ?_
    intro T29 X29 e29
    show Go p e below T29 (mkF m 15 #[.val (.int p1), .val (.int (4 : Int32)), .val (.ref b4), .unset, .unset, .unset, .unset] [(.ref b1)]) _
    refine Go.callV X29 hx hZ hown (hwi hw 10 rfl) (hwi hw 11 rfl) (notFace_of_selects (args := #[]) (mvT hZ (hwi hw 13 rfl))) (hwi hw 13 rfl) (hwi hw 12 rfl) (hwi hw 14 rfl) (hwi hw 6 rfl) (by decide) e29 E1 (argsL := []) (rmli1 l Z a0 hw b0 b1 b2 b3 b4 h0 n0 Z0 ty) hml rfl (ps := []) (r := (some (.object "com/example/fylgja/fylgja/Type"))) (by decide +kernel) rfl (rest := []) rfl (W := 0) (Nat.le_of_eq rfl) (by decide) (by decide) (by decide) (by decide) (hb hby at_15) ?_
    rintro _ T30 L30 X30 ⟨rfl, Nq30, e30⟩
    have N30 := Fr.app N28 Nq30
    show Go p e below T30 (mkF m 18 #[.val (.int p1), .val (.int (4 : Int32)), .val (.ref b4), .unset, .unset, .unset, .unset] [(.ref b3)]) _
    refine Go.astore_n X30 hx (hb hby at_18) rfl (L' := #[.val (.int p1), .val (.int (4 : Int32)), .val (.ref b4), .val (.ref b3), .unset, .unset, .unset]) rfl ?_
    show Go p e below T30 (mkF m 19 #[.val (.int p1), .val (.int (4 : Int32)), .val (.ref b4), .val (.ref b3), .unset, .unset, .unset] []) _
    refine Go.getS X30 hx hZ hown (hwi hw 18 rfl) e30 S2 (hb hby at_19) ?_
    intro T31 X31 e31
    show Go p e below T31 (mkF m 22 #[.val (.int p1), .val (.int (4 : Int32)), .val (.ref b4), .val (.ref b3), .unset, .unset, .unset] [(.ref b2)]) _
    refine Go.callV X31 hx hZ hown (hwi hw 10 rfl) (hwi hw 11 rfl) (notFace_of_selects (args := #[]) (mvT hZ (hwi hw 13 rfl))) (hwi hw 13 rfl) (hwi hw 12 rfl) (hwi hw 14 rfl) (hwi hw 6 rfl) (by decide) e31 E2 (argsL := []) (rmli2 l Z a0 hw b0 b1 b2 b3 b4 h0 n0 Z0 ty) hml rfl (ps := []) (r := (some (.object "com/example/fylgja/fylgja/Type"))) (by decide +kernel) rfl (rest := []) rfl (W := 0) (Nat.le_of_eq rfl) (by decide) (by decide) (by decide) (by decide) (hb hby at_22) ?_
    rintro _ T32 L32 X32 ⟨rfl, Nq32, e32⟩
    have N32 := Fr.app N30 Nq32
    show Go p e below T32 (mkF m 25 #[.val (.int p1), .val (.int (4 : Int32)), .val (.ref b4), .val (.ref b3), .unset, .unset, .unset] [(.ref b4)]) _
    refine Go.astore X32 hx (hb hby at_25) rfl (L' := #[.val (.int p1), .val (.int (4 : Int32)), .val (.ref b4), .val (.ref b3), .val (.ref b4), .unset, .unset]) rfl ?_
    show Go p e below T32 (mkF m 27 #[.val (.int p1), .val (.int (4 : Int32)), .val (.ref b4), .val (.ref b3), .val (.ref b4), .unset, .unset] []) _
    refine Go.aload_n X32 hx (hb hby at_27) rfl rfl ?_
    show Go p e below T32 (mkF m 28 #[.val (.int p1), .val (.int (4 : Int32)), .val (.ref b4), .val (.ref b3), .val (.ref b4), .unset, .unset] [(.ref b4)]) _
    refine Go.callV X32 hx hZ hown (hwi hw 23 rfl) (hwi hw 24 rfl) (notFace_of_selects (args := #[]) (mvT hZ (hwi hw 26 rfl))) (hwi hw 26 rfl) (hwi hw 25 rfl) (hwi hw 27 rfl) (hwi hw 6 rfl) (by decide) e32 E4 (argsL := []) (rmil4 l Z a0 hw b0 b1 b2 b3 b4 h0 n0 Z0 ty) hml rfl (ps := []) (r := (some .boolean)) (by decide +kernel) rfl (rest := []) rfl (W := 0) (Nat.le_of_eq rfl) (by decide) (by decide) (by decide) (by decide) (hb hby at_28) ?_
    rintro _ T33 L33 X33 ⟨rfl, Nq33, e33⟩
    have N33 := Fr.app N32 Nq33
    show Go p e below T33 (mkF m 31 #[.val (.int p1), .val (.int (4 : Int32)), .val (.ref b4), .val (.ref b3), .val (.ref b4), .unset, .unset] [(.int (1 : Int32))]) _
    refine Go.istore X33 hx (hb hby at_31) (L' := #[.val (.int p1), .val (.int (4 : Int32)), .val (.ref b4), .val (.ref b3), .val (.ref b4), .val (.int (1 : Int32)), .unset]) rfl ?_
    show Go p e below T33 (mkF m 33 #[.val (.int p1), .val (.int (4 : Int32)), .val (.ref b4), .val (.ref b3), .val (.ref b4), .val (.int (1 : Int32)), .unset] []) _
    refine Go.iload X33 hx (hb hby at_33) rfl ?_
    show Go p e below T33 (mkF m 35 #[.val (.int p1), .val (.int (4 : Int32)), .val (.ref b4), .val (.ref b3), .val (.ref b4), .val (.int (1 : Int32)), .unset] [(.int (1 : Int32))]) _
    refine Go.aload_n X33 hx (hb hby at_35) rfl rfl ?_
    show Go p e below T33 (mkF m 36 #[.val (.int p1), .val (.int (4 : Int32)), .val (.ref b4), .val (.ref b3), .val (.ref b4), .val (.int (1 : Int32)), .unset] [(.ref b4), (.int (1 : Int32))]) _
    refine Go.aload_n X33 hx (hb hby at_36) rfl rfl ?_
    show Go p e below T33 (mkF m 37 #[.val (.int p1), .val (.int (4 : Int32)), .val (.ref b4), .val (.ref b3), .val (.ref b4), .val (.int (1 : Int32)), .unset] [(.ref b3), (.ref b4), (.int (1 : Int32))]) _
    refine Go.acmp X33 hx (hb hby at_37) (pc' := 46) (by decide) rfl rfl (ac_eq _ _) (fun c37 => ?_) (fun c37 => ?_)
    · exact absurd c37 (rne ne43)
    show Go p e below T33 (mkF m 40 #[.val (.int p1), .val (.int (4 : Int32)), .val (.ref b4), .val (.ref b3), .val (.ref b4), .val (.int (1 : Int32)), .unset] [(.int (1 : Int32))]) _
    refine Go.aload_n X33 hx (hb hby at_40) rfl rfl ?_
    show Go p e below T33 (mkF m 41 #[.val (.int p1), .val (.int (4 : Int32)), .val (.ref b4), .val (.ref b3), .val (.ref b4), .val (.int (1 : Int32)), .unset] [(.ref b4), (.int (1 : Int32))]) _
    refine Go.aload X33 hx (hb hby at_41) rfl rfl ?_
    show Go p e below T33 (mkF m 43 #[.val (.int p1), .val (.int (4 : Int32)), .val (.ref b4), .val (.ref b3), .val (.ref b4), .val (.int (1 : Int32)), .unset] [(.ref b4), (.ref b4), (.int (1 : Int32))]) _
    refine Go.acmp X33 hx (hb hby at_43) (pc' := 50) (by decide) rfl rfl (ac_ne _ _) (fun c43 => ?_) (fun c43 => ?_)
    · exact absurd rfl c43
    replace c43 := Decidable.not_not.mp c43
    show Go p e below T33 (mkF m 46 #[.val (.int p1), .val (.int (4 : Int32)), .val (.ref b4), .val (.ref b3), .val (.ref b4), .val (.int (1 : Int32)), .unset] [(.int (1 : Int32))]) _
    refine Go.iconst X33 hx (hb hby at_46) ?_
    show Go p e below T33 (mkF m 47 #[.val (.int p1), .val (.int (4 : Int32)), .val (.ref b4), .val (.ref b3), .val (.ref b4), .val (.int (1 : Int32)), .unset] [(.int (1 : Int32)), (.int (1 : Int32))]) _
    refine Go.goto X33 hx (hb hby at_47) (pc' := 51) (by decide) ?_
    show Go p e below T33 (mkF m 51 #[.val (.int p1), .val (.int (4 : Int32)), .val (.ref b4), .val (.ref b3), .val (.ref b4), .val (.int (1 : Int32)), .unset] [(.int (1 : Int32)), (.int (1 : Int32))]) _
    refine Go.icmp X33 hx (hb hby at_51) (pc' := 56) (by decide) (ic_eq _ _) (fun c51 => ?_) (fun c51 => ?_)
    rotate_left
    · exact absurd (by decide) c51
    show Go p e below T33 (mkF m 56 #[.val (.int p1), .val (.int (4 : Int32)), .val (.ref b4), .val (.ref b3), .val (.ref b4), .val (.int (1 : Int32)), .unset] []) _
    refine Go.iload X33 hx (hb hby at_56) rfl ?_
    show Go p e below T33 (mkF m 58 #[.val (.int p1), .val (.int (4 : Int32)), .val (.ref b4), .val (.ref b3), .val (.ref b4), .val (.int (1 : Int32)), .unset] [(.int (1 : Int32))]) _
    refine Go.ifc X33 hx (hb hby at_58) (pc' := 88) (by decide) (iz_eq _) (fun c58 => ?_) (fun c58 => ?_)
    · exact absurd c58 (by decide)
    show Go p e below T33 (mkF m 61 #[.val (.int p1), .val (.int (4 : Int32)), .val (.ref b4), .val (.ref b3), .val (.ref b4), .val (.int (1 : Int32)), .unset] []) _
    refine Go.aload_n X33 hx (hb hby at_61) rfl rfl ?_
    show Go p e below T33 (mkF m 62 #[.val (.int p1), .val (.int (4 : Int32)), .val (.ref b4), .val (.ref b3), .val (.ref b4), .val (.int (1 : Int32)), .unset] [(.ref b4)]) _
    refine Go.callV X33 hx hZ hown (hwi hw 29 rfl) (hwi hw 30 rfl) (notFace_of_selects (args := #[]) (mvT hZ (hwi hw 32 rfl))) (hwi hw 32 rfl) (hwi hw 31 rfl) (hwi hw 33 rfl) (hwi hw 6 rfl) (by decide) e33 E4 (argsL := []) (rmel4 l Z a0 hw b0 b1 b2 b3 b4 h0 n0 Z0 ty) hml rfl (ps := []) (r := (some (.object "com/example/fylgja/fylgja/Type"))) (by decide +kernel) rfl (rest := []) rfl (W := 0) (Nat.le_of_eq rfl) (by decide) (by decide) (by decide) (by decide) (hb hby at_62) ?_
    rintro _ T34 L34 X34 ⟨rfl, Nq34, e34⟩
    have N34 := Fr.app N33 Nq34
    show Go p e below T34 (mkF m 65 #[.val (.int p1), .val (.int (4 : Int32)), .val (.ref b4), .val (.ref b3), .val (.ref b4), .val (.int (1 : Int32)), .unset] [(.ref b2)]) _
    refine Go.astore X34 hx (hb hby at_65) rfl (L' := #[.val (.int p1), .val (.int (4 : Int32)), .val (.ref b4), .val (.ref b3), .val (.ref b4), .val (.int (1 : Int32)), .val (.ref b2)]) rfl ?_
    show Go p e below T34 (mkF m 67 #[.val (.int p1), .val (.int (4 : Int32)), .val (.ref b4), .val (.ref b3), .val (.ref b4), .val (.int (1 : Int32)), .val (.ref b2)] []) _
    refine Go.aload X34 hx (hb hby at_67) rfl rfl ?_
    show Go p e below T34 (mkF m 69 #[.val (.int p1), .val (.int (4 : Int32)), .val (.ref b4), .val (.ref b3), .val (.ref b4), .val (.int (1 : Int32)), .val (.ref b2)] [(.ref b2)]) _
    refine Go.callV X34 hx hZ hown (hwi hw 23 rfl) (hwi hw 24 rfl) (notFace_of_selects (args := #[]) (mvT hZ (hwi hw 26 rfl))) (hwi hw 26 rfl) (hwi hw 25 rfl) (hwi hw 27 rfl) (hwi hw 6 rfl) (by decide) e34 E2 (argsL := []) (rmil2 l Z a0 hw b0 b1 b2 b3 b4 h0 n0 Z0 ty) hml rfl (ps := []) (r := (some .boolean)) (by decide +kernel) rfl (rest := []) rfl (W := 0) (Nat.le_of_eq rfl) (by decide) (by decide) (by decide) (by decide) (hb hby at_69) ?_
    rintro _ T35 L35 X35 ⟨rfl, Nq35, e35⟩
    have N35 := Fr.app N34 Nq35
    show Go p e below T35 (mkF m 72 #[.val (.int p1), .val (.int (4 : Int32)), .val (.ref b4), .val (.ref b3), .val (.ref b4), .val (.int (1 : Int32)), .val (.ref b2)] [(.int (0 : Int32))]) _
    refine Go.ifc X35 hx (hb hby at_72) (pc' := 77) (by decide) (iz_eq _) (fun c72 => ?_) (fun c72 => ?_)
    rotate_left
    · exact absurd (by decide) c72
    show Go p e below T35 (mkF m 77 #[.val (.int p1), .val (.int (4 : Int32)), .val (.ref b4), .val (.ref b3), .val (.ref b4), .val (.int (1 : Int32)), .val (.ref b2)] []) _
    refine Go.aload X35 hx (hb hby at_77) rfl rfl ?_
    show Go p e below T35 (mkF m 79 #[.val (.int p1), .val (.int (4 : Int32)), .val (.ref b4), .val (.ref b3), .val (.ref b4), .val (.int (1 : Int32)), .val (.ref b2)] [(.ref b2)]) _
    refine Go.callV X35 hx hZ hown (hwi hw 10 rfl) (hwi hw 11 rfl) (notFace_of_selects (args := #[]) (mvT hZ (hwi hw 13 rfl))) (hwi hw 13 rfl) (hwi hw 12 rfl) (hwi hw 14 rfl) (hwi hw 6 rfl) (by decide) e35 E2 (argsL := []) (rmli2 l Z a0 hw b0 b1 b2 b3 b4 h0 n0 Z0 ty) hml rfl (ps := []) (r := (some (.object "com/example/fylgja/fylgja/Type"))) (by decide +kernel) rfl (rest := []) rfl (W := 0) (Nat.le_of_eq rfl) (by decide) (by decide) (by decide) (by decide) (hb hby at_79) ?_
    rintro _ T36 L36 X36 ⟨rfl, Nq36, e36⟩
    have N36 := Fr.app N35 Nq36
    show Go p e below T36 (mkF m 82 #[.val (.int p1), .val (.int (4 : Int32)), .val (.ref b4), .val (.ref b3), .val (.ref b4), .val (.int (1 : Int32)), .val (.ref b2)] [(.ref b4)]) _
    refine Go.aload_n X36 hx (hb hby at_82) rfl rfl ?_
    show Go p e below T36 (mkF m 83 #[.val (.int p1), .val (.int (4 : Int32)), .val (.ref b4), .val (.ref b3), .val (.ref b4), .val (.int (1 : Int32)), .val (.ref b2)] [(.ref b4), (.ref b4)]) _
    refine Go.acmp X36 hx (hb hby at_83) (pc' := 88) (by decide) rfl rfl (ac_eq _ _) (fun c83 => ?_) (fun c83 => ?_)
    rotate_left
    · exact absurd rfl c83
    show Go p e below T36 (mkF m 88 #[.val (.int p1), .val (.int (4 : Int32)), .val (.ref b4), .val (.ref b3), .val (.ref b4), .val (.int (1 : Int32)), .val (.ref b2)] []) _
    refine Go.iconst X36 hx (hb hby at_88) ?_
    show Go p e below T36 (mkF m 89 #[.val (.int p1), .val (.int (4 : Int32)), .val (.ref b4), .val (.ref b3), .val (.ref b4), .val (.int (1 : Int32)), .val (.ref b2)] [(.int (1 : Int32))]) _
    refine Go.ret_n X36 hx hret hlk (by simp) (hb hby at_89) (by decide) (by decide) ?_
    rw [e36]
    exact ⟨rfl, N36⟩
set_option maxRecDepth 65536 in
set_option maxHeartbeats 40000000 in
theorem comes_1 {Post : Tables → Env → Array Value → State → Outcome → State → Prop} (hpost : ∀ tb e args s v u, (limb_1_1.after args s (.returned v) u = true ∧ limb_1_2.after args s (.returned v) u = true ∧ True) → FrameEnd s (.returned v) u (Jvm.fieldLocs frame_1_writes args s ++ Jvm.arrayLocs frame_1_arrays args s ++ Jvm.staticLocs frame_1_statics s) 0 0 → Post tb e args s (.returned v) u) :
    ArmFor flags0 classFile x code maxLocals ret World_1 tables_1 room_1 Calls_1 rest_1 Pre_1 Post := by
  intro l hfl _ _ p e ha hc hk s m args below hf hA hF happ hP
  obtain ⟨hcalls, hrest, hpre⟩ := hP
  obtain ⟨hg, hn⟩ := and_e (Cond.before_iff.mp (show (Jvm.Cond.and given_1 narrow_1).before args s = true from hpre))
  obtain ⟨h1, h2⟩ := and_e hg
  obtain ⟨w0, rfl⟩ : ∃ w0 : Value, args = #[w0] := by
    have hs : args.size = 1 := by simpa [Cond.value, given_1] using h1
    obtain ⟨L⟩ := args
    match L, hs with
    | [w0], _ => exact ⟨w0, rfl⟩
  have hat := ((Spec.applies_iff hf).mp happ).2.2.2.2.2.2.2
  have hw := fun d (hd : d ∈ tables_1) => atoms_spec (ws := Jvm.Cond.code x code maxLocals ret :: tables_1) hat d (List.mem_cons_of_mem _ hd)
  have hfit : Fit s := fun {y c} hc i hi => by
    obtain ⟨ha, rfl⟩ := Array.getElem?_eq_some_iff.mp hc
    have q := List.all_eq_true.mp ((Array.all_eq_true_iff_forall_mem.mp hF) _ (Array.getElem_mem ha)) i (List.mem_range.mpr hi)
    simpa [Array.getElem?_eq_getElem hi] using q
  obtain ⟨i0, f0⟩ := is_v h2
  obtain rfl : w0 = (.int i0) := Option.some.inj f0
  obtain ⟨q1, q2, q3, q4, q5, q6, q7, q8, q9, q10⟩ : _ ∧ _ ∧ _ ∧ _ ∧ _ ∧ _ ∧ _ ∧ _ ∧ _ ∧ _ := by
    obtain ⟨g1, r⟩ := and_e hn; obtain ⟨g2, r⟩ := and_e r; obtain ⟨g3, r⟩ := and_e r; obtain ⟨g4, r⟩ := and_e r; obtain ⟨g5, r⟩ := and_e r; obtain ⟨g6, r⟩ := and_e r; obtain ⟨g7, r⟩ := and_e r; obtain ⟨g8, r⟩ := and_e r; obtain ⟨g9, g10⟩ := and_e r
    exact ⟨g1, g2, g3, g4, g5, g6, g7, g8, g9, g10⟩
  obtain ⟨b0, ev0, S0, E0⟩ := sta_of q1 (hwi hw 6 rfl) (hwi hw 7 rfl)
  have F0 := fld_of ev0 q8
  obtain ⟨b1, ev1, S1, E1⟩ := sta_of q2 (hwi hw 6 rfl) (hwi hw 9 rfl)
  have F1 := fld_of ev1 q6
  obtain ⟨b2, ev2, S2, E2⟩ := sta_of q4 (hwi hw 6 rfl) (hwi hw 19 rfl)
  have F2 := fld_of ev2 q5
  obtain ⟨b3, ev3, S3, E3⟩ := sta_of q3 (hwi hw 6 rfl) (hwi hw 17 rfl)
  have F3 := fld_of ev3 q9
  obtain ⟨b4, ev4, S4, E4⟩ := sta_of q7 (hwi hw 6 rfl) (hwi hw 22 rfl)
  have F4 := fld_of ev4 q10
  have ty : Ty s s.heap b0 b1 b2 b3 b4 := ⟨S0, S1, S2, S3, S4, E0, E1, E2, E3, E4, Fld.ne F1 F0 (by decide), Fld.ne F2 F0 (by decide), Fld.ne F2 F1 (by decide), Fld.ne F3 F0 (by decide), Fld.ne F3 F1 (by decide), Fld.ne F3 F2 (by decide), Fld.ne F4 F0 (by decide), Fld.ne F4 F1 (by decide), Fld.ne F4 F2 (by decide), Fld.ne F4 F3 (by decide)⟩
  obtain ⟨n, o, h1, h2, h3, _, L, rfl, ⟨rfl, N⟩, hq⟩ := rm0 l s _ hw tables_1 i0 b0 b1 b2 b3 b4 s.heap s.heap.size (Nat.le_refl _) ty p e ha hc hk s m _ below hf ((Spec.applies_iff_loose hf).mp happ).1 ⟨rfl, State.Warmed39.refl s, rfl⟩ trivial
  refine ⟨n, _, h1, h2, h3, hpost _ _ _ _ _ _ ⟨Cond.after_iff.mpr rfl, Cond.after_iff.mpr (eq_i res_at (Term.int_eval (1)) rfl), trivial⟩ ⟨hq.1, hq.2.1, (hq.2.2.sift fun y hy => Or.inr (N y hy)).mono (by decide) (by decide)⟩⟩
theorem main_1_1 : Claimed_1_1 := comes_1 fun _ _ _ _ _ _ h hF => ⟨h.1, hF⟩
theorem main_1_2 : Claimed_1_2 := comes_1 fun _ _ _ _ _ _ h hF => ⟨h.2.1, hF⟩
end Jvm.Pilot.@@N@@
namespace Jvm.Pilot.@@N@@
open Jvm Jvm.ClassFile Sem Op Lib Jvm.Free Jvm.Stand Jvm.Pilot.@@N@@.Jvm.D
/-! MADE BY PROGRAM (witnessworld.py) out of the Statement's table words and the real class files: 12 classes; the members and pool entries that the words name. The judged class is class 1, her method 2. -/
namespace start1
open Jvm.ClassFile
def u (s : String) : CpInfo := .utf8 (stringToUtf16 s)
/-- a pool by its gaps: so many unusable entries, then the entry; so many at the end -/
def gap : Nat → List CpInfo → List CpInfo
  | 0, r => r
  | n + 1, r => .unusable :: gap n r
def poolList (es : List (Nat × CpInfo)) (last : Nat) : List CpInfo := es.foldr (fun e r => gap e.1 (e.2 :: r)) (gap last [])
def pool (es : List (Nat × CpInfo)) (last : Nat) : Array CpInfo := ⟨poolList es last⟩
def fileOf (pool : Array CpInfo) (this : Nat) (attrs : Array Attribute := #[]) (ms : Array MethodInfo := #[]) (fl : Nat := 33) (sup : Nat := 0) (ifs : Array Nat := #[]) (fds : Array FieldInfo := #[]) : ClassFile where
  minorVersion := 0
  majorVersion := 65
  constantPool := pool
  accessFlags := fl
  thisClass := this
  superClass := sup
  interfaces := ifs
  fields := fds
  methods := ms
  attributes := attrs
def plain (name : String) (sup : Option ClassId) : Class where
  name := name
  kind := .ordinary
  loader := none
  accessFlags := 33
  super := sup
  interfaces := #[]
  cf := none
  fields := #[]
  methods := #[]
  instanceTypes := #[]
  staticTypes := #[]
  resolved := #[]
  callSites := []
  init := .initialized
  statics := none
  mirror := none

def pool0 : Array CpInfo := pool [(5, u "<init>"), (0, u "()V"), (1, .class_ 10), (1, u "java/lang/Object")] 113

def k0m0 : Method := { name := "<init>", desc := "()V", sig := { parameters := [], returnType := none }, accessFlags := 1, code := none }
/-- java/lang/Object -/
def k0 : Class := { plain "java/lang/Object" none with
  accessFlags := 33
  interfaces := #[]
  cf := some (fileOf pool0 8 #[] #[{ accessFlags := 1, nameIndex := 5, descriptorIndex := 6, attributes := #[] }] 33 0 #[] #[])
  fields := #[]
  methods := #[k0m0]
  instanceTypes := #[]
  staticTypes := #[]
  resolved := Array.replicate 124 none
  statics := none }

def pool1 : Array CpInfo := pool [(2, .class_ 4), (1, u "java/lang/Object"), (0, u "<init>"), (0, u "()V"), (0, .fieldref 8 9), (0, .class_ 10), (0, .nameAndType 11 12), (0, u "com/example/fylgja/fylgja/Type"), (0, u "BOOLEAN"), (0, u "Lcom/example/fylgja/fylgja/Type;"), (0, .fieldref 8 14), (0, .nameAndType 15 12), (0, u "INTEGER"), (0, .fieldref 8 17), (0, .nameAndType 18 12), (0, u "STRING"), (0, .fieldref 8 20), (0, .nameAndType 21 12), (0, u "INTEGER_LIST"), (0, .fieldref 8 23), (0, .nameAndType 24 12), (0, u "STRING_LIST"), (0, .integer 2147483647), (0, .methodref 27 28), (0, .class_ 29), (0, .nameAndType 30 31), (0, u "com/example/fylgja/fylgja/TypeIsListPinLaw"), (0, u "pick"), (0, u "(I)Lcom/example/fylgja/fylgja/Type;"), (0, .methodref 8 33), (0, .nameAndType 34 35), (0, u "list"), (0, u "()Lcom/example/fylgja/fylgja/Type;"), (0, .methodref 8 37), (0, .nameAndType 38 39), (0, u "isList"), (0, u "()Z"), (0, .methodref 8 41), (0, .nameAndType 42 35), (0, u "element"), (3, u "law"), (0, u "(I)Z")] 2

def k1m0 : Method := { name := "<init>", desc := "()V", sig := { parameters := [], returnType := none }, accessFlags := 2, code := none }
def k1c1 : Code := { maxStack := 2, maxLocals := 1, code := method_2_code, exceptionTable := #[], attributes := #[] }
def k1m1 : Method := { name := "pick", desc := "(I)Lcom/example/fylgja/fylgja/Type;", sig := { parameters := [.int], returnType := some (.object "com/example/fylgja/fylgja/Type") }, accessFlags := 10, code := some k1c1 }
def k1c2 : Code := { maxStack := 3, maxLocals := 7, code := code, exceptionTable := #[], attributes := #[] }
def k1m2 : Method := { name := "law", desc := "(I)Z", sig := { parameters := [.int], returnType := some .boolean }, accessFlags := 9, code := some k1c2 }
/-- com/example/fylgja/fylgja/TypeIsListPinLaw -/
def k1 : Class := { plain "com/example/fylgja/fylgja/TypeIsListPinLaw" (some 0) with
  accessFlags := 49
  interfaces := #[]
  cf := some (fileOf pool1 27 #[] #[{ accessFlags := 2, nameIndex := 5, descriptorIndex := 6, attributes := #[] }, { accessFlags := 10, nameIndex := 30, descriptorIndex := 31, attributes := #[] }, { accessFlags := 9, nameIndex := 46, descriptorIndex := 47, attributes := #[] }] 49 2 #[] #[])
  fields := #[]
  methods := #[k1m0, k1m1, k1m2]
  instanceTypes := #[]
  staticTypes := #[]
  resolved := Array.replicate 50 none
  statics := none }

def pool2 : Array CpInfo := pool [(1, .class_ 2), (0, u "java/lang/constant/Constable"), (0, .class_ 4), (0, u "java/lang/Object")] 6

/-- java/lang/constant/Constable -/
def k2 : Class := { plain "java/lang/constant/Constable" (some 0) with
  accessFlags := 1537
  interfaces := #[]
  cf := some (fileOf pool2 1 #[] #[] 1537 3 #[] #[])
  fields := #[]
  methods := #[]
  instanceTypes := #[]
  staticTypes := #[]
  resolved := Array.replicate 11 none
  statics := none }

def pool3 : Array CpInfo := pool [(1, .class_ 2), (0, u "java/lang/Comparable"), (0, .class_ 4), (0, u "java/lang/Object")] 7

/-- java/lang/Comparable -/
def k3 : Class := { plain "java/lang/Comparable" (some 0) with
  accessFlags := 1537
  interfaces := #[]
  cf := some (fileOf pool3 1 #[] #[] 1537 3 #[] #[])
  fields := #[]
  methods := #[]
  instanceTypes := #[]
  staticTypes := #[]
  resolved := Array.replicate 12 none
  statics := none }

def pool4 : Array CpInfo := pool [(1, .class_ 2), (0, u "java/io/Serializable"), (0, .class_ 4), (0, u "java/lang/Object")] 2

/-- java/io/Serializable -/
def k4 : Class := { plain "java/io/Serializable" (some 0) with
  accessFlags := 1537
  interfaces := #[]
  cf := some (fileOf pool4 1 #[] #[] 1537 3 #[] #[])
  fields := #[]
  methods := #[]
  instanceTypes := #[]
  staticTypes := #[]
  resolved := Array.replicate 7 none
  statics := none }

def pool5 : Array CpInfo := pool [(2, .class_ 4), (1, u "java/lang/Enum"), (0, u "name"), (0, u "Ljava/lang/String;"), (2, u "ordinal"), (0, u "I"), (1, .class_ 14), (1, u "java/lang/Object"), (4, u "hash"), (86, .class_ 108), (1, u "java/lang/Enum$EnumDesc"), (2, .class_ 112), (0, u "java/lang/constant/Constable"), (0, .class_ 114), (0, u "java/lang/Comparable"), (0, .class_ 116), (0, u "java/io/Serializable")] 87

/-- java/lang/Enum -/
def k5 : Class := { plain "java/lang/Enum" (some 0) with
  accessFlags := 1057
  interfaces := #[2, 3, 4]
  cf := some (fileOf pool5 2 #[.nestMembers #[106]] #[] 1057 12 #[111, 113, 115] #[{ accessFlags := 18, nameIndex := 5, descriptorIndex := 6, attributes := #[] }, { accessFlags := 18, nameIndex := 9, descriptorIndex := 10, attributes := #[] }, { accessFlags := 2, nameIndex := 19, descriptorIndex := 10, attributes := #[] }])
  fields := #[{ name := "name", type := (.object "java/lang/String"), accessFlags := 18, slot := 0, constantValue := 0 }, { name := "ordinal", type := .int, accessFlags := 18, slot := 1, constantValue := 0 }, { name := "hash", type := .int, accessFlags := 2, slot := 2, constantValue := 0 }]
  methods := #[]
  instanceTypes := #[(.object "java/lang/String"), .int, .int]
  staticTypes := #[]
  resolved := Array.replicate 204 none
  statics := none }

def pool6 : Array CpInfo := pool [(1, .class_ 2), (0, u "com/example/fylgja/fylgja/Type"), (2, u "BOOLEAN"), (0, u "Lcom/example/fylgja/fylgja/Type;"), (0, .fieldref 1 8), (0, .nameAndType 9 6), (0, u "INTEGER"), (0, .fieldref 1 11), (0, .nameAndType 12 6), (0, u "STRING"), (0, .fieldref 1 14), (0, .nameAndType 15 6), (0, u "INTEGER_LIST"), (0, .fieldref 1 17), (0, .nameAndType 18 6), (0, u "STRING_LIST"), (2, u "$VALUES"), (0, u "[Lcom/example/fylgja/fylgja/Type;"), (6, .class_ 31), (1, u "java/lang/Enum"), (8, u "description"), (0, u "Ljava/lang/String;"), (43, u "isList"), (0, u "()Z"), (1, u "element"), (0, u "()Lcom/example/fylgja/fylgja/Type;"), (0, u "list")] 24

def k6c0 : Code := { maxStack := 2, maxLocals := 1, code := prog_124_method_4_code, exceptionTable := #[], attributes := #[] }
def k6m0 : Method := { name := "isList", desc := "()Z", sig := { parameters := [], returnType := some .boolean }, accessFlags := 0, code := some k6c0 }
def k6c1 : Code := { maxStack := 3, maxLocals := 2, code := prog_124_method_5_code, exceptionTable := #[], attributes := #[] }
def k6m1 : Method := { name := "element", desc := "()Lcom/example/fylgja/fylgja/Type;", sig := { parameters := [], returnType := some (.object "com/example/fylgja/fylgja/Type") }, accessFlags := 0, code := some k6c1 }
def k6c2 : Code := { maxStack := 3, maxLocals := 2, code := prog_124_method_6_code, exceptionTable := #[], attributes := #[] }
def k6m2 : Method := { name := "list", desc := "()Lcom/example/fylgja/fylgja/Type;", sig := { parameters := [], returnType := some (.object "com/example/fylgja/fylgja/Type") }, accessFlags := 0, code := some k6c2 }
/-- com/example/fylgja/fylgja/Type -/
def k6 : Class := { plain "com/example/fylgja/fylgja/Type" (some 5) with
  accessFlags := 16432
  interfaces := #[]
  cf := some (fileOf pool6 1 #[] #[{ accessFlags := 0, nameIndex := 85, descriptorIndex := 86, attributes := #[] }, { accessFlags := 0, nameIndex := 88, descriptorIndex := 89, attributes := #[] }, { accessFlags := 0, nameIndex := 90, descriptorIndex := 89, attributes := #[] }] 16432 29 #[] #[{ accessFlags := 16409, nameIndex := 5, descriptorIndex := 6, attributes := #[] }, { accessFlags := 16409, nameIndex := 9, descriptorIndex := 6, attributes := #[] }, { accessFlags := 16409, nameIndex := 12, descriptorIndex := 6, attributes := #[] }, { accessFlags := 16409, nameIndex := 15, descriptorIndex := 6, attributes := #[] }, { accessFlags := 16409, nameIndex := 18, descriptorIndex := 6, attributes := #[] }, { accessFlags := 18, nameIndex := 40, descriptorIndex := 41, attributes := #[] }, { accessFlags := 4122, nameIndex := 21, descriptorIndex := 22, attributes := #[] }])
  fields := #[{ name := "BOOLEAN", type := (.object "com/example/fylgja/fylgja/Type"), accessFlags := 16409, slot := 0, constantValue := 0 }, { name := "INTEGER", type := (.object "com/example/fylgja/fylgja/Type"), accessFlags := 16409, slot := 1, constantValue := 0 }, { name := "STRING", type := (.object "com/example/fylgja/fylgja/Type"), accessFlags := 16409, slot := 2, constantValue := 0 }, { name := "INTEGER_LIST", type := (.object "com/example/fylgja/fylgja/Type"), accessFlags := 16409, slot := 3, constantValue := 0 }, { name := "STRING_LIST", type := (.object "com/example/fylgja/fylgja/Type"), accessFlags := 16409, slot := 4, constantValue := 0 }, { name := "description", type := (.object "java/lang/String"), accessFlags := 18, slot := 3, constantValue := 0 }, { name := "$VALUES", type := (.array (.object "com/example/fylgja/fylgja/Type")), accessFlags := 4122, slot := 5, constantValue := 0 }]
  methods := #[k6m0, k6m1, k6m2]
  instanceTypes := #[(.object "java/lang/String"), .int, .int, (.object "java/lang/String")]
  staticTypes := #[(.object "com/example/fylgja/fylgja/Type"), (.object "com/example/fylgja/fylgja/Type"), (.object "com/example/fylgja/fylgja/Type"), (.object "com/example/fylgja/fylgja/Type"), (.object "com/example/fylgja/fylgja/Type"), (.array (.object "com/example/fylgja/fylgja/Type"))]
  resolved := Array.replicate 115 none
  statics := some 0 }

def pool7 : Array CpInfo := pool [(1, u "java/lang/Cloneable"), (0, .class_ 1), (0, u "java/lang/Object"), (0, .class_ 3)] 3

/-- java/lang/Cloneable -/
def k7 : Class := { plain "java/lang/Cloneable" (some 0) with
  accessFlags := 1537
  interfaces := #[]
  cf := some (fileOf pool7 2 #[] #[] 1537 4 #[] #[])
  fields := #[]
  methods := #[]
  instanceTypes := #[]
  staticTypes := #[]
  resolved := Array.replicate 8 none
  statics := none }

/-- the primitive byte -/
def k8 : Class := { plain "byte" none with kind := .primitive 'B', accessFlags := 0x411 }
/-- [B -/
def k9 : Class := { plain "[B" (some 0) with kind := .array 8 .byte, interfaces := #[7, 4], accessFlags := 1041 }

/-- the primitive int -/
def k10 : Class := { plain "int" none with kind := .primitive 'I', accessFlags := 0x411 }
/-- [I -/
def k11 : Class := { plain "[I" (some 0) with kind := .array 10 .int, interfaces := #[7, 4], accessFlags := 1041 }

def heap : Heap := #[{ cls := 6, slots := #[.ref 1, .ref 2, .ref 3, .ref 4, .ref 5, .null], vm := .statics 6 },
  { cls := 6, slots := #[.null, .int 0, .int 0, .null], vm := .none },
  { cls := 6, slots := #[.null, .int 1, .int 0, .null], vm := .none },
  { cls := 6, slots := #[.null, .int 2, .int 0, .null], vm := .none },
  { cls := 6, slots := #[.null, .int 3, .int 0, .null], vm := .none },
  { cls := 6, slots := #[.null, .int 4, .int 0, .null], vm := .none }]
def classes : Array Class := #[k0, k1, k2, k3, k4, k5, k6, k7, k8, k9, k10, k11]
def interned : List (Array UInt16 × Addr) := []
def slotsUsed : Nat := 26
def theMethod : MethodId := ⟨1, 2⟩
def args0 : Array Value := #[.int 3]
def aboutOver (below : List Frame) : State where
  vm := { classes := classes, interned := interned.toArray }
  heap := heap
  slotsUsed := slotsUsed
  threads := #[{ frames := .invoking theMethod args0 :: below }]
def below0 : List Frame := [.native { method := ⟨0, 0⟩, args := #[] }]
def about1 : State := aboutOver below0
def p0 : Program := .bare "" "" ""
def e0 : Env := launch0.env 0 0 0
theorem w_frames : about1.frames = Frame.invoking theMethod args0 :: below0 := rfl
set_option maxRecDepth 65536 in
theorem w_args : argsFit about1.vm theMethod args0 = true := by decide +kernel
set_option maxRecDepth 65536 in
theorem w_heap : heapFits about1 = true := by decide +kernel
set_option maxRecDepth 65536 in
theorem w_runnable : about1.curStatus? = some .runnable := by decide +kernel
set_option maxRecDepth 65536 in
theorem w_alone : about1.alone = true := by decide +kernel
set_option maxRecDepth 65536 in
theorem w_named : about1.methodNamed? x = some theMethod := by decide +kernel
set_option maxRecDepth 65536 in
theorem w_hears : about1.hears theMethod below0 = true := by decide +kernel
set_option maxRecDepth 65536 in
theorem w_ripe : about1.ripe theMethod args0 below0 = true := by decide +kernel
theorem w_running : about1.status = .running := rfl
set_option maxRecDepth 65536 in
theorem w_room : about1.hasRoom e0.platform room_1 = true :=
  launch0.hasRoom_least _ room_1 (by decide +kernel) (by decide +kernel) (by decide +kernel) (by decide +kernel) (by decide +kernel) (by decide +kernel)
theorem allAtoms_all (ts : List Jvm.Cond) (a : Array Jvm.Value) (st : Jvm.State) : (allAtoms ts).before a st = ts.all (fun c => c.before a st) := by
  induction ts with
  | nil => rfl
  | cons c t ih =>
    show (Jvm.Cond.and c (allAtoms t)).before a st = _
    rw [Jvm.Cond.before_and, ih, List.all_cons]
def words1 : List Jvm.Cond := Jvm.Cond.code x code maxLocals ret :: tables_1
/-- a 'code' word, met by the world's own term for the bytes: nothing is compared byte by byte -/
theorem code_word {y : MethodName} {bytes : ByteArray} {mx : Nat} {rt : Option FieldType} {a : Array Value} {s : State} {m : MethodId} {meth : Method} {c : Code} (h1 : s.methodNamed? y = some m) (h2 : s.vm.method? m = some meth) (h3 : meth.code = some c) (h4 : c.code = bytes)
    (h5 : (c.maxLocals == mx && c.exceptionTable.isEmpty && decide (c.maxStack ≤ mostOperands) && decide (meth.sig.returnType = rt) && !meth.locks && decide (parseMethodDescriptor y.desc = some meth.sig)) = true) : (Jvm.Cond.code y bytes mx rt).before a s = true := by
  simp only [Bool.and_eq_true, beq_iff_eq, Bool.not_eq_true', decide_eq_true_eq] at h5
  obtain ⟨⟨⟨⟨⟨g1, g2⟩, g3⟩, g4⟩, g5⟩, g6⟩ := h5
  simp [Cond.before, Cond.holds, Cond.value, h1, h2, h3, h4, g1, g2, g3, g4, g5, g6]
def isCode : Jvm.Cond → Bool
  | .code _ _ _ _ => true
  | _ => false
theorem all_split {L : List Jvm.Cond} {P : Jvm.Cond → Bool} (h1 : L.all (fun c => isCode c || P c) = true) (h2 : ∀ c ∈ L.filter isCode, P c = true) : L.all P = true := by
  refine List.all_eq_true.mpr fun c hc => ?_
  have h := List.all_eq_true.mp h1 c hc
  rcases Bool.eq_false_or_eq_true (isCode c) with hi | hi
  · exact h2 c (List.mem_filter.mpr ⟨hc, hi⟩)
  · simpa [hi] using h
set_option maxRecDepth 65536 in
theorem w_c0 : (Jvm.Cond.code x code maxLocals ret).before args0 about1 = true := code_word (m := ⟨1, 2⟩) (meth := k1m2) (c := k1c2) (by decide +kernel) rfl rfl rfl (by decide +kernel)
set_option maxRecDepth 65536 in
theorem w_c1 : (Jvm.Cond.code ({ cls := "com/example/fylgja/fylgja/TypeIsListPinLaw", name := "pick", desc := "(I)Lcom/example/fylgja/fylgja/Type;" } : Jvm.MethodName) method_2_code (1 : Nat) (Option.some (Jvm.ClassFile.FieldType.object "com/example/fylgja/fylgja/Type"))).before args0 about1 = true := code_word (m := ⟨1, 1⟩) (meth := k1m1) (c := k1c1) (by decide +kernel) rfl rfl rfl (by decide +kernel)
set_option maxRecDepth 65536 in
theorem w_c2 : (Jvm.Cond.code ({ cls := "com/example/fylgja/fylgja/Type", name := "list", desc := "()Lcom/example/fylgja/fylgja/Type;" } : Jvm.MethodName) prog_124_method_6_code (2 : Nat) (Option.some (Jvm.ClassFile.FieldType.object "com/example/fylgja/fylgja/Type"))).before args0 about1 = true := code_word (m := ⟨6, 2⟩) (meth := k6m2) (c := k6c2) (by decide +kernel) rfl rfl rfl (by decide +kernel)
set_option maxRecDepth 65536 in
theorem w_c3 : (Jvm.Cond.code ({ cls := "com/example/fylgja/fylgja/Type", name := "isList", desc := "()Z" } : Jvm.MethodName) prog_124_method_4_code (1 : Nat) (Option.some Jvm.ClassFile.FieldType.boolean)).before args0 about1 = true := code_word (m := ⟨6, 0⟩) (meth := k6m0) (c := k6c0) (by decide +kernel) rfl rfl rfl (by decide +kernel)
set_option maxRecDepth 65536 in
theorem w_c4 : (Jvm.Cond.code ({ cls := "com/example/fylgja/fylgja/Type", name := "element", desc := "()Lcom/example/fylgja/fylgja/Type;" } : Jvm.MethodName) prog_124_method_5_code (2 : Nat) (Option.some (Jvm.ClassFile.FieldType.object "com/example/fylgja/fylgja/Type"))).before args0 about1 = true := code_word (m := ⟨6, 1⟩) (meth := k6m1) (c := k6c1) (by decide +kernel) rfl rfl rfl (by decide +kernel)
def codes1 : List Jvm.Cond := [Jvm.Cond.code x code maxLocals ret, Jvm.Cond.code ({ cls := "com/example/fylgja/fylgja/TypeIsListPinLaw", name := "pick", desc := "(I)Lcom/example/fylgja/fylgja/Type;" } : Jvm.MethodName) method_2_code (1 : Nat) (Option.some (Jvm.ClassFile.FieldType.object "com/example/fylgja/fylgja/Type")), Jvm.Cond.code ({ cls := "com/example/fylgja/fylgja/Type", name := "list", desc := "()Lcom/example/fylgja/fylgja/Type;" } : Jvm.MethodName) prog_124_method_6_code (2 : Nat) (Option.some (Jvm.ClassFile.FieldType.object "com/example/fylgja/fylgja/Type")), Jvm.Cond.code ({ cls := "com/example/fylgja/fylgja/Type", name := "isList", desc := "()Z" } : Jvm.MethodName) prog_124_method_4_code (1 : Nat) (Option.some Jvm.ClassFile.FieldType.boolean), Jvm.Cond.code ({ cls := "com/example/fylgja/fylgja/Type", name := "element", desc := "()Lcom/example/fylgja/fylgja/Type;" } : Jvm.MethodName) prog_124_method_5_code (2 : Nat) (Option.some (Jvm.ClassFile.FieldType.object "com/example/fylgja/fylgja/Type"))]
set_option maxRecDepth 65536 in
theorem codes_eq : words1.filter isCode = codes1 := rfl
theorem w_codes : ∀ c ∈ words1.filter isCode, c.before args0 about1 = true := by
  rw [codes_eq]
  intro c hc
  simp only [codes1, List.mem_cons, List.not_mem_nil, or_false] at hc
  rcases hc with rfl | rfl | rfl | rfl | rfl
  · exact w_c0
  · exact w_c1
  · exact w_c2
  · exact w_c3
  · exact w_c4
set_option maxRecDepth 65536 in
theorem w_t1 : (words1.take 24).all (fun c => isCode c || c.before args0 about1) = true := by decide +kernel
set_option maxRecDepth 65536 in
theorem w_t2 : (words1.drop 24).all (fun c => isCode c || c.before args0 about1) = true := by decide +kernel
theorem w_tables : (allAtoms (Jvm.Cond.code x code maxLocals ret :: tables_1)).before args0 about1 = true := by
  rw [allAtoms_all]
  show words1.all (fun c => c.before args0 about1) = true
  refine all_split ?_ w_codes
  rw [← List.take_append_drop 24 words1, List.all_append, w_t1, w_t2]
  rfl
set_option maxRecDepth 65536 in
theorem w_case : (Jvm.Cond.and given_1 narrow_1).before args0 about1 = true := by decide +kernel
theorem w_applies : (headSpec (Jvm.Cond.code x code maxLocals ret :: tables_1) room_1).applies x e0.platform about1 = true :=
  (Spec.applies_iff w_frames).mpr ⟨w_running, w_runnable, w_alone, w_named, w_hears, w_ripe, w_room, w_tables⟩
theorem atStart : AtStart classFile x code maxLocals ret World_1 tables_1 room_1 Calls_1 rest_1 Pre_1 launch0 p0 e0 about1 theMethod args0 below0 :=
  ⟨lists_1, trivial, launch0.admits_env _ _ _, launch0.least_env, fairChoices_fair.cas, fairChoices_fair.clock, w_frames, w_args, w_heap, w_applies, trivial, trivial, w_case⟩
end start1
theorem witness_1 : WitnessClaimed_1 := ⟨start1.p0, start1.e0, start1.about1, start1.theMethod, start1.args0, start1.below0, start1.atStart⟩
end Jvm.Pilot.@@N@@
