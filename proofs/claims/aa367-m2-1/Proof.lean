import JvmDerived
import JvmDerived.Pilot.@@N@@Statement
import JvmDerived.Pilot.@@N@@Code
set_option linter.unusedVariables false
set_option linter.unusedSimpArgs false
namespace Jvm.Pilot.@@N@@
open Jvm Jvm.ClassFile Sem Op Lib Jvm.Free Jvm.Stand Jvm.LawKit Jvm.RoadKit Bundle Jvm.Pilot.@@N@@.Jvm.D
section OwnKit
variable {p : Program} {l : Launch} {e : Env} {R : Room} {s : State} {m : MethodId} {args : Array Value} {below : List Frame} {meth : Method} {c : Code} {T T' : State} {locs : List Loc} {cells slots : Nat} {P : Outcome → State → Prop} {Q : Option Value → Heap → List Loc → Prop} {cC cS : Nat} {bytes : ByteArray} {ls : Array Slot} {st : List Value} {pc pc' : Nat} {g g' : JFrame} {Z : State} {a0 : Array Value} {h h' : Heap}
/-- from this state and frame the method comes to its end, returns, and Q holds of what it leaves -/
def own_Got (p : Program) (e : Env) (below : List Frame) (P : Outcome → State → Prop) (T : State) (g : JFrame) : Prop :=
  ∃ s₂ o, Steps p.tables e below (T.setTop g) s₂ ∧ s₂.status = .running ∧ Ended s₂ below o ∧ P o s₂
/-- what a contract says of the end -/
def own_End (s : State) (Q : Option Value → Heap → List Loc → Prop) (cC cS : Nat) (o : Outcome) (U : State) : Prop := ∃ v L, o = .returned v ∧ Q v U.heap L ∧ FrameEnd s o U L cC cS
theorem own_go (k : ∀ t, Steps p.tables e below (T'.setTop g') t → Steps p.tables e below (T.setTop g) t) (h : own_Got p e below P T' g') : own_Got p e below P T g := by
  obtain ⟨s2, o, h1, h2⟩ := h; exact ⟨s2, o, k _ h1, h2⟩
theorem own_tr (k : Steps p.tables e below (T.setTop g) (T'.setTop g')) (h : own_Got p e below P T' g') : own_Got p e below P T g := own_go (fun _ q => k.trans q) h
theorem own_cast (q : g = g') (h : own_Got p e below P T g') : own_Got p e below P T g := q ▸ h
theorem own_retV (X : Stand p l e R s m args below meth c T locs cells slots) (hx : p.tables.exec = Jvm.exec) (hby : c.code = bytes) (hlk : meth.locks = false) (hret : meth.sig.returnType = none) (hd : decode bytes pc = .ok (.return_, 1)) (hc : cells ≤ cC) (hs : slots ≤ cS)
    (hq : Q none T.heap locs) : own_Got p e below (own_End s Q cC cS) T (mkF m pc ls []) := by
  obtain ⟨fs, hr, hrun, hended, hW, hsame⟩ := X.leave (v := none) (fun _ => rfl) hlk
  exact ⟨_, _, X.returnOut hx hret (hb hby hd) hr, hrun, hended, _, _, rfl, hq, ⟨_, rfl⟩, hW, hsame.mono hc hs⟩
theorem own_retI (X : Stand p l e R s m args below meth c T locs cells slots) (hx : p.tables.exec = Jvm.exec) (hby : c.code = bytes) (hlk : meth.locks = false) (hret : meth.sig.returnType = some .int) (hd : decode bytes pc = .ok (.ireturn, 1)) (hc : cells ≤ cC) (hs : slots ≤ cS) {z : Int32}
    (hq : Q (some (.int z)) T.heap locs) : own_Got p e below (own_End s Q cC cS) T (mkF m pc ls (.int z :: st)) := by
  obtain ⟨fs, hr, hrun, hended, hW, hsame⟩ := X.leave (v := some (.int z)) (fun h => by rw [hret] at h; cases h) hlk
  exact ⟨_, _, retOut X hx hret rfl (Or.inl ⟨rfl, Or.inl rfl, _, rfl⟩) (hb hby hd) hr, hrun, hended, _, _, rfl, hq, ⟨_, rfl⟩, hW, hsame.mono hc hs⟩
theorem own_retL (X : Stand p l e R s m args below meth c T locs cells slots) (hx : p.tables.exec = Jvm.exec) (hby : c.code = bytes) (hlk : meth.locks = false) (hret : meth.sig.returnType = some .long) (hd : decode bytes pc = .ok (.lreturn, 1)) (hc : cells ≤ cC) (hs : slots ≤ cS) {z : Int64}
    (hq : Q (some (.long z)) T.heap locs) : own_Got p e below (own_End s Q cC cS) T (mkF m pc ls (.long z :: st)) := by
  obtain ⟨fs, hr, hrun, hended, hW, hsame⟩ := X.leave (v := some (.long z)) (fun h => by rw [hret] at h; cases h) hlk
  exact ⟨_, _, retOut X hx hret rfl (Or.inr (Or.inl ⟨rfl, rfl, _, rfl⟩)) (hb hby hd) hr, hrun, hended, _, _, rfl, hq, ⟨_, rfl⟩, hW, hsame.mono hc hs⟩
theorem own_retD (X : Stand p l e R s m args below meth c T locs cells slots) (hx : p.tables.exec = Jvm.exec) (hby : c.code = bytes) (hlk : meth.locks = false) (hret : meth.sig.returnType = some .double) (hd : decode bytes pc = .ok (.dreturn, 1)) (hc : cells ≤ cC) (hs : slots ≤ cS) {z : UInt64}
    (hq : Q (some (.double z)) T.heap locs) : own_Got p e below (own_End s Q cC cS) T (mkF m pc ls (.double z :: st)) := by
  obtain ⟨fs, hr, hrun, hended, hW, hsame⟩ := X.leave (v := some (.double z)) (fun h => by rw [hret] at h; cases h) hlk
  exact ⟨_, _, retOut X hx hret rfl (Or.inr (Or.inr (Or.inl ⟨rfl, rfl, _, rfl⟩))) (hb hby hd) hr, hrun, hended, _, _, rfl, hq, ⟨_, rfl⟩, hW, hsame.mono hc hs⟩
theorem own_retN (X : Stand p l e R s m args below meth c T locs cells slots) (hx : p.tables.exec = Jvm.exec) (hby : c.code = bytes) (hlk : meth.locks = false) {t : FieldType} (hret : meth.sig.returnType = some t) (ht : t = .boolean ∨ t = .byte ∨ t = .char ∨ t = .short) (hd : decode bytes pc = .ok (.ireturn, 1)) (hc : cells ≤ cC) (hs : slots ≤ cS) {z : Int32}
    (hq : Q (some (.int (nar t z))) T.heap locs) : own_Got p e below (own_End s Q cC cS) T (mkF m pc ls (.int z :: st)) := by
  obtain ⟨fs, hr, hrun, hended, hW, hsame⟩ := X.leave (v := some (.int (nar t z))) (fun h => by rw [hret] at h; cases h) hlk
  exact ⟨_, _, retN X hx hret ht (hb hby hd) hr, hrun, hended, _, _, rfl, hq, ⟨_, rfl⟩, hW, hsame.mono hc hs⟩
theorem own_retR (X : Stand p l e R s m args below meth c T locs cells slots) (hx : p.tables.exec = Jvm.exec) (hby : c.code = bytes) (hlk : meth.locks = false) {t : FieldType} (hret : meth.sig.returnType = some t) (ht : t.isReference = true) (hd : decode bytes pc = .ok (.areturn, 1)) (hc : cells ≤ cC) (hs : slots ≤ cS) {w : Value} (hw : w.isRef = true)
    (hq : Q (some w) T.heap locs) : own_Got p e below (own_End s Q cC cS) T (mkF m pc ls (w :: st)) := by
  obtain ⟨fs, hr, hrun, hended, hW, hsame⟩ := X.leave (v := some w) (fun h => by rw [hret] at h; cases h) hlk
  have hn : narrow t w = w := by rcases ref_cases hw with rfl | ⟨a, rfl⟩ <;> cases t <;> first | rfl | (cases ht)
  exact ⟨_, _, retOut X hx hret hn (Or.inr (Or.inr (Or.inr (Or.inr ⟨rfl, ht, hw⟩)))) (hb hby hd) hr, hrun, hended, _, _, rfl, hq, ⟨_, rfl⟩, hW, hsame.mono hc hs⟩
theorem g_iloadN (X : Stand p l e R s m args below meth c T locs cells slots) (hx : p.tables.exec = Jvm.exec) (hby : c.code = bytes) {k : Fin 4} {v : Int32} (hd : decode bytes pc = .ok (.iload_n k, 1)) (hl : ls[k.val]? = some (.val (.int v))) (hp : pc + 1 = pc')
    (k : own_Got p e below P T (mkF m pc' ls (.int v :: st))) : own_Got p e below P T (mkF m pc ls (st)) := by
  subst hp; exact own_go (fun _ q => XS.iloadN X.here hx rfl (hb hby hd) hl q) k
theorem g_iload (X : Stand p l e R s m args below meth c T locs cells slots) (hx : p.tables.exec = Jvm.exec) (hby : c.code = bytes) {k : Nat} {v : Int32} (hd : decode bytes pc = .ok (.iload k, 2)) (hl : ls[k]? = some (.val (.int v))) (hp : pc + 2 = pc')
    (k : own_Got p e below P T (mkF m pc' ls (.int v :: st))) : own_Got p e below P T (mkF m pc ls (st)) := by
  subst hp; exact own_go (fun _ q => XS.iload X.here hx rfl (hb hby hd) hl q) k
theorem g_lloadN (X : Stand p l e R s m args below meth c T locs cells slots) (hx : p.tables.exec = Jvm.exec) (hby : c.code = bytes) {k : Fin 4} {v : Int64} (hd : decode bytes pc = .ok (.lload_n k, 1)) (hl : ls[k.val]? = some (.val (.long v))) (hp : pc + 1 = pc')
    (k : own_Got p e below P T (mkF m pc' ls (.long v :: st))) : own_Got p e below P T (mkF m pc ls (st)) := by
  subst hp; exact own_go (fun _ q => XS.lloadN X.here hx rfl (hb hby hd) hl q) k
theorem g_lload (X : Stand p l e R s m args below meth c T locs cells slots) (hx : p.tables.exec = Jvm.exec) (hby : c.code = bytes) {k : Nat} {v : Int64} (hd : decode bytes pc = .ok (.lload k, 2)) (hl : ls[k]? = some (.val (.long v))) (hp : pc + 2 = pc')
    (k : own_Got p e below P T (mkF m pc' ls (.long v :: st))) : own_Got p e below P T (mkF m pc ls (st)) := by
  subst hp; exact own_go (fun _ q => XS.lload X.here hx rfl (hb hby hd) hl q) k
theorem g_dloadN (X : Stand p l e R s m args below meth c T locs cells slots) (hx : p.tables.exec = Jvm.exec) (hby : c.code = bytes) {k : Fin 4} {v : UInt64} (hd : decode bytes pc = .ok (.dload_n k, 1)) (hl : ls[k.val]? = some (.val (.double v))) (hp : pc + 1 = pc')
    (k : own_Got p e below P T (mkF m pc' ls (.double v :: st))) : own_Got p e below P T (mkF m pc ls (st)) := by
  subst hp; exact own_go (fun _ q => XS.dloadN X.here hx rfl (hb hby hd) hl q) k
theorem g_dload (X : Stand p l e R s m args below meth c T locs cells slots) (hx : p.tables.exec = Jvm.exec) (hby : c.code = bytes) {k : Nat} {v : UInt64} (hd : decode bytes pc = .ok (.dload k, 2)) (hl : ls[k]? = some (.val (.double v))) (hp : pc + 2 = pc')
    (k : own_Got p e below P T (mkF m pc' ls (.double v :: st))) : own_Got p e below P T (mkF m pc ls (st)) := by
  subst hp; exact own_go (fun _ q => XS.dload X.here hx rfl (hb hby hd) hl q) k
theorem g_aloadN (X : Stand p l e R s m args below meth c T locs cells slots) (hx : p.tables.exec = Jvm.exec) (hby : c.code = bytes) {k : Fin 4} {v : Value} (hd : decode bytes pc = .ok (.aload_n k, 1)) (hl : ls[k.val]? = some (.val v)) (hv : v.isRef = true) (hp : pc + 1 = pc')
    (k : own_Got p e below P T (mkF m pc' ls (v :: st))) : own_Got p e below P T (mkF m pc ls (st)) := by
  subst hp; exact own_go (fun _ q => XS.aloadN X.here hx rfl (hb hby hd) hl hv q) k
theorem g_aload (X : Stand p l e R s m args below meth c T locs cells slots) (hx : p.tables.exec = Jvm.exec) (hby : c.code = bytes) {k : Nat} {v : Value} (hd : decode bytes pc = .ok (.aload k, 2)) (hl : ls[k]? = some (.val v)) (hv : v.isRef = true) (hp : pc + 2 = pc')
    (k : own_Got p e below P T (mkF m pc' ls (v :: st))) : own_Got p e below P T (mkF m pc ls (st)) := by
  subst hp; exact own_go (fun _ q => XS.aload X.here hx rfl (hb hby hd) hl hv q) k
theorem g_istoreN (X : Stand p l e R s m args below meth c T locs cells slots) (hx : p.tables.exec = Jvm.exec) (hby : c.code = bytes) {k : Fin 4} {x : Int32} (ls' : Array Slot) (hd : decode bytes pc = .ok (.istore_n k, 1)) (hl : storeLocals ls k.val (.int x) = some ls') (hp : pc + 1 = pc')
    (k : own_Got p e below P T (mkF m pc' ls' (st))) : own_Got p e below P T (mkF m pc ls (.int x :: st)) := by
  subst hp; exact own_go (fun _ q => XS.istoreN X.here hx rfl (hb hby hd) rfl hl q) k
theorem g_istore (X : Stand p l e R s m args below meth c T locs cells slots) (hx : p.tables.exec = Jvm.exec) (hby : c.code = bytes) {k : Nat} {x : Int32} (ls' : Array Slot) (hd : decode bytes pc = .ok (.istore k, 2)) (hl : storeLocals ls k (.int x) = some ls') (hp : pc + 2 = pc')
    (k : own_Got p e below P T (mkF m pc' ls' (st))) : own_Got p e below P T (mkF m pc ls (.int x :: st)) := by
  subst hp; exact own_go (fun _ q => XS.istore X.here hx rfl (hb hby hd) rfl hl q) k
theorem g_lstoreN (X : Stand p l e R s m args below meth c T locs cells slots) (hx : p.tables.exec = Jvm.exec) (hby : c.code = bytes) {k : Fin 4} {x : Int64} (ls' : Array Slot) (hd : decode bytes pc = .ok (.lstore_n k, 1)) (hl : storeLocals ls k.val (.long x) = some ls') (hp : pc + 1 = pc')
    (k : own_Got p e below P T (mkF m pc' ls' (st))) : own_Got p e below P T (mkF m pc ls (.long x :: st)) := by
  subst hp; exact own_go (fun _ q => XS.lstoreN X.here hx rfl (hb hby hd) rfl hl q) k
theorem g_lstore (X : Stand p l e R s m args below meth c T locs cells slots) (hx : p.tables.exec = Jvm.exec) (hby : c.code = bytes) {k : Nat} {x : Int64} (ls' : Array Slot) (hd : decode bytes pc = .ok (.lstore k, 2)) (hl : storeLocals ls k (.long x) = some ls') (hp : pc + 2 = pc')
    (k : own_Got p e below P T (mkF m pc' ls' (st))) : own_Got p e below P T (mkF m pc ls (.long x :: st)) := by
  subst hp; exact own_go (fun _ q => XS.lstore X.here hx rfl (hb hby hd) rfl hl q) k
theorem g_dstoreN (X : Stand p l e R s m args below meth c T locs cells slots) (hx : p.tables.exec = Jvm.exec) (hby : c.code = bytes) {k : Fin 4} {x : UInt64} (ls' : Array Slot) (hd : decode bytes pc = .ok (.dstore_n k, 1)) (hl : storeLocals ls k.val (.double x) = some ls') (hp : pc + 1 = pc')
    (k : own_Got p e below P T (mkF m pc' ls' (st))) : own_Got p e below P T (mkF m pc ls (.double x :: st)) := by
  subst hp; exact own_go (fun _ q => XS.dstoreN X.here hx rfl (hb hby hd) rfl hl q) k
theorem g_dstore (X : Stand p l e R s m args below meth c T locs cells slots) (hx : p.tables.exec = Jvm.exec) (hby : c.code = bytes) {k : Nat} {x : UInt64} (ls' : Array Slot) (hd : decode bytes pc = .ok (.dstore k, 2)) (hl : storeLocals ls k (.double x) = some ls') (hp : pc + 2 = pc')
    (k : own_Got p e below P T (mkF m pc' ls' (st))) : own_Got p e below P T (mkF m pc ls (.double x :: st)) := by
  subst hp; exact own_go (fun _ q => XS.dstore X.here hx rfl (hb hby hd) rfl hl q) k
theorem g_astoreN (X : Stand p l e R s m args below meth c T locs cells slots) (hx : p.tables.exec = Jvm.exec) (hby : c.code = bytes) {k : Fin 4} {x : Value} (ls' : Array Slot) (hd : decode bytes pc = .ok (.astore_n k, 1)) (hv : x.isRef = true) (hl : storeLocals ls k.val x = some ls') (hp : pc + 1 = pc')
    (k : own_Got p e below P T (mkF m pc' ls' (st))) : own_Got p e below P T (mkF m pc ls (x :: st)) := by
  subst hp; exact own_go (fun _ q => XS.astoreN X.here hx rfl (hb hby hd) rfl hv hl q) k
theorem g_astore (X : Stand p l e R s m args below meth c T locs cells slots) (hx : p.tables.exec = Jvm.exec) (hby : c.code = bytes) {k : Nat} {x : Value} (ls' : Array Slot) (hd : decode bytes pc = .ok (.astore k, 2)) (hv : x.isRef = true) (hl : storeLocals ls k x = some ls') (hp : pc + 2 = pc')
    (k : own_Got p e below P T (mkF m pc' ls' (st))) : own_Got p e below P T (mkF m pc ls (x :: st)) := by
  subst hp; exact own_go (fun _ q => XS.astore X.here hx rfl (hb hby hd) rfl hv hl q) k
theorem g_iconst (X : Stand p l e R s m args below meth c T locs cells slots) (hx : p.tables.exec = Jvm.exec) (hby : c.code = bytes) {i : Int} (z : Int32) (hd : decode bytes pc = .ok (.iconst i, 1)) (hz : Int32.ofInt i = z) (hp : pc + 1 = pc')
    (k : own_Got p e below P T (mkF m pc' ls (.int z :: st))) : own_Got p e below P T (mkF m pc ls (st)) := by
  subst hp; subst hz; exact own_go (fun _ q => XS.iconst X.here hx rfl (hb hby hd) q) k
theorem g_bipush (X : Stand p l e R s m args below meth c T locs cells slots) (hx : p.tables.exec = Jvm.exec) (hby : c.code = bytes) {i : Int} (z : Int32) (hd : decode bytes pc = .ok (.bipush i, 2)) (hz : (Int8.ofInt i).toInt32 = z) (hp : pc + 2 = pc')
    (k : own_Got p e below P T (mkF m pc' ls (.int z :: st))) : own_Got p e below P T (mkF m pc ls (st)) := by
  subst hp; subst hz; exact own_go (fun _ q => XS.bipush X.here hx rfl (hb hby hd) q) k
theorem g_sipush (X : Stand p l e R s m args below meth c T locs cells slots) (hx : p.tables.exec = Jvm.exec) (hby : c.code = bytes) {i : Int} (z : Int32) (hd : decode bytes pc = .ok (.sipush i, 3)) (hz : (Int16.ofInt i).toInt32 = z) (hp : pc + 3 = pc')
    (k : own_Got p e below P T (mkF m pc' ls (.int z :: st))) : own_Got p e below P T (mkF m pc ls (st)) := by
  subst hp; subst hz; exact own_go (fun _ q => XS.sipush X.here hx rfl (hb hby hd) q) k
theorem g_lconst (X : Stand p l e R s m args below meth c T locs cells slots) (hx : p.tables.exec = Jvm.exec) (hby : c.code = bytes) {i : Fin 2} (z : Int64) (hd : decode bytes pc = .ok (.lconst i, 1)) (hz : Int64.ofNat i.val = z) (hp : pc + 1 = pc')
    (k : own_Got p e below P T (mkF m pc' ls (.long z :: st))) : own_Got p e below P T (mkF m pc ls (st)) := by
  subst hp; subst hz; exact own_go (fun _ q => XS.lconst X.here hx rfl (hb hby hd) q) k
theorem g_anull (X : Stand p l e R s m args below meth c T locs cells slots) (hx : p.tables.exec = Jvm.exec) (hby : c.code = bytes)  (hd : decode bytes pc = .ok (.aconst_null, 1))  (hp : pc + 1 = pc')
    (k : own_Got p e below P T (mkF m pc' ls (.null :: st))) : own_Got p e below P T (mkF m pc ls (st)) := by
  subst hp; exact own_go (fun _ q => XS.aconstNull X.here hx rfl (hb hby hd) q) k
theorem g_iadd (X : Stand p l e R s m args below meth c T locs cells slots) (hx : p.tables.exec = Jvm.exec) (hby : c.code = bytes) {x y : Int32} (hd : decode bytes pc = .ok (.iadd, 1))  (hp : pc + 1 = pc')
    (k : own_Got p e below P T (mkF m pc' ls (.int (x + y) :: st))) : own_Got p e below P T (mkF m pc ls (.int y :: .int x :: st)) := by
  subst hp; exact own_go (fun _ q => XS.iadd X.here hx rfl (hb hby hd) rfl q) k
theorem g_isub (X : Stand p l e R s m args below meth c T locs cells slots) (hx : p.tables.exec = Jvm.exec) (hby : c.code = bytes) {x y : Int32} (hd : decode bytes pc = .ok (.isub, 1))  (hp : pc + 1 = pc')
    (k : own_Got p e below P T (mkF m pc' ls (.int (x - y) :: st))) : own_Got p e below P T (mkF m pc ls (.int y :: .int x :: st)) := by
  subst hp; exact own_go (fun _ q => XS.isub X.here hx rfl (hb hby hd) rfl q) k
theorem g_iand (X : Stand p l e R s m args below meth c T locs cells slots) (hx : p.tables.exec = Jvm.exec) (hby : c.code = bytes) {x y : Int32} (hd : decode bytes pc = .ok (.iand, 1))  (hp : pc + 1 = pc')
    (k : own_Got p e below P T (mkF m pc' ls (.int (x &&& y) :: st))) : own_Got p e below P T (mkF m pc ls (.int y :: .int x :: st)) := by
  subst hp; exact own_go (fun _ q => XS.iand X.here hx rfl (hb hby hd) rfl q) k
theorem g_ior (X : Stand p l e R s m args below meth c T locs cells slots) (hx : p.tables.exec = Jvm.exec) (hby : c.code = bytes) {x y : Int32} (hd : decode bytes pc = .ok (.ior, 1))  (hp : pc + 1 = pc')
    (k : own_Got p e below P T (mkF m pc' ls (.int (x ||| y) :: st))) : own_Got p e below P T (mkF m pc ls (.int y :: .int x :: st)) := by
  subst hp; exact own_go (fun _ q => XS.ior X.here hx rfl (hb hby hd) rfl q) k
theorem g_ixor (X : Stand p l e R s m args below meth c T locs cells slots) (hx : p.tables.exec = Jvm.exec) (hby : c.code = bytes) {x y : Int32} (hd : decode bytes pc = .ok (.ixor, 1))  (hp : pc + 1 = pc')
    (k : own_Got p e below P T (mkF m pc' ls (.int (x ^^^ y) :: st))) : own_Got p e below P T (mkF m pc ls (.int y :: .int x :: st)) := by
  subst hp; exact own_go (fun _ q => XS.ixor X.here hx rfl (hb hby hd) rfl q) k
theorem g_imul (X : Stand p l e R s m args below meth c T locs cells slots) (hx : p.tables.exec = Jvm.exec) (hby : c.code = bytes) {x y : Int32} (hd : decode bytes pc = .ok (.imul, 1))  (hp : pc + 1 = pc')
    (k : own_Got p e below P T (mkF m pc' ls (.int (x * y) :: st))) : own_Got p e below P T (mkF m pc ls (.int y :: .int x :: st)) := by
  subst hp; exact own_go (fun _ q => XS.imul X.here hx rfl (hb hby hd) rfl q) k
theorem g_ladd (X : Stand p l e R s m args below meth c T locs cells slots) (hx : p.tables.exec = Jvm.exec) (hby : c.code = bytes) {x y : Int64} (hd : decode bytes pc = .ok (.ladd, 1))  (hp : pc + 1 = pc')
    (k : own_Got p e below P T (mkF m pc' ls (.long (x + y) :: st))) : own_Got p e below P T (mkF m pc ls (.long y :: .long x :: st)) := by
  subst hp; exact own_go (fun _ q => XS.ladd X.here hx rfl (hb hby hd) rfl q) k
theorem g_lsub (X : Stand p l e R s m args below meth c T locs cells slots) (hx : p.tables.exec = Jvm.exec) (hby : c.code = bytes) {x y : Int64} (hd : decode bytes pc = .ok (.lsub, 1))  (hp : pc + 1 = pc')
    (k : own_Got p e below P T (mkF m pc' ls (.long (x - y) :: st))) : own_Got p e below P T (mkF m pc ls (.long y :: .long x :: st)) := by
  subst hp; exact own_go (fun _ q => XS.lsub X.here hx rfl (hb hby hd) rfl q) k
theorem g_land (X : Stand p l e R s m args below meth c T locs cells slots) (hx : p.tables.exec = Jvm.exec) (hby : c.code = bytes) {x y : Int64} (hd : decode bytes pc = .ok (.land, 1))  (hp : pc + 1 = pc')
    (k : own_Got p e below P T (mkF m pc' ls (.long (x &&& y) :: st))) : own_Got p e below P T (mkF m pc ls (.long y :: .long x :: st)) := by
  subst hp; exact own_go (fun _ q => XS.land X.here hx rfl (hb hby hd) rfl q) k
theorem g_lor (X : Stand p l e R s m args below meth c T locs cells slots) (hx : p.tables.exec = Jvm.exec) (hby : c.code = bytes) {x y : Int64} (hd : decode bytes pc = .ok (.lor, 1))  (hp : pc + 1 = pc')
    (k : own_Got p e below P T (mkF m pc' ls (.long (x ||| y) :: st))) : own_Got p e below P T (mkF m pc ls (.long y :: .long x :: st)) := by
  subst hp; exact own_go (fun _ q => XS.lor X.here hx rfl (hb hby hd) rfl q) k
theorem g_lxor (X : Stand p l e R s m args below meth c T locs cells slots) (hx : p.tables.exec = Jvm.exec) (hby : c.code = bytes) {x y : Int64} (hd : decode bytes pc = .ok (.lxor, 1))  (hp : pc + 1 = pc')
    (k : own_Got p e below P T (mkF m pc' ls (.long (x ^^^ y) :: st))) : own_Got p e below P T (mkF m pc ls (.long y :: .long x :: st)) := by
  subst hp; exact own_go (fun _ q => XS.lxor X.here hx rfl (hb hby hd) rfl q) k
theorem g_lmul (X : Stand p l e R s m args below meth c T locs cells slots) (hx : p.tables.exec = Jvm.exec) (hby : c.code = bytes) {x y : Int64} (hd : decode bytes pc = .ok (.lmul, 1))  (hp : pc + 1 = pc')
    (k : own_Got p e below P T (mkF m pc' ls (.long (x * y) :: st))) : own_Got p e below P T (mkF m pc ls (.long y :: .long x :: st)) := by
  subst hp; exact own_go (fun _ q => XS.lmul X.here hx rfl (hb hby hd) rfl q) k
theorem g_idiv (X : Stand p l e R s m args below meth c T locs cells slots) (hx : p.tables.exec = Jvm.exec) (hby : c.code = bytes) {x y : Int32} (hd : decode bytes pc = .ok (.idiv, 1)) (hy : y ≠ 0) (hp : pc + 1 = pc')
    (k : own_Got p e below P T (mkF m pc' ls (.int (x / y) :: st))) : own_Got p e below P T (mkF m pc ls (.int y :: .int x :: st)) := by
  subst hp; exact own_go (fun _ q => XS.idiv X.here hx rfl (hb hby hd) rfl hy q) k
theorem g_irem (X : Stand p l e R s m args below meth c T locs cells slots) (hx : p.tables.exec = Jvm.exec) (hby : c.code = bytes) {x y : Int32} (hd : decode bytes pc = .ok (.irem, 1)) (hy : y ≠ 0) (hp : pc + 1 = pc')
    (k : own_Got p e below P T (mkF m pc' ls (.int (x % y) :: st))) : own_Got p e below P T (mkF m pc ls (.int y :: .int x :: st)) := by
  subst hp; exact own_go (fun _ q => iremM X hx rfl (hb hby hd) rfl hy q) k
theorem g_ishl (X : Stand p l e R s m args below meth c T locs cells slots) (hx : p.tables.exec = Jvm.exec) (hby : c.code = bytes) {x y : Int32} (hd : decode bytes pc = .ok (.ishl, 1))  (hp : pc + 1 = pc')
    (k : own_Got p e below P T (mkF m pc' ls (.int (x <<< (y &&& 31)) :: st))) : own_Got p e below P T (mkF m pc ls (.int y :: .int x :: st)) := by
  subst hp; exact own_go (fun _ q => XS.ishl X.here hx rfl (hb hby hd) rfl q) k
theorem g_ishr (X : Stand p l e R s m args below meth c T locs cells slots) (hx : p.tables.exec = Jvm.exec) (hby : c.code = bytes) {x y : Int32} (hd : decode bytes pc = .ok (.ishr, 1))  (hp : pc + 1 = pc')
    (k : own_Got p e below P T (mkF m pc' ls (.int (x >>> (y &&& 31)) :: st))) : own_Got p e below P T (mkF m pc ls (.int y :: .int x :: st)) := by
  subst hp; exact own_go (fun _ q => XS.ishr X.here hx rfl (hb hby hd) rfl q) k
theorem g_iushr (X : Stand p l e R s m args below meth c T locs cells slots) (hx : p.tables.exec = Jvm.exec) (hby : c.code = bytes) {x y : Int32} (hd : decode bytes pc = .ok (.iushr, 1))  (hp : pc + 1 = pc')
    (k : own_Got p e below P T (mkF m pc' ls (.int ((x.toUInt32 >>> (y &&& 31).toUInt32).toInt32) :: st))) : own_Got p e below P T (mkF m pc ls (.int y :: .int x :: st)) := by
  subst hp; exact own_go (fun _ q => XS.iushr X.here hx rfl (hb hby hd) rfl q) k
theorem g_ineg (X : Stand p l e R s m args below meth c T locs cells slots) (hx : p.tables.exec = Jvm.exec) (hby : c.code = bytes) {x : Int32} (hd : decode bytes pc = .ok (.ineg, 1))  (hp : pc + 1 = pc')
    (k : own_Got p e below P T (mkF m pc' ls (.int (-x) :: st))) : own_Got p e below P T (mkF m pc ls (.int x :: st)) := by
  subst hp; exact own_go (fun _ q => XS.ineg X.here hx rfl (hb hby hd) rfl q) k
theorem g_i2b (X : Stand p l e R s m args below meth c T locs cells slots) (hx : p.tables.exec = Jvm.exec) (hby : c.code = bytes) {x : Int32} (hd : decode bytes pc = .ok (.i2b, 1))  (hp : pc + 1 = pc')
    (k : own_Got p e below P T (mkF m pc' ls (.int x.toInt8.toInt32 :: st))) : own_Got p e below P T (mkF m pc ls (.int x :: st)) := by
  subst hp; exact own_go (fun _ q => XS.i2b X.here hx rfl (hb hby hd) rfl q) k
theorem g_i2s (X : Stand p l e R s m args below meth c T locs cells slots) (hx : p.tables.exec = Jvm.exec) (hby : c.code = bytes) {x : Int32} (hd : decode bytes pc = .ok (.i2s, 1))  (hp : pc + 1 = pc')
    (k : own_Got p e below P T (mkF m pc' ls (.int x.toInt16.toInt32 :: st))) : own_Got p e below P T (mkF m pc ls (.int x :: st)) := by
  subst hp; exact own_go (fun _ q => XS.i2s X.here hx rfl (hb hby hd) rfl q) k
theorem g_i2c (X : Stand p l e R s m args below meth c T locs cells slots) (hx : p.tables.exec = Jvm.exec) (hby : c.code = bytes) {x : Int32} (hd : decode bytes pc = .ok (.i2c, 1))  (hp : pc + 1 = pc')
    (k : own_Got p e below P T (mkF m pc' ls (.int x.toUInt32.toUInt16.toUInt32.toInt32 :: st))) : own_Got p e below P T (mkF m pc ls (.int x :: st)) := by
  subst hp; exact own_go (fun _ q => XS.i2c X.here hx rfl (hb hby hd) rfl q) k
theorem g_i2l (X : Stand p l e R s m args below meth c T locs cells slots) (hx : p.tables.exec = Jvm.exec) (hby : c.code = bytes) {x : Int32} (hd : decode bytes pc = .ok (.i2l, 1))  (hp : pc + 1 = pc')
    (k : own_Got p e below P T (mkF m pc' ls (.long x.toInt64 :: st))) : own_Got p e below P T (mkF m pc ls (.int x :: st)) := by
  subst hp; exact own_go (fun _ q => XS.i2l X.here hx rfl (hb hby hd) rfl q) k
theorem g_lcmp (X : Stand p l e R s m args below meth c T locs cells slots) (hx : p.tables.exec = Jvm.exec) (hby : c.code = bytes) {x y : Int64} (hd : decode bytes pc = .ok (.lcmp, 1))  (hp : pc + 1 = pc')
    (k : own_Got p e below P T (mkF m pc' ls (.int (lcmpW x y) :: st))) : own_Got p e below P T (mkF m pc ls (.long y :: .long x :: st)) := by
  subst hp; exact own_go (fun _ q => XS.lcmp X.here hx rfl (hb hby hd) rfl q) k
theorem g_iinc (X : Stand p l e R s m args below meth c T locs cells slots) (hx : p.tables.exec = Jvm.exec) (hby : c.code = bytes) {k : Nat} {cst : Int} {x : Int32} (ls' : Array Slot) (hd : decode bytes pc = .ok (.iinc k cst, 3)) (hl : ls[k]? = some (.val (.int x))) (hl' : storeLocals ls k (.int (x + Int32.ofInt cst)) = some ls') (hp : pc + 3 = pc')
    (k : own_Got p e below P T (mkF m pc' ls' (st))) : own_Got p e below P T (mkF m pc ls (st)) := by
  subst hp; exact own_go (fun _ q => XS.iinc X.here hx rfl (hb hby hd) hl hl' q) k
theorem g_dup (X : Stand p l e R s m args below meth c T locs cells slots) (hx : p.tables.exec = Jvm.exec) (hby : c.code = bytes) {x : Value} (hd : decode bytes pc = .ok (.dup, 1)) (hc : x.category = 1) (hp : pc + 1 = pc')
    (k : own_Got p e below P T (mkF m pc' ls (x :: x :: st))) : own_Got p e below P T (mkF m pc ls (x :: st)) := by
  subst hp; exact own_go (fun _ q => XS.dup X.here hx rfl (hb hby hd) rfl hc q) k
theorem g_dupX1 (X : Stand p l e R s m args below meth c T locs cells slots) (hx : p.tables.exec = Jvm.exec) (hby : c.code = bytes) {x y : Value} (hd : decode bytes pc = .ok (.dup_x1, 1)) (hc : x.category = 1) (hc2 : y.category = 1) (hp : pc + 1 = pc')
    (k : own_Got p e below P T (mkF m pc' ls (x :: y :: x :: st))) : own_Got p e below P T (mkF m pc ls (x :: y :: st)) := by
  subst hp; exact own_go (fun _ q => XS.dupX1 X.here hx rfl (hb hby hd) rfl hc hc2 q) k
theorem g_pop (X : Stand p l e R s m args below meth c T locs cells slots) (hx : p.tables.exec = Jvm.exec) (hby : c.code = bytes) {x : Value} (hd : decode bytes pc = .ok (.pop, 1)) (hc : x.category = 1) (hp : pc + 1 = pc')
    (k : own_Got p e below P T (mkF m pc' ls (st))) : own_Got p e below P T (mkF m pc ls (x :: st)) := by
  subst hp; exact own_go (fun _ q => XS.pop X.here hx rfl (hb hby hd) rfl hc q) k
theorem g_dup2 (X : Stand p l e R s m args below meth c T locs cells slots) (hx : p.tables.exec = Jvm.exec) (hby : c.code = bytes) {x y : Value} (hd : decode bytes pc = .ok (.dup2, 1)) (hc : x.category = 1) (hc2 : y.category = 1) (hp : pc + 1 = pc')
    (k : own_Got p e below P T (mkF m pc' ls (x :: y :: x :: y :: st))) : own_Got p e below P T (mkF m pc ls (x :: y :: st)) := by
  subst hp; exact own_go (fun _ q => XT.dup2 X.here hx rfl (hb hby hd) rfl hc hc2 q) k
theorem g_goto (X : Stand p l e R s m args below meth c T locs cells slots) (hx : p.tables.exec = Jvm.exec) (hby : c.code = bytes) {o : Int} (hd : decode bytes pc = .ok (.goto o, 3))  (ho : 0 ≤ (pc : Int) + o) (hp : ((pc : Int) + o).toNat = pc')
    (k : own_Got p e below P T (mkF m pc' ls (st))) : own_Got p e below P T (mkF m pc ls (st)) := by
  exact own_go (fun _ q => XS.goto X.here hx rfl rfl (hb hby hd) ho hp q) k
theorem g_ifT (X : Stand p l e R s m args below meth c T locs cells slots) (hx : p.tables.exec = Jvm.exec) (hby : c.code = bytes) {cd : ClassFile.Cond} {x : Int32} {o : Int} (hd : decode bytes pc = .ok (.ifCond cd o, 3)) (hc : ifCond.holds cd x = true) (ho : 0 ≤ (pc : Int) + o) (hp : ((pc : Int) + o).toNat = pc')
    (k : own_Got p e below P T (mkF m pc' ls (st))) : own_Got p e below P T (mkF m pc ls (.int x :: st)) := by
  exact own_go (fun _ q => XS.ifYes X.here hx rfl rfl (hb hby hd) rfl hc ho hp q) k
theorem g_icT (X : Stand p l e R s m args below meth c T locs cells slots) (hx : p.tables.exec = Jvm.exec) (hby : c.code = bytes) {cd : ClassFile.Cond} {x y : Int32} {o : Int} (hd : decode bytes pc = .ok (.if_icmp cd o, 3)) (hc : if_icmp.holds cd x y = true) (ho : 0 ≤ (pc : Int) + o) (hp : ((pc : Int) + o).toNat = pc')
    (k : own_Got p e below P T (mkF m pc' ls (st))) : own_Got p e below P T (mkF m pc ls (.int y :: .int x :: st)) := by
  exact own_go (fun _ q => XS.icmpYes X.here hx rfl rfl (hb hby hd) rfl hc ho hp q) k
theorem g_inT (X : Stand p l e R s m args below meth c T locs cells slots) (hx : p.tables.exec = Jvm.exec) (hby : c.code = bytes) {o : Int} (hd : decode bytes pc = .ok (.ifnull o, 3))  (ho : 0 ≤ (pc : Int) + o) (hp : ((pc : Int) + o).toNat = pc')
    (k : own_Got p e below P T (mkF m pc' ls (st))) : own_Got p e below P T (mkF m pc ls (.null :: st)) := by
  exact own_go (fun _ q => XS.ifnullYes X.here hx rfl rfl (hb hby hd) rfl ho hp q) k
theorem g_innT (X : Stand p l e R s m args below meth c T locs cells slots) (hx : p.tables.exec = Jvm.exec) (hby : c.code = bytes) {b : Addr} {o : Int} (hd : decode bytes pc = .ok (.ifnonnull o, 3))  (ho : 0 ≤ (pc : Int) + o) (hp : ((pc : Int) + o).toNat = pc')
    (k : own_Got p e below P T (mkF m pc' ls (st))) : own_Got p e below P T (mkF m pc ls (.ref b :: st)) := by
  exact own_go (fun _ q => XS.ifnonnullYes X.here hx rfl rfl (hb hby hd) rfl ho hp q) k
theorem g_ifF (X : Stand p l e R s m args below meth c T locs cells slots) (hx : p.tables.exec = Jvm.exec) (hby : c.code = bytes) {cd : ClassFile.Cond} {o : Int} {x : Int32} (hd : decode bytes pc = .ok (.ifCond cd o, 3)) (hc : ifCond.holds cd x = false) (hp : pc + 3 = pc')
    (k : own_Got p e below P T (mkF m pc' ls (st))) : own_Got p e below P T (mkF m pc ls (.int x :: st)) := by
  subst hp; exact own_go (fun _ q => XS.ifNo X.here hx rfl (hb hby hd) rfl hc q) k
theorem g_icF (X : Stand p l e R s m args below meth c T locs cells slots) (hx : p.tables.exec = Jvm.exec) (hby : c.code = bytes) {cd : ClassFile.Cond} {o : Int} {x y : Int32} (hd : decode bytes pc = .ok (.if_icmp cd o, 3)) (hc : if_icmp.holds cd x y = false) (hp : pc + 3 = pc')
    (k : own_Got p e below P T (mkF m pc' ls (st))) : own_Got p e below P T (mkF m pc ls (.int y :: .int x :: st)) := by
  subst hp; exact own_go (fun _ q => XS.icmpNo X.here hx rfl (hb hby hd) rfl hc q) k
theorem g_inF (X : Stand p l e R s m args below meth c T locs cells slots) (hx : p.tables.exec = Jvm.exec) (hby : c.code = bytes) {o : Int} {b : Addr} (hd : decode bytes pc = .ok (.ifnull o, 3))  (hp : pc + 3 = pc')
    (k : own_Got p e below P T (mkF m pc' ls (st))) : own_Got p e below P T (mkF m pc ls (.ref b :: st)) := by
  subst hp; exact own_go (fun _ q => XS.ifnullNo X.here hx rfl (hb hby hd) rfl q) k
theorem g_innF (X : Stand p l e R s m args below meth c T locs cells slots) (hx : p.tables.exec = Jvm.exec) (hby : c.code = bytes) {o : Int} (hd : decode bytes pc = .ok (.ifnonnull o, 3))  (hp : pc + 3 = pc')
    (k : own_Got p e below P T (mkF m pc' ls (st))) : own_Got p e below P T (mkF m pc ls (.null :: st)) := by
  subst hp; exact own_go (fun _ q => XS.ifnonnullNo X.here hx rfl (hb hby hd) rfl q) k
theorem g_acmp (X : Stand p l e R s m args below meth c T locs cells slots) (hx : p.tables.exec = Jvm.exec) (hby : c.code = bytes) {cd : ACond} {x y : Value} {o : Int} (same : Bool) (hd : decode bytes pc = .ok (.if_acmp cd o, 3)) (h1 : x.isRef = true) (h2 : y.isRef = true) (hq : decide (x = y) = same) (ho : 0 ≤ (pc : Int) + o) (hp : pc' = if acV cd same = true then ((pc : Int) + o).toNat else pc + 3)
    (k : own_Got p e below P T (mkF m pc' ls st)) : own_Got p e below P T (mkF m pc ls (y :: x :: st)) :=
  own_go (fun _ q => Jvm.RoadKit.acmp X hx rfl h1 h2 rfl (hb hby hd) rfl hq ho hp q) k
theorem g_ldcI (X : Stand p l e R s m args below meth c T locs cells slots) (hx : p.tables.exec = Jvm.exec) (hby : c.code = bytes) (hZ : Z.Warmed39 s.vm) {own : String} {index : Nat} {v : Int32} (hown : s.vm.findClass own = some m.cls) (w : (Cond.constant own index v).before a0 Z = true) (hd : decode bytes pc = .ok (.ldc index, 2)) (hp : pc + 2 = pc')
    (k : own_Got p e below P T (mkF m pc' ls (.int v :: st))) : own_Got p e below P T (mkF m pc ls st) := by
  subst hp; exact own_go (X.ldcInt hx hown (mvT hZ w) rfl (hb hby hd)) k
theorem g_ldc2D (X : Stand p l e R s m args below meth c T locs cells slots) (hx : p.tables.exec = Jvm.exec) (hby : c.code = bytes) (hZ : Z.Warmed39 s.vm) {own : String} {index : Nat} {v : UInt64} (hown : s.vm.findClass own = some m.cls) (w : (Cond.constantDouble own index v).before a0 Z = true) (hd : decode bytes pc = .ok (.ldc2_w index, 3)) (hp : pc + 3 = pc')
    (k : own_Got p e below P T (mkF m pc' ls (.double v :: st))) : own_Got p e below P T (mkF m pc ls st) := by
  subst hp; exact own_go (X.ldc2DoubleC hx hown (mvT hZ w) rfl (hb hby hd)) k
theorem g_alen (X : Stand p l e R s m args below meth c T locs cells slots) (hx : p.tables.exec = Jvm.exec) (hby : c.code = bytes) (hZ : Z.Warmed39 s.vm) (eT : T.heap = h) {a : Addr} {kk : ClassId} {ty : FieldType} {n : Int32} {vs : List Value} {d : Value} (F : Arv Z h a kk ty n vs d) (hd : decode bytes pc = .ok (.arraylength, 1)) (hp : pc + 1 = pc')
    (k : own_Got p e below P T (mkF m pc' ls (.int n :: st))) : own_Got p e below P T (mkF m pc ls (.ref a :: st)) := by
  subst hp
  obtain ⟨cl, Ar, -, S, N, -, -⟩ := F
  refine own_go (fun t q => X.arraylength hx (by rw [eT]; exact Ar.1) (State.isArrayOf_alike hZ.alike Ar.2.1) (g := mkF m pc ls (.ref a :: st)) rfl rfl (hb hby hd) t q) ?_
  rw [len_of S N]; exact k
theorem g_iaload (X : Stand p l e R s m args below meth c T locs cells slots) (hx : p.tables.exec = Jvm.exec) (hby : c.code = bytes) (hZ : Z.Warmed39 s.vm) (eT : T.heap = h) {a : Addr} {kk : ClassId} {n : Int32} {vs : List Value} {d v : Value} {j : Int32} (F : Arv Z h a kk .int n vs d) (hj : ¬ j < 0 ∧ j < n) (hv : vs.getD j.toNatClampNeg d = v) (hd : decode bytes pc = .ok (.iaload, 1)) (hp : pc + 1 = pc')
    (k : own_Got p e below P T (mkF m pc' ls (v :: st))) : own_Got p e below P T (mkF m pc ls (.int j :: .ref a :: st)) := by
  subst hp
  obtain ⟨cl, Ar, -, S, N, H, -⟩ := F
  exact own_go (fun t q => X.iaload hx (by rw [eT]; exact Ar.1) (State.isArrayOf_alike hZ.alike Ar.2.1) Ar.2.2 (inb_of S hj) (H.at (inb_of S hj) hv) (g := mkF m pc ls (.int j :: .ref a :: st)) rfl rfl (hb hby hd) t q) k
theorem g_caload (X : Stand p l e R s m args below meth c T locs cells slots) (hx : p.tables.exec = Jvm.exec) (hby : c.code = bytes) (hZ : Z.Warmed39 s.vm) (eT : T.heap = h) {a : Addr} {kk : ClassId} {n : Int32} {vs : List Value} {d v : Value} {j : Int32} (F : Arv Z h a kk .char n vs d) (hj : ¬ j < 0 ∧ j < n) (hv : vs.getD j.toNatClampNeg d = v) (hd : decode bytes pc = .ok (.caload, 1)) (hp : pc + 1 = pc')
    (k : own_Got p e below P T (mkF m pc' ls (v :: st))) : own_Got p e below P T (mkF m pc ls (.int j :: .ref a :: st)) := by
  subst hp
  obtain ⟨cl, Ar, -, S, N, H, -⟩ := F
  exact own_go (fun t q => X.caload hx (by rw [eT]; exact Ar.1) (State.isArrayOf_alike hZ.alike Ar.2.1) Ar.2.2 (inb_of S hj) (H.at (inb_of S hj) hv) (g := mkF m pc ls (.int j :: .ref a :: st)) rfl rfl (hb hby hd) t q) k
theorem g_laload (X : Stand p l e R s m args below meth c T locs cells slots) (hx : p.tables.exec = Jvm.exec) (hby : c.code = bytes) (hZ : Z.Warmed39 s.vm) (eT : T.heap = h) {a : Addr} {kk : ClassId} {n : Int32} {vs : List Value} {d v : Value} {j : Int32} (F : Arv Z h a kk .long n vs d) (hj : ¬ j < 0 ∧ j < n) (hv : vs.getD j.toNatClampNeg d = v) (hd : decode bytes pc = .ok (.laload, 1)) (hp : pc + 1 = pc')
    (k : own_Got p e below P T (mkF m pc' ls (v :: st))) : own_Got p e below P T (mkF m pc ls (.int j :: .ref a :: st)) := by
  subst hp
  obtain ⟨cl, Ar, -, S, N, H, -⟩ := F
  exact own_go (fun t q => X.laload hx (by rw [eT]; exact Ar.1) (State.isArrayOf_alike hZ.alike Ar.2.1) Ar.2.2 (inb_of S hj) (H.at (inb_of S hj) hv) (g := mkF m pc ls (.int j :: .ref a :: st)) rfl rfl (hb hby hd) t q) k
theorem g_baload (X : Stand p l e R s m args below meth c T locs cells slots) (hx : p.tables.exec = Jvm.exec) (hby : c.code = bytes) (hZ : Z.Warmed39 s.vm) (eT : T.heap = h) {a : Addr} {kk : ClassId} {n : Int32} {vs : List Value} {d v : Value} {j : Int32} (F : Arv Z h a kk .byte n vs d) (hj : ¬ j < 0 ∧ j < n) (hv : vs.getD j.toNatClampNeg d = v) (hd : decode bytes pc = .ok (.baload, 1)) (hp : pc + 1 = pc')
    (k : own_Got p e below P T (mkF m pc' ls (v :: st))) : own_Got p e below P T (mkF m pc ls (.int j :: .ref a :: st)) := by
  subst hp
  obtain ⟨cl, Ar, -, S, N, H, -⟩ := F
  exact own_go (fun t q => X.baloadBytes hx (by rw [eT]; exact Ar.1) (State.isArrayOf_alike hZ.alike Ar.2.1) Ar.2.2 (inb_of S hj) (H.at (inb_of S hj) hv) (g := mkF m pc ls (.int j :: .ref a :: st)) rfl rfl (hb hby hd) t q) k
theorem g_daload (X : Stand p l e R s m args below meth c T locs cells slots) (hx : p.tables.exec = Jvm.exec) (hby : c.code = bytes) (hZ : Z.Warmed39 s.vm) (eT : T.heap = h) {a : Addr} {kk : ClassId} {n : Int32} {vs : List Value} {d v : Value} {j : Int32} (F : Arv Z h a kk .double n vs d) (hj : ¬ j < 0 ∧ j < n) (hv : vs.getD j.toNatClampNeg d = v) (hd : decode bytes pc = .ok (.daload, 1)) (hp : pc + 1 = pc')
    (k : own_Got p e below P T (mkF m pc' ls (v :: st))) : own_Got p e below P T (mkF m pc ls (.int j :: .ref a :: st)) := by
  subst hp
  obtain ⟨cl, Ar, -, S, N, H, -⟩ := F
  exact own_go (fun t q => X.daload hx (by rw [eT]; exact Ar.1) (State.isArrayOf_alike hZ.alike Ar.2.1) Ar.2.2 (inb_of S hj) (H.at (inb_of S hj) hv) (g := mkF m pc ls (.int j :: .ref a :: st)) rfl rfl (hb hby hd) t q) k
theorem g_aaload (X : Stand p l e R s m args below meth c T locs cells slots) (hx : p.tables.exec = Jvm.exec) (hby : c.code = bytes) (hZ : Z.Warmed39 s.vm) (eT : T.heap = h) {a : Addr} {kk : ClassId} {ty : FieldType} {n : Int32} {vs : List Value} {d v : Value} {j : Int32} (F : Arv Z h a kk ty n vs d) (ht : ty.isReference = true) (hj : ¬ j < 0 ∧ j < n) (hv : vs.getD j.toNatClampNeg d = v) (hd : decode bytes pc = .ok (.aaload, 1)) (hp : pc + 1 = pc')
    (k : own_Got p e below P T (mkF m pc' ls (v :: st))) : own_Got p e below P T (mkF m pc ls (.int j :: .ref a :: st)) := by
  subst hp
  obtain ⟨cl, Ar, -, S, N, H, -⟩ := F
  exact own_go (fun t q => X.aaload hx (by rw [eT]; exact Ar.1) (State.isArrayOf_alike hZ.alike Ar.2.1) ht Ar.2.2 (inb_of S hj) (H.at (inb_of S hj) hv) (g := mkF m pc ls (.int j :: .ref a :: st)) rfl rfl (hb hby hd) t q) k
theorem a_iastore (X : Stand p l e R s m args below meth c T locs cells slots) (hx : p.tables.exec = Jvm.exec) (hby : c.code = bytes) (hZ : Z.Warmed39 s.vm) (eT : T.heap = h) {a : Addr} {kk : ClassId} {n : Int32} {vs : List Value} {d : Value} {j : Int32} (x : Int32) (i : Nat) (F : Arv Z h a kk .int n vs d) (hj : ¬ j < 0 ∧ j < n) (hi : j.toNatClampNeg = i) (hl : i < vs.length) (hd : decode bytes pc = .ok (.iastore, 1)) :
    ∃ T' h', Stand p l e R s m args below meth c T' (locs ++ [⟨a, j.toNatClampNeg⟩]) cells slots ∧ T'.heap = h' ∧ Wr h h' a j.toNatClampNeg (.int x) ∧ Arv Z h' a kk .int n (vs.set i (.int x)) d ∧ ∀ t, Steps p.tables e below (T'.setTop (mkF m (pc + 1) ls st)) t → Steps p.tables e below (T.setTop (mkF m pc ls (.int x :: .int j :: .ref a :: st))) t := by
  obtain ⟨cl, Ar, q1, S, N, H, Gf⟩ := F
  obtain ⟨T', h', X', e', W, k⟩ := stI X hx hZ eT Ar (j := j) (inb_of S hj) (g := mkF m pc ls (.int x :: .int j :: .ref a :: st)) rfl rfl (hb hby hd)
  exact ⟨T', h', X', e', W, Arv.set Ar q1 S N H Gf (rfl) W i hi hl, k⟩
theorem a_castore (X : Stand p l e R s m args below meth c T locs cells slots) (hx : p.tables.exec = Jvm.exec) (hby : c.code = bytes) (hZ : Z.Warmed39 s.vm) (eT : T.heap = h) {a : Addr} {kk : ClassId} {n : Int32} {vs : List Value} {d : Value} {j : Int32} (x : Int32) (i : Nat) (F : Arv Z h a kk .char n vs d) (hj : ¬ j < 0 ∧ j < n) (hi : j.toNatClampNeg = i) (hl : i < vs.length) (hd : decode bytes pc = .ok (.castore, 1)) :
    ∃ T' h', Stand p l e R s m args below meth c T' (locs ++ [⟨a, j.toNatClampNeg⟩]) cells slots ∧ T'.heap = h' ∧ Wr h h' a j.toNatClampNeg (.int (nar .char x)) ∧ Arv Z h' a kk .char n (vs.set i (.int (nar .char x))) d ∧ ∀ t, Steps p.tables e below (T'.setTop (mkF m (pc + 1) ls st)) t → Steps p.tables e below (T.setTop (mkF m pc ls (.int x :: .int j :: .ref a :: st))) t := by
  obtain ⟨cl, Ar, q1, S, N, H, Gf⟩ := F
  obtain ⟨T', h', X', e', W, k⟩ := stC X hx hZ eT Ar (j := j) (inb_of S hj) (g := mkF m pc ls (.int x :: .int j :: .ref a :: st)) rfl rfl (hb hby hd)
  exact ⟨T', h', X', e', W, Arv.set Ar q1 S N H Gf (fits_nar_char _) W i hi hl, k⟩
theorem a_bastore (X : Stand p l e R s m args below meth c T locs cells slots) (hx : p.tables.exec = Jvm.exec) (hby : c.code = bytes) (hZ : Z.Warmed39 s.vm) (eT : T.heap = h) {a : Addr} {kk : ClassId} {n : Int32} {vs : List Value} {d : Value} {j : Int32} (x : Int32) (i : Nat) (F : Arv Z h a kk .byte n vs d) (hj : ¬ j < 0 ∧ j < n) (hi : j.toNatClampNeg = i) (hl : i < vs.length) (hd : decode bytes pc = .ok (.bastore, 1)) :
    ∃ T' h', Stand p l e R s m args below meth c T' (locs ++ [⟨a, j.toNatClampNeg⟩]) cells slots ∧ T'.heap = h' ∧ Wr h h' a j.toNatClampNeg (.int (nar .byte x)) ∧ Arv Z h' a kk .byte n (vs.set i (.int (nar .byte x))) d ∧ ∀ t, Steps p.tables e below (T'.setTop (mkF m (pc + 1) ls st)) t → Steps p.tables e below (T.setTop (mkF m pc ls (.int x :: .int j :: .ref a :: st))) t := by
  obtain ⟨cl, Ar, q1, S, N, H, Gf⟩ := F
  obtain ⟨T', h', X', e', W, k⟩ := stB X hx hZ eT Ar (j := j) (inb_of S hj) (g := mkF m pc ls (.int x :: .int j :: .ref a :: st)) rfl rfl (hb hby hd)
  exact ⟨T', h', X', e', W, Arv.set Ar q1 S N H Gf (fits_nar_byte _) W i hi hl, k⟩
theorem a_lastore (X : Stand p l e R s m args below meth c T locs cells slots) (hx : p.tables.exec = Jvm.exec) (hby : c.code = bytes) (hZ : Z.Warmed39 s.vm) (eT : T.heap = h) {a : Addr} {kk : ClassId} {n : Int32} {vs : List Value} {d : Value} {j : Int32} (x : Int64) (i : Nat) (F : Arv Z h a kk .long n vs d) (hj : ¬ j < 0 ∧ j < n) (hi : j.toNatClampNeg = i) (hl : i < vs.length) (hd : decode bytes pc = .ok (.lastore, 1)) :
    ∃ T' h', Stand p l e R s m args below meth c T' (locs ++ [⟨a, j.toNatClampNeg⟩]) cells slots ∧ T'.heap = h' ∧ Wr h h' a j.toNatClampNeg (.long x) ∧ Arv Z h' a kk .long n (vs.set i (.long x)) d ∧ ∀ t, Steps p.tables e below (T'.setTop (mkF m (pc + 1) ls st)) t → Steps p.tables e below (T.setTop (mkF m pc ls (.long x :: .int j :: .ref a :: st))) t := by
  obtain ⟨cl, Ar, q1, S, N, H, Gf⟩ := F
  obtain ⟨T', h', X', e', W, k⟩ := stJ X hx hZ eT Ar (j := j) (inb_of S hj) (g := mkF m pc ls (.long x :: .int j :: .ref a :: st)) rfl rfl (hb hby hd)
  exact ⟨T', h', X', e', W, Arv.set Ar q1 S N H Gf (rfl) W i hi hl, k⟩
theorem a_dastore (X : Stand p l e R s m args below meth c T locs cells slots) (hx : p.tables.exec = Jvm.exec) (hby : c.code = bytes) (hZ : Z.Warmed39 s.vm) (eT : T.heap = h) {a : Addr} {kk : ClassId} {n : Int32} {vs : List Value} {d : Value} {j : Int32} (x : UInt64) (i : Nat) (F : Arv Z h a kk .double n vs d) (hj : ¬ j < 0 ∧ j < n) (hi : j.toNatClampNeg = i) (hl : i < vs.length) (hd : decode bytes pc = .ok (.dastore, 1)) :
    ∃ T' h', Stand p l e R s m args below meth c T' (locs ++ [⟨a, j.toNatClampNeg⟩]) cells slots ∧ T'.heap = h' ∧ Wr h h' a j.toNatClampNeg (.double x) ∧ Arv Z h' a kk .double n (vs.set i (.double x)) d ∧ ∀ t, Steps p.tables e below (T'.setTop (mkF m (pc + 1) ls st)) t → Steps p.tables e below (T.setTop (mkF m pc ls (.double x :: .int j :: .ref a :: st))) t := by
  obtain ⟨cl, Ar, q1, S, N, H, Gf⟩ := F
  obtain ⟨T', h', X', e', W, k⟩ := stD X hx hZ eT Ar (j := j) (inb_of S hj) (g := mkF m pc ls (.double x :: .int j :: .ref a :: st)) rfl rfl (hb hby hd)
  exact ⟨T', h', X', e', W, Arv.set Ar q1 S N H Gf (rfl) W i hi hl, k⟩
theorem a_aastore (X : Stand p l e R s m args below meth c T locs cells slots) (hx : p.tables.exec = Jvm.exec) (hby : c.code = bytes) (hZ : Z.Warmed39 s.vm) (eT : T.heap = h) {a b : Addr} {kk : ClassId} {Cn : String} {n : Int32} {vs : List Value} {d : Value} {j : Int32} (i : Nat) (F : Arv Z h a kk (.object Cn) n vs d) (O : Ovr Z kk Cn) (I : Ins Z h b Cn true) (hj : ¬ j < 0 ∧ j < n) (hi : j.toNatClampNeg = i) (hl : i < vs.length) (hd : decode bytes pc = .ok (.aastore, 1)) :
    ∃ T' h', Stand p l e R s m args below meth c T' (locs ++ [⟨a, j.toNatClampNeg⟩]) cells slots ∧ T'.heap = h' ∧ Wr h h' a j.toNatClampNeg (.ref b) ∧ Arv Z h' a kk (.object Cn) n (vs.set i (.ref b)) d ∧ ∀ t, Steps p.tables e below (T'.setTop (mkF m (pc + 1) ls st)) t → Steps p.tables e below (T.setTop (mkF m pc ls (.ref b :: .int j :: .ref a :: st))) t := by
  obtain ⟨cl, Ar, q1, S, N, H, Gf⟩ := F
  obtain ⟨T', h', X', e', W, k⟩ := stR X hx hZ eT Ar (j := j) (inb_of S hj) rfl (Sto.ofV Ar q1 O I) (g := mkF m pc ls (.ref b :: .int j :: .ref a :: st)) rfl rfl (hb hby hd)
  exact ⟨T', h', X', e', W, Arv.set Ar q1 S N H Gf rfl W i hi hl, k⟩
theorem own_stakeep {C n d : String} {v : Value} {K : String} {a : Addr} (F : Sta Z h C n d v) (k : Keep h h' [a]) (E : Exa Z h a K) : Sta Z h' C n d v := by
  obtain ⟨cf, i, kk, f, st, cell, h1, h2, h3, h4, h5, h6, h7⟩ := F
  refine ⟨cf, i, kk, f, st, cell, h1, h2, h3, h4, k.2.1 _ _ h5 (fun q => ?_), h6, h7⟩
  obtain ⟨c2, k2, g1, -, -, g4, -⟩ := E
  cases List.mem_singleton.mp q
  cases h5.symm.trans g1
  rw [g4] at h6; cases h6
theorem own_stakeep0 {C n d : String} {v : Value} (F : Sta Z h C n d v) (k : Keep h h' []) : Sta Z h' C n d v := by
  obtain ⟨cf, i, kk, f, st, cell, h1, h2, h3, h4, h5, h6, h7⟩ := F
  exact ⟨cf, i, kk, f, st, cell, h1, h2, h3, h4, k.2.1 _ _ h5 nin0, h6, h7⟩
theorem own_eqI {t : Term} {first : State} {o : Option Outcome} {idx : List Nat} {z : Int32} (hq : (Cond.eq t (.int z)).value args first o s idx = some true) : t.eval args first o idx s = some (.int z) := by
  obtain ⟨x, y, hx, hy, kk, -⟩ := cmp_v (Or.inl hq)
  have hy' : y = .int z := Option.some.inj (hy.symm.trans rfl)
  subst hy'
  cases x with
  | int x => simp only [Cond.value, hx, hy] at hq; simp at hq; rw [hx, hq]
  | _ => simp [Kin, Value.isRef] at kk
theorem own_eqR {t u : Term} {first : State} {o : Option Outcome} {idx : List Nat} {b : Addr} (hq : (Cond.eq t u).value args first o s idx = some true) (hu : u.eval args first o idx s = some (.ref b)) : t.eval args first o idx s = some (.ref b) := by
  obtain ⟨x, y, hx, hy, kk, kk2⟩ := cmp_v (Or.inl hq)
  cases hu.symm.trans hy
  have hr : x.isRef = true := kk2.2
  have := gotT (eq_R hx hu hr rfl) hq
  rw [hx, this]
theorem g_i2d (X : Stand p l e R s m args below meth c T locs cells slots) (hx : p.tables.exec = Jvm.exec) (hby : c.code = bytes) {x : Int32} (hd : decode bytes pc = .ok (.i2d, 1))  (hp : pc + 1 = pc')
    (k : own_Got p e below P T (mkF m pc' ls (.double (FP.i2d x) :: st))) : own_Got p e below P T (mkF m pc ls (.int x :: st)) := by
  subst hp; exact own_go (fun _ q => XS.i2dS X.here hx rfl (hb hby hd) rfl rfl q) k
theorem g_dcmp (X : Stand p l e R s m args below meth c T locs cells slots) (hx : p.tables.exec = Jvm.exec) (hby : c.code = bytes) {o : CmpOp} {x y : UInt64} (hd : decode bytes pc = .ok (.dcmp o, 1))  (hp : pc + 1 = pc')
    (k : own_Got p e below P T (mkF m pc' ls (.int (cmpValue (FP.dcmp x y) o) :: st))) : own_Got p e below P T (mkF m pc ls (.double y :: .double x :: st)) := by
  subst hp; exact own_go (fun _ q => XS.dcmpS X.here hx rfl (hb hby hd) rfl rfl q) k
theorem g_dconst0 (X : Stand p l e R s m args below meth c T locs cells slots) (hx : p.tables.exec = Jvm.exec) (hby : c.code = bytes) (z : UInt64) (hd : decode bytes pc = .ok (.dconst 0, 1)) (hz : FP.dconst0 = z) (hp : pc + 1 = pc')
    (k : own_Got p e below P T (mkF m pc' ls (.double z :: st))) : own_Got p e below P T (mkF m pc ls (st)) := by
  subst hp; exact own_go (fun _ q => XS.dconst0 X.here hx rfl (hb hby hd) hz q) k
theorem g_dadd (X : Stand p l e R s m args below meth c T locs cells slots) (hx : p.tables.exec = Jvm.exec) (hby : c.code = bytes) {x y : UInt64} (hd : decode bytes pc = .ok (.dadd, 1)) (hn : Jvm.Free.Fl.NoNaN64 (FP.dadd x y)) (hp : pc + 1 = pc')
    (k : own_Got p e below P T (mkF m pc' ls (.double (FP.dadd x y) :: st))) : own_Got p e below P T (mkF m pc ls (.double y :: .double x :: st)) := by
  subst hp; exact own_go (fun _ q => XS.daddS X.here hx rfl (hb hby hd) rfl hn rfl q) k
theorem g_dsub (X : Stand p l e R s m args below meth c T locs cells slots) (hx : p.tables.exec = Jvm.exec) (hby : c.code = bytes) {x y : UInt64} (hd : decode bytes pc = .ok (.dsub, 1)) (hn : Jvm.Free.Fl.NoNaN64 (FP.dsub x y)) (hp : pc + 1 = pc')
    (k : own_Got p e below P T (mkF m pc' ls (.double (FP.dsub x y) :: st))) : own_Got p e below P T (mkF m pc ls (.double y :: .double x :: st)) := by
  subst hp; exact own_go (fun _ q => XS.dsubS X.here hx rfl (hb hby hd) rfl hn rfl q) k
theorem g_dmul (X : Stand p l e R s m args below meth c T locs cells slots) (hx : p.tables.exec = Jvm.exec) (hby : c.code = bytes) {x y : UInt64} (hd : decode bytes pc = .ok (.dmul, 1)) (hn : Jvm.Free.Fl.NoNaN64 (FP.dmul x y)) (hp : pc + 1 = pc')
    (k : own_Got p e below P T (mkF m pc' ls (.double (FP.dmul x y) :: st))) : own_Got p e below P T (mkF m pc ls (.double y :: .double x :: st)) := by
  subst hp; exact own_go (fun _ q => XS.dmulS X.here hx rfl (hb hby hd) rfl hn rfl q) k
theorem g_ddiv (X : Stand p l e R s m args below meth c T locs cells slots) (hx : p.tables.exec = Jvm.exec) (hby : c.code = bytes) {x y : UInt64} (hd : decode bytes pc = .ok (.ddiv, 1)) (hn : Jvm.Free.Fl.NoNaN64 (FP.ddiv x y)) (hp : pc + 1 = pc')
    (k : own_Got p e below P T (mkF m pc' ls (.double (FP.ddiv x y) :: st))) : own_Got p e below P T (mkF m pc ls (.double y :: .double x :: st)) := by
  subst hp; exact own_go (fun _ q => XS.ddivS X.here hx rfl (hb hby hd) rfl hn rfl q) k
theorem own_narR {t : FieldType} {w : Value} (ht : t.isReference = true) (hw : w.isRef = true) : narrow t w = w := by rcases ref_cases hw with rfl | ⟨a, rfl⟩ <;> cases t <;> first | rfl | (cases ht)
theorem own_fitR {t : FieldType} {w : Value} (ht : t.isReference = true) (hw : w.isRef = true) : fits t w = true := by rcases ref_cases hw with rfl | ⟨a, rfl⟩ <;> cases t <;> first | rfl | (cases ht)
theorem own_nb (x : Int32) : nar .byte (x.toInt8.toInt32) = x.toInt8.toInt32 := by
  show (x.toInt8.toInt32).toInt8.toInt32 = x.toInt8.toInt32
  simp
theorem own_nc (x : Int32) : nar .char (x.toUInt32.toUInt16.toUInt32.toInt32) = x.toUInt32.toUInt16.toUInt32.toInt32 := by
  show (x.toUInt32.toUInt16.toUInt32.toInt32).toUInt32.toUInt16.toUInt32.toInt32 = _
  have q : ∀ u : UInt16, u.toUInt32.toInt32.toUInt32.toUInt16 = u := fun u => by simp
  rw [q]
end OwnKit
theorem own_c255 (x : Int32) : ¬ ((255 : Int32) < ((x &&& (255 : Int32)).toUInt32.toUInt16.toUInt32.toInt32)) := by
  rw [i2c_mask]
  have h := c_and x 255 (by decide)
  rw [Int32.lt_iff_toInt_lt]
  omega

theorem d_cpI1_0 : decode jdk_52_method_21_code 0 = .ok (.iconst 0, 1) := by decide +kernel
theorem d_cpI1_1 : decode jdk_52_method_21_code 1 = .ok (.istore 5, 2) := by decide +kernel
theorem d_cpI1_3 : decode jdk_52_method_21_code 3 = .ok (.iload 5, 2) := by decide +kernel
theorem d_cpI1_5 : decode jdk_52_method_21_code 5 = .ok (.iload 4, 2) := by decide +kernel
theorem d_cpI1_7 : decode jdk_52_method_21_code 7 = .ok (.if_icmp .ge 37, 3) := by decide +kernel
theorem d_cpI1_10 : decode jdk_52_method_21_code 10 = .ok (.aload_n 0, 1) := by decide +kernel
theorem d_cpI1_11 : decode jdk_52_method_21_code 11 = .ok (.iload_n 1, 1) := by decide +kernel
theorem d_cpI1_12 : decode jdk_52_method_21_code 12 = .ok (.caload, 1) := by decide +kernel
theorem d_cpI1_13 : decode jdk_52_method_21_code 13 = .ok (.istore 6, 2) := by decide +kernel
theorem d_cpI1_15 : decode jdk_52_method_21_code 15 = .ok (.iload 6, 2) := by decide +kernel
theorem d_cpI1_17 : decode jdk_52_method_21_code 17 = .ok (.sipush 255, 3) := by decide +kernel
theorem d_cpI1_20 : decode jdk_52_method_21_code 20 = .ok (.if_icmp .le 6, 3) := by decide +kernel
theorem d_cpI1_26 : decode jdk_52_method_21_code 26 = .ok (.aload_n 2, 1) := by decide +kernel
theorem d_cpI1_27 : decode jdk_52_method_21_code 27 = .ok (.iload_n 3, 1) := by decide +kernel
theorem d_cpI1_28 : decode jdk_52_method_21_code 28 = .ok (.iload 6, 2) := by decide +kernel
theorem d_cpI1_30 : decode jdk_52_method_21_code 30 = .ok (.i2b, 1) := by decide +kernel
theorem d_cpI1_31 : decode jdk_52_method_21_code 31 = .ok (.bastore, 1) := by decide +kernel
theorem d_cpI1_32 : decode jdk_52_method_21_code 32 = .ok (.iinc 1 1, 3) := by decide +kernel
theorem d_cpI1_35 : decode jdk_52_method_21_code 35 = .ok (.iinc 3 1, 3) := by decide +kernel
theorem d_cpI1_38 : decode jdk_52_method_21_code 38 = .ok (.iinc 5 1, 3) := by decide +kernel
theorem d_cpI1_41 : decode jdk_52_method_21_code 41 = .ok (.goto (-38), 3) := by decide +kernel
theorem d_cpI1_44 : decode jdk_52_method_21_code 44 = .ok (.iload 4, 2) := by decide +kernel
theorem d_cpI1_46 : decode jdk_52_method_21_code 46 = .ok (.ireturn, 1) := by decide +kernel
theorem pn0 : plainName "java/lang/StringUTF16" = true := by first | (simp [plainName, overriddenIn]; done) | decide +kernel
theorem ef_cpI1 (m : MethodId) (a0 : Addr) (a2 : Addr) : entryFrame m #[(.ref a0), (.int (0 : Int32)), (.ref a2), (.int (0 : Int32)), (.int (1 : Int32))] 7 = mkF m 0 #[.val (.ref a0), .val (.int (0 : Int32)), .val (.ref a2), .val (.int (0 : Int32)), .val (.int (1 : Int32)), .unset, .unset] [] := by first | (simp [entryFrame, mkF, argsToLocals, Value.category]; done) | rfl
def Q_cpI1 (Z : State) (a0 : Addr) (a2 : Addr) (kc : ClassId) (c0 : Int32) (kb : ClassId) (h0 : Heap) (n0 : Nat) (v : Option Value) (h : Heap) (L : List Loc) : Prop := v = some (.int (1 : Int32)) ∧ Fr n0 L ∧ Keep h0 h [a2] ∧ Exa Z h a2 "[B" ∧ Arv Z h a2 kb .byte (1 : Int32) [(.int (c0.toInt8.toInt32))] (.int (0 : Int32))
set_option maxRecDepth 65536 in
set_option maxHeartbeats 40000000 in
theorem rm_cpI1 (l : Launch) (Z : State) (aT : Array Value) (hw : ∀ d ∈ tables_1, d.before aT Z = true) (ws : List Jvm.Cond) (a0 : Addr) (a2 : Addr) (kc : ClassId) (c0 : Int32) (kb : ClassId) (h0 : Heap) (n0 : Nat) (Z0 : n0 ≤ h0.size) (hp0 : Arv Z h0 a0 kc .char (1 : Int32) [(.int c0)] (.int (0 : Int32))) (hp1 : Exa Z h0 a2 "[B") (hp2 : Arv Z h0 a2 kb .byte (1 : Int32) [(.int (0 : Int32))] (.int (0 : Int32))) (hp3 : n0 ≤ a2) (hp4 : a0 ≠ a2) (hq0 : ¬ ((255 : Int32) < c0)) :
    MetFree l (⟨"java/lang/StringUTF16", "compress", "([CI[BII)I"⟩ : MethodName) (head1 (Jvm.Cond.code (⟨"java/lang/StringUTF16", "compress", "([CI[BII)I"⟩ : MethodName) jdk_52_method_21_code 7 (some .int) :: ws) ({ frames := 0, cells := 0, slots := 0, locals := 0 } : Room)) (fun a U => a = #[(.ref a0), (.int (0 : Int32)), (.ref a2), (.int (0 : Int32)), (.int (1 : Int32))] ∧ Z.Warmed39 U.vm ∧ U.heap = h0) (fun _ _ _ _ _ => True) (fun _ U o U' => ∃ v L, o = .returned v ∧ Q_cpI1 Z a0 a2 kc c0 kb h0 n0 v U'.heap L ∧ FrameEnd U o U' L ({ frames := 0, cells := 0, slots := 0, locals := 0 } : Room).cells ({ frames := 0, cells := 0, slots := 0, locals := 0 } : Room).slots) := by
  refine MetFree.of_bodySF (plainFor_of_name pn0) hisR ?_
  intro p e s m args below meth c s₁ Bd hml0 hP hK
  obtain ⟨rfl, hZ, hh⟩ := hP
  have hx := Bd.exec
  have hby := Bd.bytes
  have hml : c.maxLocals = 7 := hml0
  have hown : s.vm.findClass "java/lang/StringUTF16" = some m.cls := findClass_of_methodNamed Bd.named
  have hnm := (name_of_methodNamed Bd.named Bd.method).1
  have hlk := Bd.notSynchronized
  have hrt := Bd.returns
  have X0 : Stand p l e ({ frames := 0, cells := 0, slots := 0, locals := 0 } : Room) s m #[(.ref a0), (.int (0 : Int32)), (.ref a2), (.int (0 : Int32)), (.int (1 : Int32))] below meth c s₁ [] 0 0 := Stand.of_body Bd
  have e0 : s₁.heap = h0 := by rw [← hh, Bd.state]; rfl
  have N0 := Fr.nil n0
  refine own_cast (P := own_End s (Q_cpI1 Z a0 a2 kc c0 kb h0 n0) ({ frames := 0, cells := 0, slots := 0, locals := 0 } : Room).cells ({ frames := 0, cells := 0, slots := 0, locals := 0 } : Room).slots) (ef_cpI1 m a0 a2) ?_
  refine g_iconst X0 hx hby (0 : Int32) d_cpI1_0 (by decide) (rfl : 0 + 1 = 1) ?_
  refine g_istore X0 hx hby #[.val (.ref a0), .val (.int (0 : Int32)), .val (.ref a2), .val (.int (0 : Int32)), .val (.int (1 : Int32)), .val (.int (0 : Int32)), .unset] d_cpI1_1 rfl (rfl : 1 + 2 = 3) ?_
  refine g_iload X0 hx hby d_cpI1_3 rfl (rfl : 3 + 2 = 5) ?_
  refine g_iload X0 hx hby d_cpI1_5 rfl (rfl : 5 + 2 = 7) ?_
  refine g_icF X0 hx hby d_cpI1_7 (tlt (by decide : (0 : Int32) < (1 : Int32))).2.1 (rfl : 7 + 3 = 10) ?_
  refine g_aloadN X0 hx hby d_cpI1_10 rfl rfl (rfl : 10 + 1 = 11) ?_
  refine g_iloadN X0 hx hby d_cpI1_11 rfl (rfl : 11 + 1 = 12) ?_
  refine g_caload X0 hx hby hZ e0 (v := (.int c0)) hp0 ⟨by decide, by decide⟩ rfl d_cpI1_12 (rfl : 12 + 1 = 13) ?_
  refine g_istore X0 hx hby #[.val (.ref a0), .val (.int (0 : Int32)), .val (.ref a2), .val (.int (0 : Int32)), .val (.int (1 : Int32)), .val (.int (0 : Int32)), .val (.int c0)] d_cpI1_13 rfl (rfl : 13 + 2 = 15) ?_
  refine g_iload X0 hx hby d_cpI1_15 rfl (rfl : 15 + 2 = 17) ?_
  refine g_sipush X0 hx hby (255 : Int32) d_cpI1_17 (by decide) (rfl : 17 + 3 = 20) ?_
  refine g_icT X0 hx hby d_cpI1_20 (flt hq0).2.2.2 (by decide) (pc' := 26) (by decide) ?_
  refine g_aloadN X0 hx hby d_cpI1_26 rfl rfl (rfl : 26 + 1 = 27) ?_
  refine g_iloadN X0 hx hby d_cpI1_27 rfl (rfl : 27 + 1 = 28) ?_
  refine g_iload X0 hx hby d_cpI1_28 rfl (rfl : 28 + 2 = 30) ?_
  refine g_i2b X0 hx hby d_cpI1_30 (rfl : 30 + 1 = 31) ?_
  obtain ⟨T1, h1, X1, e1, W1, V1, st1⟩ := a_bastore X0 hx hby hZ e0 (ls := #[.val (.ref a0), .val (.int (0 : Int32)), .val (.ref a2), .val (.int (0 : Int32)), .val (.int (1 : Int32)), .val (.int (0 : Int32)), .val (.int c0)]) (st := []) (j := (0 : Int32)) (c0.toInt8.toInt32) 0 hp2 ⟨by decide, by decide⟩ (by decide) (Nat.le_of_ble_eq_true rfl) d_cpI1_31
  have Z1 : n0 ≤ h1.size := Nat.le_trans Z0 (Keep.of_wr W1).1
  have N1 := Fr.snoc X1 N0 hp3
  have K1 : Keep h0 h1 [a2] := (Keep.refl h0 [a2]).wr W1 (Or.inl (List.mem_of_getElem? (i := 0) rfl))
  have V1' : Arv Z h1 a2 kb .byte (1 : Int32) [(.int (c0.toInt8.toInt32))] (.int (0 : Int32)) := by have q := V1; rw [own_nb] at q; exact q
  refine own_go st1 ?_
  show own_Got p e below _ T1 (mkF m 32 #[.val (.ref a0), .val (.int (0 : Int32)), .val (.ref a2), .val (.int (0 : Int32)), .val (.int (1 : Int32)), .val (.int (0 : Int32)), .val (.int c0)] [])
  refine g_iinc X1 hx hby #[.val (.ref a0), .val (.int ((0 : Int32) + (1 : Int32))), .val (.ref a2), .val (.int (0 : Int32)), .val (.int (1 : Int32)), .val (.int (0 : Int32)), .val (.int c0)] d_cpI1_32 rfl rfl (rfl : 32 + 3 = 35) ?_
  rw [(by decide : ((0 : Int32) + (1 : Int32)) = (1 : Int32))]
  refine g_iinc X1 hx hby #[.val (.ref a0), .val (.int (1 : Int32)), .val (.ref a2), .val (.int ((0 : Int32) + (1 : Int32))), .val (.int (1 : Int32)), .val (.int (0 : Int32)), .val (.int c0)] d_cpI1_35 rfl rfl (rfl : 35 + 3 = 38) ?_
  rw [(by decide : ((0 : Int32) + (1 : Int32)) = (1 : Int32))]
  refine g_iinc X1 hx hby #[.val (.ref a0), .val (.int (1 : Int32)), .val (.ref a2), .val (.int (1 : Int32)), .val (.int (1 : Int32)), .val (.int ((0 : Int32) + (1 : Int32))), .val (.int c0)] d_cpI1_38 rfl rfl (rfl : 38 + 3 = 41) ?_
  rw [(by decide : ((0 : Int32) + (1 : Int32)) = (1 : Int32))]
  refine g_goto X1 hx hby d_cpI1_41 (by decide) (pc' := 3) (by decide) ?_
  refine g_iload X1 hx hby d_cpI1_3 rfl (rfl : 3 + 2 = 5) ?_
  refine g_iload X1 hx hby d_cpI1_5 rfl (rfl : 5 + 2 = 7) ?_
  refine g_icT X1 hx hby d_cpI1_7 (flt (by decide : ¬ ((1 : Int32) < (1 : Int32)))).2.1 (by decide) (pc' := 44) (by decide) ?_
  refine g_iload X1 hx hby d_cpI1_44 rfl (rfl : 44 + 2 = 46) ?_
  have f2 : Exa Z h1 a2 "[B" := (Exa.wr W1 hp1)
  refine own_retI X1 hx hby hlk hrt d_cpI1_46 (by decide) (by decide) ?_
  show Q_cpI1 Z a0 a2 kc c0 kb h0 n0 _ T1.heap _
  rw [e1]
  exact ⟨rfl, N1, K1, f2, V1'⟩
theorem d_cpB1_0 : decode jdk_52_method_16_code 0 = .ok (.iload_n 2, 1) := by decide +kernel
theorem d_cpB1_1 : decode jdk_52_method_16_code 1 = .ok (.newarray .byte, 2) := by decide +kernel
theorem d_cpB1_3 : decode jdk_52_method_16_code 3 = .ok (.astore_n 3, 1) := by decide +kernel
theorem d_cpB1_4 : decode jdk_52_method_16_code 4 = .ok (.aload_n 0, 1) := by decide +kernel
theorem d_cpB1_5 : decode jdk_52_method_16_code 5 = .ok (.iload_n 1, 1) := by decide +kernel
theorem d_cpB1_6 : decode jdk_52_method_16_code 6 = .ok (.aload_n 3, 1) := by decide +kernel
theorem d_cpB1_7 : decode jdk_52_method_16_code 7 = .ok (.iconst 0, 1) := by decide +kernel
theorem d_cpB1_8 : decode jdk_52_method_16_code 8 = .ok (.iload_n 2, 1) := by decide +kernel
theorem d_cpB1_9 : decode jdk_52_method_16_code 9 = .ok (.invokestatic 115, 3) := by decide +kernel
theorem d_cpB1_12 : decode jdk_52_method_16_code 12 = .ok (.istore 4, 2) := by decide +kernel
theorem d_cpB1_14 : decode jdk_52_method_16_code 14 = .ok (.iload 4, 2) := by decide +kernel
theorem d_cpB1_16 : decode jdk_52_method_16_code 16 = .ok (.iload_n 2, 1) := by decide +kernel
theorem d_cpB1_17 : decode jdk_52_method_16_code 17 = .ok (.if_icmp .eq 40, 3) := by decide +kernel
theorem d_cpB1_57 : decode jdk_52_method_16_code 57 = .ok (.aload_n 3, 1) := by decide +kernel
theorem d_cpB1_58 : decode jdk_52_method_16_code 58 = .ok (.areturn, 1) := by decide +kernel
theorem pd0 : parseMethodDescriptor "([CI[BII)I" = some ⟨[(.array .char), .int, (.array .byte), .int, .int], some .int⟩ := by decide +kernel
theorem ef_cpB1 (m : MethodId) (a0 : Addr) : entryFrame m #[(.ref a0), (.int (0 : Int32)), (.int (1 : Int32))] 6 = mkF m 0 #[.val (.ref a0), .val (.int (0 : Int32)), .val (.int (1 : Int32)), .unset, .unset, .unset] [] := by first | (simp [entryFrame, mkF, argsToLocals, Value.category]; done) | rfl
def Q_cpB1 (Z : State) (a0 : Addr) (kc : ClassId) (c0 : Int32) (h0 : Heap) (n0 : Nat) (v : Option Value) (h : Heap) (L : List Loc) : Prop := ∃ (ob : Addr), ∃ (kb : ClassId), v = some (.ref ob) ∧ Fr n0 L ∧ Keep h0 h [] ∧ h0.size ≤ ob ∧ Exa Z h ob "[B" ∧ Arv Z h ob kb .byte (1 : Int32) [(.int (c0.toInt8.toInt32))] (.int (0 : Int32))
set_option maxRecDepth 65536 in
set_option maxHeartbeats 40000000 in
theorem rm_cpB1 (l : Launch) (Z : State) (aT : Array Value) (hw : ∀ d ∈ tables_1, d.before aT Z = true) (ws : List Jvm.Cond) (a0 : Addr) (kc : ClassId) (c0 : Int32) (h0 : Heap) (n0 : Nat) (Z0 : n0 ≤ h0.size) (hp0 : Arv Z h0 a0 kc .char (1 : Int32) [(.int c0)] (.int (0 : Int32))) (hq0 : ¬ ((255 : Int32) < c0)) :
    MetFree l (⟨"java/lang/StringUTF16", "compress", "([CII)[B"⟩ : MethodName) (head1 (Jvm.Cond.code (⟨"java/lang/StringUTF16", "compress", "([CII)[B"⟩ : MethodName) jdk_52_method_16_code 6 (some (.array .byte)) :: ws) ({ frames := 1, cells := 1, slots := 1, locals := 18 } : Room)) (fun a U => a = #[(.ref a0), (.int (0 : Int32)), (.int (1 : Int32))] ∧ Z.Warmed39 U.vm ∧ U.heap = h0) (fun _ _ _ _ _ => True) (fun _ U o U' => ∃ v L, o = .returned v ∧ Q_cpB1 Z a0 kc c0 h0 n0 v U'.heap L ∧ FrameEnd U o U' L ({ frames := 1, cells := 1, slots := 1, locals := 18 } : Room).cells ({ frames := 1, cells := 1, slots := 1, locals := 18 } : Room).slots) := by
  refine MetFree.of_bodySF (plainFor_of_name pn0) hisR ?_
  intro p e s m args below meth c s₁ Bd hml0 hP hK
  obtain ⟨rfl, hZ, hh⟩ := hP
  have hx := Bd.exec
  have hby := Bd.bytes
  have hml : c.maxLocals = 6 := hml0
  have hown : s.vm.findClass "java/lang/StringUTF16" = some m.cls := findClass_of_methodNamed Bd.named
  have hnm := (name_of_methodNamed Bd.named Bd.method).1
  have hlk := Bd.notSynchronized
  have hrt := Bd.returns
  have X0 : Stand p l e ({ frames := 1, cells := 1, slots := 1, locals := 18 } : Room) s m #[(.ref a0), (.int (0 : Int32)), (.int (1 : Int32))] below meth c s₁ [] 0 0 := Stand.of_body Bd
  have e0 : s₁.heap = h0 := by rw [← hh, Bd.state]; rfl
  have N0 := Fr.nil n0
  refine own_cast (P := own_End s (Q_cpB1 Z a0 kc c0 h0 n0) ({ frames := 1, cells := 1, slots := 1, locals := 18 } : Room).cells ({ frames := 1, cells := 1, slots := 1, locals := 18 } : Room).slots) (ef_cpB1 m a0) ?_
  refine g_iloadN X0 hx hby d_cpB1_0 rfl (rfl : 0 + 1 = 1) ?_
  obtain ⟨T3, h3, k3, X3, e3, E3, A3, B3, st3⟩ := newPE X0 hx hZ (hw _ (List.mem_of_getElem? (i := 23) rfl)) e0 (g := (mkF m 1 #[.val (.ref a0), .val (.int (0 : Int32)), .val (.int (1 : Int32)), .unset, .unset, .unset] [(.int (1 : Int32))])) rfl (hb hby d_cpB1_1) rfl (by decide) (cap := 1) (by decide) (by decide) (by decide) (by decide) (ad := "[B") (by decide +kernel)
  obtain ⟨b3, g3⟩ : ∃ z, z = h0.size := ⟨_, rfl⟩
  rw [← g3] at A3 B3 st3
  have ne4 : a0 ≠ b3 := Nat.ne_of_lt (Nat.lt_of_lt_of_le (hp0).lt (Nat.le_of_eq g3.symm))
  have Z3 : n0 ≤ h3.size := Nat.le_trans Z0 E3.1
  have K3 : Keep h0 h3 [] := (Keep.refl h0 []).ext E3
  have ge3 : n0 ≤ b3 := Nat.le_trans Z0 (Nat.le_of_eq g3.symm)
  have sz3 : h0.size ≤ b3 := Nat.le_trans (Keep.refl h0 []).1 (Nat.le_of_eq g3.symm)
  have V3 : Arv Z h3 b3 k3 .byte (1 : Int32) [(.int (0 : Int32))] (.int (0 : Int32)) := (Arv.new A3 (by decide)).pad (pad_rep [] _ 1)
  refine own_go st3 ?_
  show own_Got p e below _ T3 (mkF m 3 #[.val (.ref a0), .val (.int (0 : Int32)), .val (.int (1 : Int32)), .unset, .unset, .unset] [(.ref b3)])
  refine g_astoreN X3 hx hby #[.val (.ref a0), .val (.int (0 : Int32)), .val (.int (1 : Int32)), .val (.ref b3), .unset, .unset] d_cpB1_3 rfl rfl (rfl : 3 + 1 = 4) ?_
  refine g_aloadN X3 hx hby d_cpB1_4 rfl rfl (rfl : 4 + 1 = 5) ?_
  refine g_iloadN X3 hx hby d_cpB1_5 rfl (rfl : 5 + 1 = 6) ?_
  refine g_aloadN X3 hx hby d_cpB1_6 rfl rfl (rfl : 6 + 1 = 7) ?_
  refine g_iconst X3 hx hby (0 : Int32) d_cpB1_7 (by decide) (rfl : 7 + 1 = 8) ?_
  refine g_iloadN X3 hx hby d_cpB1_8 rfl (rfl : 8 + 1 = 9) ?_
  have f6 : Arv Z h3 a0 kc .char (1 : Int32) [(.int c0)] (.int (0 : Int32)) := (hp0.ext E3)
  obtain ⟨_, _, ⟨T5, L5, k5, n5⟩, -, X5, ⟨Lc5, hQ5, l5, y5, z5⟩, st5⟩ := Jvm.LawKit.callS X3 hx (y := (⟨"java/lang/StringUTF16", "compress", "([CI[BII)I"⟩ : MethodName)) hown (mvT hZ (hw _ (List.mem_of_getElem? (i := 24) rfl))) (mvT hZ (hw _ (List.mem_of_getElem? (i := 25) rfl))) (mvT hZ (hw _ (List.mem_of_getElem? (i := 21) rfl))) (mvT hZ (hw _ (List.mem_of_getElem? (i := 26) rfl))) (by decide) (backOf (W := 0) (rm_cpI1 l Z aT hw [] a0 b3 kc c0 k3 h3 n0 Z3 f6 B3 V3 ge3 ne4 hq0) hZ (hw _ (List.mem_of_getElem? (i := 26) rfl)) (hw _ (List.mem_of_getElem? (i := 21) rfl)) (by decide) (by decide)) (g := (mkF m 9 #[.val (.ref a0), .val (.int (0 : Int32)), .val (.int (1 : Int32)), .val (.ref b3), .unset, .unset] [(.int (1 : Int32)), (.int (0 : Int32)), (.ref b3), (.int (0 : Int32)), (.ref a0)])) rfl (by rw [hml]; rfl) (argsL := [(.ref a0), (.int (0 : Int32)), (.ref b3), (.int (0 : Int32)), (.int (1 : Int32))]) (rest := []) (lenOf pd0 rfl) rfl (by show 2 * 0 + _ ≤ _; exact Nat.le_of_eq rfl) (hb hby d_cpB1_9) (fun _ _ => ⟨rfl, e3, (by decide : 1 + 0 ≤ _), (by decide : 1 + 0 ≤ _)⟩)
  dsimp only [Pt.U, Pt.locs, Pt.cells, Pt.slots] at X5 l5 y5 z5 st5 hQ5
  subst l5 y5 z5
  obtain ⟨rfl, N5q, K5, q5_0, q5_1⟩ := hQ5
  have N5 := Fr.app N0 N5q
  have Z5 : n0 ≤ T5.heap.size := Nat.le_trans Z3 K5.1
  have KC5 : Keep h0 T5.heap [] := K3.trans K5 (allS (Or.inr sz3) all0)
  refine own_go st5 ?_
  show own_Got p e below _ T5 (mkF m 12 #[.val (.ref a0), .val (.int (0 : Int32)), .val (.int (1 : Int32)), .val (.ref b3), .unset, .unset] [(.int (1 : Int32))])
  refine g_istore X5 hx hby #[.val (.ref a0), .val (.int (0 : Int32)), .val (.int (1 : Int32)), .val (.ref b3), .val (.int (1 : Int32)), .unset] d_cpB1_12 rfl (rfl : 12 + 2 = 14) ?_
  refine g_iload X5 hx hby d_cpB1_14 rfl (rfl : 14 + 2 = 16) ?_
  refine g_iloadN X5 hx hby d_cpB1_16 rfl (rfl : 16 + 1 = 17) ?_
  refine g_icT X5 hx hby d_cpB1_17 (teq (by decide : (1 : Int32) = (1 : Int32))).1 (by decide) (pc' := 57) (by decide) ?_
  refine g_aloadN X5 hx hby d_cpB1_57 rfl rfl (rfl : 57 + 1 = 58) ?_
  refine own_retR X5 hx hby hlk hrt rfl d_cpB1_58 (by decide) (by decide) rfl ?_
  show Q_cpB1 Z a0 kc c0 h0 n0 _ T5.heap _
  exact ⟨b3, k3, rfl, N5, KC5, sz3, q5_0, q5_1⟩
theorem d_cfl1_0 : decode jdk_52_method_15_code 0 = .ok (.iload_n 1, 1) := by decide +kernel
theorem d_cfl1_1 : decode jdk_52_method_15_code 1 = .ok (.aload_n 0, 1) := by decide +kernel
theorem d_cfl1_2 : decode jdk_52_method_15_code 2 = .ok (.arraylength, 1) := by decide +kernel
theorem d_cfl1_3 : decode jdk_52_method_15_code 3 = .ok (.isub, 1) := by decide +kernel
theorem d_cfl1_4 : decode jdk_52_method_15_code 4 = .ok (.bipush 31, 2) := by decide +kernel
theorem d_cfl1_6 : decode jdk_52_method_15_code 6 = .ok (.iushr, 1) := by decide +kernel
theorem d_cfl1_7 : decode jdk_52_method_15_code 7 = .ok (.i2b, 1) := by decide +kernel
theorem d_cfl1_8 : decode jdk_52_method_15_code 8 = .ok (.ireturn, 1) := by decide +kernel
theorem ef_cfl1 (m : MethodId) (a0 : Addr) : entryFrame m #[(.ref a0), (.int (1 : Int32))] 2 = mkF m 0 #[.val (.ref a0), .val (.int (1 : Int32))] [] := by first | (simp [entryFrame, mkF, argsToLocals, Value.category]; done) | rfl
def Q_cfl1 (Z : State) (a0 : Addr) (kb : ClassId) (vs : List Value) (h0 : Heap) (n0 : Nat) (v : Option Value) (h : Heap) (L : List Loc) : Prop := v = some (.int (0 : Int32)) ∧ Fr n0 L ∧ h = h0
set_option maxRecDepth 65536 in
set_option maxHeartbeats 40000000 in
theorem rm_cfl1 (l : Launch) (Z : State) (aT : Array Value) (hw : ∀ d ∈ tables_1, d.before aT Z = true) (ws : List Jvm.Cond) (a0 : Addr) (kb : ClassId) (vs : List Value) (h0 : Heap) (n0 : Nat) (Z0 : n0 ≤ h0.size) (hp0 : Arv Z h0 a0 kb .byte (1 : Int32) vs (.int (0 : Int32))) :
    MetFree l (⟨"java/lang/StringUTF16", "coderFromArrayLen", "([BI)B"⟩ : MethodName) (head1 (Jvm.Cond.code (⟨"java/lang/StringUTF16", "coderFromArrayLen", "([BI)B"⟩ : MethodName) jdk_52_method_15_code 2 (some .byte) :: ws) ({ frames := 0, cells := 0, slots := 0, locals := 0 } : Room)) (fun a U => a = #[(.ref a0), (.int (1 : Int32))] ∧ Z.Warmed39 U.vm ∧ U.heap = h0) (fun _ _ _ _ _ => True) (fun _ U o U' => ∃ v L, o = .returned v ∧ Q_cfl1 Z a0 kb vs h0 n0 v U'.heap L ∧ FrameEnd U o U' L ({ frames := 0, cells := 0, slots := 0, locals := 0 } : Room).cells ({ frames := 0, cells := 0, slots := 0, locals := 0 } : Room).slots) := by
  refine MetFree.of_bodySF (plainFor_of_name pn0) hisR ?_
  intro p e s m args below meth c s₁ Bd hml0 hP hK
  obtain ⟨rfl, hZ, hh⟩ := hP
  have hx := Bd.exec
  have hby := Bd.bytes
  have hml : c.maxLocals = 2 := hml0
  have hown : s.vm.findClass "java/lang/StringUTF16" = some m.cls := findClass_of_methodNamed Bd.named
  have hnm := (name_of_methodNamed Bd.named Bd.method).1
  have hlk := Bd.notSynchronized
  have hrt := Bd.returns
  have X0 : Stand p l e ({ frames := 0, cells := 0, slots := 0, locals := 0 } : Room) s m #[(.ref a0), (.int (1 : Int32))] below meth c s₁ [] 0 0 := Stand.of_body Bd
  have e0 : s₁.heap = h0 := by rw [← hh, Bd.state]; rfl
  have N0 := Fr.nil n0
  refine own_cast (P := own_End s (Q_cfl1 Z a0 kb vs h0 n0) ({ frames := 0, cells := 0, slots := 0, locals := 0 } : Room).cells ({ frames := 0, cells := 0, slots := 0, locals := 0 } : Room).slots) (ef_cfl1 m a0) ?_
  refine g_iloadN X0 hx hby d_cfl1_0 rfl (rfl : 0 + 1 = 1) ?_
  refine g_aloadN X0 hx hby d_cfl1_1 rfl rfl (rfl : 1 + 1 = 2) ?_
  refine g_alen X0 hx hby hZ e0 hp0 d_cfl1_2 (rfl : 2 + 1 = 3) ?_
  refine g_isub X0 hx hby d_cfl1_3 (rfl : 3 + 1 = 4) ?_
  rw [(by decide : ((1 : Int32) - (1 : Int32)) = (0 : Int32))]
  refine g_bipush X0 hx hby (31 : Int32) d_cfl1_4 (by decide) (rfl : 4 + 2 = 6) ?_
  refine g_iushr X0 hx hby d_cfl1_6 (rfl : 6 + 1 = 7) ?_
  rw [(by decide : (((0 : Int32).toUInt32 >>> ((31 : Int32) &&& 31).toUInt32).toInt32) = (0 : Int32))]
  refine g_i2b X0 hx hby d_cfl1_7 (rfl : 7 + 1 = 8) ?_
  rw [(by decide : ((0 : Int32).toInt8.toInt32) = (0 : Int32))]
  refine own_retN X0 hx hby hlk (t := .byte) hrt (by simp) d_cfl1_8 (by decide) (by decide) ?_
  show Q_cfl1 Z a0 kb vs h0 n0 _ s₁.heap _
  exact ⟨rfl, N0, e0⟩
theorem d_si2_1_0 : decode jdk_42_method_149_code 0 = .ok (.aload_n 0, 1) := by decide +kernel
theorem d_si2_1_1 : decode jdk_42_method_149_code 1 = .ok (.invokespecial 1, 3) := by decide +kernel
theorem d_si2_1_4 : decode jdk_42_method_149_code 4 = .ok (.iload_n 3, 1) := by decide +kernel
theorem d_si2_1_5 : decode jdk_42_method_149_code 5 = .ok (.ifCond .ne 22, 3) := by decide +kernel
theorem d_si2_1_27 : decode jdk_42_method_149_code 27 = .ok (.getstatic 38, 3) := by decide +kernel
theorem d_si2_1_30 : decode jdk_42_method_149_code 30 = .ok (.ifCond .eq 28, 3) := by decide +kernel
theorem d_si2_1_33 : decode jdk_42_method_149_code 33 = .ok (.aload_n 1, 1) := by decide +kernel
theorem d_si2_1_34 : decode jdk_42_method_149_code 34 = .ok (.iload_n 2, 1) := by decide +kernel
theorem d_si2_1_35 : decode jdk_42_method_149_code 35 = .ok (.iload_n 3, 1) := by decide +kernel
theorem d_si2_1_36 : decode jdk_42_method_149_code 36 = .ok (.invokestatic 177, 3) := by decide +kernel
theorem d_si2_1_39 : decode jdk_42_method_149_code 39 = .ok (.astore 5, 2) := by decide +kernel
theorem d_si2_1_41 : decode jdk_42_method_149_code 41 = .ok (.aload_n 0, 1) := by decide +kernel
theorem d_si2_1_42 : decode jdk_42_method_149_code 42 = .ok (.aload 5, 2) := by decide +kernel
theorem d_si2_1_44 : decode jdk_42_method_149_code 44 = .ok (.iload_n 3, 1) := by decide +kernel
theorem d_si2_1_45 : decode jdk_42_method_149_code 45 = .ok (.invokestatic 47, 3) := by decide +kernel
theorem d_si2_1_48 : decode jdk_42_method_149_code 48 = .ok (.putfield 15, 3) := by decide +kernel
theorem d_si2_1_51 : decode jdk_42_method_149_code 51 = .ok (.aload_n 0, 1) := by decide +kernel
theorem d_si2_1_52 : decode jdk_42_method_149_code 52 = .ok (.aload 5, 2) := by decide +kernel
theorem d_si2_1_54 : decode jdk_42_method_149_code 54 = .ok (.putfield 9, 3) := by decide +kernel
theorem d_si2_1_57 : decode jdk_42_method_149_code 57 = .ok (.return_, 1) := by decide +kernel
theorem pn1 : plainName "java/lang/String" = true := by first | (simp [plainName, overriddenIn]; done) | decide +kernel
theorem pd1 : parseMethodDescriptor "([CII)[B" = some ⟨[(.array .char), .int, .int], some (.array .byte)⟩ := by decide +kernel
theorem pd2 : parseMethodDescriptor "([BI)B" = some ⟨[(.array .byte), .int], some .byte⟩ := by decide +kernel
theorem ef_si2_1 (m : MethodId) (a0 : Addr) (a1 : Addr) : entryFrame m #[(.ref a0), (.ref a1), (.int (0 : Int32)), (.int (1 : Int32)), .null] 6 = mkF m 0 #[.val (.ref a0), .val (.ref a1), .val (.int (0 : Int32)), .val (.int (1 : Int32)), .val .null, .unset] [] := by first | (simp [entryFrame, mkF, argsToLocals, Value.category]; done) | rfl
def Q_si2_1 (Z : State) (a0 : Addr) (a1 : Addr) (kc : ClassId) (c0 : Int32) (g1 : Int32) (h0 : Heap) (n0 : Nat) (v : Option Value) (h : Heap) (L : List Loc) : Prop := ∃ (ob : Addr), ∃ (kb : ClassId), v = none ∧ Fr n0 L ∧ Keep h0 h [a0] ∧ Exa Z h a0 "java/lang/String" ∧ Fld Z h a0 "java/lang/String" "coder" "B" (.int (0 : Int32)) ∧ Fld Z h a0 "java/lang/String" "value" "[B" (.ref ob) ∧ h0.size ≤ ob ∧ Exa Z h ob "[B" ∧ Arv Z h ob kb .byte (1 : Int32) [(.int (c0.toInt8.toInt32))] (.int (0 : Int32))
set_option maxRecDepth 65536 in
set_option maxHeartbeats 40000000 in
theorem rm_si2_1 (l : Launch) (Z : State) (aT : Array Value) (hw : ∀ d ∈ tables_1, d.before aT Z = true) (ws : List Jvm.Cond) (a0 : Addr) (a1 : Addr) (kc : ClassId) (c0 : Int32) (g1 : Int32) (h0 : Heap) (n0 : Nat) (Z0 : n0 ≤ h0.size) (hp0 : Exa Z h0 a0 "java/lang/String") (hp1 : Fld Z h0 a0 "java/lang/String" "value" "[B" .null) (hp2 : Fld Z h0 a0 "java/lang/String" "coder" "B" (.int (0 : Int32))) (hp3 : n0 ≤ a0) (hp4 : Arv Z h0 a1 kc .char (1 : Int32) [(.int c0)] (.int (0 : Int32))) (hp5 : Sta Z h0 "java/lang/String" "COMPACT_STRINGS" "Z" (.int g1)) (hq0 : ¬ ((255 : Int32) < c0)) (hg1 : ¬ (g1 = (0 : Int32))) :
    MetFree l (⟨"java/lang/String", "<init>", "([CIILjava/lang/Void;)V"⟩ : MethodName) (head1 (Jvm.Cond.code (⟨"java/lang/String", "<init>", "([CIILjava/lang/Void;)V"⟩ : MethodName) jdk_42_method_149_code 6 none :: ws) ({ frames := 2, cells := 1, slots := 1, locals := 35 } : Room)) (fun a U => a = #[(.ref a0), (.ref a1), (.int (0 : Int32)), (.int (1 : Int32)), .null] ∧ Z.Warmed39 U.vm ∧ U.heap = h0) (fun _ _ _ _ _ => True) (fun _ U o U' => ∃ v L, o = .returned v ∧ Q_si2_1 Z a0 a1 kc c0 g1 h0 n0 v U'.heap L ∧ FrameEnd U o U' L ({ frames := 2, cells := 1, slots := 1, locals := 35 } : Room).cells ({ frames := 2, cells := 1, slots := 1, locals := 35 } : Room).slots) := by
  refine MetFree.of_bodySF (plainFor_of_name pn1) hisR ?_
  intro p e s m args below meth c s₁ Bd hml0 hP hK
  obtain ⟨rfl, hZ, hh⟩ := hP
  have hx := Bd.exec
  have hby := Bd.bytes
  have hml : c.maxLocals = 6 := hml0
  have hown : s.vm.findClass "java/lang/String" = some m.cls := findClass_of_methodNamed Bd.named
  have hnm := (name_of_methodNamed Bd.named Bd.method).1
  have hlk := Bd.notSynchronized
  have hrt := Bd.returns
  have X0 : Stand p l e ({ frames := 2, cells := 1, slots := 1, locals := 35 } : Room) s m #[(.ref a0), (.ref a1), (.int (0 : Int32)), (.int (1 : Int32)), .null] below meth c s₁ [] 0 0 := Stand.of_body Bd
  have e0 : s₁.heap = h0 := by rw [← hh, Bd.state]; rfl
  have N0 := Fr.nil n0
  refine own_cast (P := own_End s (Q_si2_1 Z a0 a1 kc c0 g1 h0 n0) ({ frames := 2, cells := 1, slots := 1, locals := 35 } : Room).cells ({ frames := 2, cells := 1, slots := 1, locals := 35 } : Room).slots) (ef_si2_1 m a0 a1) ?_
  refine g_aloadN X0 hx hby d_si2_1_0 rfl rfl (rfl : 0 + 1 = 1) ?_
  obtain ⟨T7, X7, e7, st7⟩ := initO X0 hx hZ hown (hw _ (List.mem_of_getElem? (i := 15) rfl)) (hw _ (List.mem_of_getElem? (i := 16) rfl)) (hw _ (List.mem_of_getElem? (i := 17) rfl)) e0 (g := (mkF m 1 #[.val (.ref a0), .val (.ref a1), .val (.int (0 : Int32)), .val (.int (1 : Int32)), .val .null, .unset] [(.ref a0)])) rfl (by rw [hml]; rfl) rfl (hb hby d_si2_1_1) (by decide) (W := 0) (by show 2 * 0 + _ ≤ _; exact Nat.le_of_eq rfl) (by decide)
  refine own_go st7 ?_
  show own_Got p e below _ T7 (mkF m 4 #[.val (.ref a0), .val (.ref a1), .val (.int (0 : Int32)), .val (.int (1 : Int32)), .val .null, .unset] [])
  refine g_iloadN X7 hx hby d_si2_1_4 rfl (rfl : 4 + 1 = 5) ?_
  refine g_ifT X7 hx hby d_si2_1_5 ((if0 _ _).trans (feq (by decide : ¬ ((1 : Int32) = (0 : Int32)))).2) (by decide) (pc' := 27) (by decide) ?_
  obtain ⟨T8, X8, e8, st8⟩ := getS2 X7 hx hZ hown (host := "") (Or.inl (hw _ (List.mem_of_getElem? (i := 18) rfl))) Via.refl e7 hp5 (g := (mkF m 27 #[.val (.ref a0), .val (.ref a1), .val (.int (0 : Int32)), .val (.int (1 : Int32)), .val .null, .unset] [])) rfl (hb hby d_si2_1_27)
  refine own_go st8 ?_
  show own_Got p e below _ T8 (mkF m 30 #[.val (.ref a0), .val (.ref a1), .val (.int (0 : Int32)), .val (.int (1 : Int32)), .val .null, .unset] [(.int g1)])
  refine g_ifF X8 hx hby d_si2_1_30 ((if0 _ _).trans (feq hg1).1) (rfl : 30 + 3 = 33) ?_
  refine g_aloadN X8 hx hby d_si2_1_33 rfl rfl (rfl : 33 + 1 = 34) ?_
  refine g_iloadN X8 hx hby d_si2_1_34 rfl (rfl : 34 + 1 = 35) ?_
  refine g_iloadN X8 hx hby d_si2_1_35 rfl (rfl : 35 + 1 = 36) ?_
  obtain ⟨_, _, ⟨T9, L9, k9, n9⟩, -, X9, ⟨Lc9, hQ9, l9, y9, z9⟩, st9⟩ := Jvm.LawKit.callS X8 hx (y := (⟨"java/lang/StringUTF16", "compress", "([CII)[B"⟩ : MethodName)) hown (mvT hZ (hw _ (List.mem_of_getElem? (i := 19) rfl))) (mvT hZ (hw _ (List.mem_of_getElem? (i := 20) rfl))) (mvT hZ (hw _ (List.mem_of_getElem? (i := 21) rfl))) (mvT hZ (hw _ (List.mem_of_getElem? (i := 22) rfl))) (by decide) (backOf (W := 0) (rm_cpB1 l Z aT hw [] a1 kc c0 h0 n0 Z0 hp4 hq0) hZ (hw _ (List.mem_of_getElem? (i := 22) rfl)) (hw _ (List.mem_of_getElem? (i := 21) rfl)) (by decide) (by decide)) (g := (mkF m 36 #[.val (.ref a0), .val (.ref a1), .val (.int (0 : Int32)), .val (.int (1 : Int32)), .val .null, .unset] [(.int (1 : Int32)), (.int (0 : Int32)), (.ref a1)])) rfl (by rw [hml]; rfl) (argsL := [(.ref a1), (.int (0 : Int32)), (.int (1 : Int32))]) (rest := []) (lenOf pd1 rfl) rfl (by show 2 * 0 + _ ≤ _; exact Nat.le_of_eq rfl) (hb hby d_si2_1_36) (fun _ _ => ⟨rfl, e8, (by decide : 0 + 1 ≤ _), (by decide : 0 + 1 ≤ _)⟩)
  dsimp only [Pt.U, Pt.locs, Pt.cells, Pt.slots] at X9 l9 y9 z9 st9 hQ9
  subst l9 y9 z9
  obtain ⟨ob_9, kb_9, rfl, N9q, K9, q9_0, q9_1, q9_2⟩ := hQ9
  have N9 := Fr.app N0 N9q
  have Z9 : n0 ≤ T9.heap.size := Nat.le_trans Z0 K9.1
  have KC9 : Keep h0 T9.heap [a0] := (Keep.refl h0 [a0]).trans K9 all0
  have ne10 : a0 ≠ ob_9 := Nat.ne_of_lt (Nat.lt_of_lt_of_le (hp0).lt q9_0)
  have ne11 : a1 ≠ ob_9 := Nat.ne_of_lt (Nat.lt_of_lt_of_le (hp4).lt q9_0)
  have ge12 : n0 ≤ ob_9 := Nat.le_trans Z0 q9_0
  have sz13 : h0.size ≤ ob_9 := Nat.le_trans (Keep.refl h0 [a0]).1 q9_0
  refine own_go st9 ?_
  show own_Got p e below _ T9 (mkF m 39 #[.val (.ref a0), .val (.ref a1), .val (.int (0 : Int32)), .val (.int (1 : Int32)), .val .null, .unset] [(.ref ob_9)])
  refine g_astore X9 hx hby #[.val (.ref a0), .val (.ref a1), .val (.int (0 : Int32)), .val (.int (1 : Int32)), .val .null, .val (.ref ob_9)] d_si2_1_39 rfl rfl (rfl : 39 + 2 = 41) ?_
  refine g_aloadN X9 hx hby d_si2_1_41 rfl rfl (rfl : 41 + 1 = 42) ?_
  refine g_aload X9 hx hby d_si2_1_42 rfl rfl (rfl : 42 + 2 = 44) ?_
  refine g_iloadN X9 hx hby d_si2_1_44 rfl (rfl : 44 + 1 = 45) ?_
  obtain ⟨_, _, ⟨T14, L14, k14, n14⟩, -, X14, ⟨Lc14, hQ14, l14, y14, z14⟩, st14⟩ := Jvm.LawKit.callS X9 hx (y := (⟨"java/lang/StringUTF16", "coderFromArrayLen", "([BI)B"⟩ : MethodName)) hown (mvT hZ (hw _ (List.mem_of_getElem? (i := 27) rfl))) (mvT hZ (hw _ (List.mem_of_getElem? (i := 28) rfl))) (mvT hZ (hw _ (List.mem_of_getElem? (i := 21) rfl))) (mvT hZ (hw _ (List.mem_of_getElem? (i := 29) rfl))) (by decide) (backOf (W := 1) (rm_cfl1 l Z aT hw [] ob_9 kb_9 [(.int (c0.toInt8.toInt32))] T9.heap n0 Z9 q9_2) hZ (hw _ (List.mem_of_getElem? (i := 29) rfl)) (hw _ (List.mem_of_getElem? (i := 21) rfl)) (by decide) (by decide)) (g := (mkF m 45 #[.val (.ref a0), .val (.ref a1), .val (.int (0 : Int32)), .val (.int (1 : Int32)), .val .null, .val (.ref ob_9)] [(.int (1 : Int32)), (.ref ob_9), (.ref a0)])) rfl (by rw [hml]; rfl) (argsL := [(.ref ob_9), (.int (1 : Int32))]) (rest := [(.ref a0)]) (lenOf pd2 rfl) rfl (by show 2 * 0 + _ ≤ _; exact Nat.le_of_eq rfl) (hb hby d_si2_1_45) (fun _ _ => ⟨rfl, rfl, (by decide : 1 + 0 ≤ _), (by decide : 1 + 0 ≤ _)⟩)
  dsimp only [Pt.U, Pt.locs, Pt.cells, Pt.slots] at X14 l14 y14 z14 st14 hQ14
  subst l14 y14 z14
  obtain ⟨rfl, N14q, eq14⟩ := hQ14
  have N14 := Fr.app N9 N14q
  refine own_go st14 ?_
  show own_Got p e below _ T14 (mkF m 48 #[.val (.ref a0), .val (.ref a1), .val (.int (0 : Int32)), .val (.int (1 : Int32)), .val .null, .val (.ref ob_9)] [(.int (0 : Int32)), (.ref a0)])
  have f15 : Fld Z T9.heap a0 "java/lang/String" "coder" "B" (.int (0 : Int32)) := (Fld.keep hp2 K9 nin0)
  have f16 : Exa Z T9.heap a0 "java/lang/String" := (Exa.keep hp0 K9)
  obtain ⟨T17, h17, X17, e17, W17, st17⟩ := putFN X14 hx hZ hown (hw _ (List.mem_of_getElem? (i := 30) rfl)) Via.refl eq14 f15 f16 (Or.inr ⟨(hw _ (List.mem_of_getElem? (i := 31) rfl)), rfl, hnm⟩) (hw _ (List.mem_of_getElem? (i := 5) rfl)) (ty := .byte) (v' := (.int (0 : Int32))) (by decide) rfl rfl (g := (mkF m 48 #[.val (.ref a0), .val (.ref a1), .val (.int (0 : Int32)), .val (.int (1 : Int32)), .val .null, .val (.ref ob_9)] [(.int (0 : Int32)), (.ref a0)])) rfl rfl (hb hby d_si2_1_48)
  have Z17 : n0 ≤ h17.size := Nat.le_trans Z9 (Keep.of_wr W17).1
  have N17 := Fr.snoc X17 N14 hp3
  have K17 : Keep h0 h17 [a0] := KC9.wr W17 (Or.inl (List.mem_of_getElem? (i := 0) rfl))
  have f17 : Fld Z h17 a0 "java/lang/String" "coder" "B" (.int (0 : Int32)) := Fld.same W17 f15
  refine own_go st17 ?_
  show own_Got p e below _ T17 (mkF m 51 #[.val (.ref a0), .val (.ref a1), .val (.int (0 : Int32)), .val (.int (1 : Int32)), .val .null, .val (.ref ob_9)] [])
  refine g_aloadN X17 hx hby d_si2_1_51 rfl rfl (rfl : 51 + 1 = 52) ?_
  refine g_aload X17 hx hby d_si2_1_52 rfl rfl (rfl : 52 + 2 = 54) ?_
  have f18 : Fld Z h17 a0 "java/lang/String" "value" "[B" .null := (Fld.other W17 (Fld.keep hp1 K9 nin0) (Or.inr (slot_ne (Or.inr (hw _ (List.mem_of_getElem? (i := 33) rfl))) (Or.inr (hw _ (List.mem_of_getElem? (i := 31) rfl))) (by decide) (t := (.array .byte)) (t' := .byte) (by decide) (by decide))))
  have f19 : Exa Z h17 a0 "java/lang/String" := (Exa.wr W17 f16)
  obtain ⟨T20, h20, X20, e20, W20, st20⟩ := putF X17 hx hZ hown (host := "") (Or.inl (hw _ (List.mem_of_getElem? (i := 32) rfl))) Via.refl e17 f18 f19 (Or.inr ⟨(hw _ (List.mem_of_getElem? (i := 33) rfl)), rfl, hnm⟩) (hw _ (List.mem_of_getElem? (i := 5) rfl)) (ty := (.array .byte)) (by decide) rfl rfl (g := (mkF m 54 #[.val (.ref a0), .val (.ref a1), .val (.int (0 : Int32)), .val (.int (1 : Int32)), .val .null, .val (.ref ob_9)] [(.ref ob_9), (.ref a0)])) rfl rfl (hb hby d_si2_1_54)
  have Z20 : n0 ≤ h20.size := Nat.le_trans Z17 (Keep.of_wr W20).1
  have N20 := Fr.snoc X20 N17 hp3
  have K20 : Keep h0 h20 [a0] := K17.wr W20 (Or.inl (List.mem_of_getElem? (i := 0) rfl))
  have f20 : Fld Z h20 a0 "java/lang/String" "value" "[B" (.ref ob_9) := Fld.same W20 f18
  refine own_go st20 ?_
  show own_Got p e below _ T20 (mkF m 57 #[.val (.ref a0), .val (.ref a1), .val (.int (0 : Int32)), .val (.int (1 : Int32)), .val .null, .val (.ref ob_9)] [])
  have f21 : Exa Z h20 a0 "java/lang/String" := (Exa.wr W20 f19)
  have f22 : Fld Z h20 a0 "java/lang/String" "coder" "B" (.int (0 : Int32)) := (Fld.other W20 f17 (Or.inr (slot_ne (Or.inr (hw _ (List.mem_of_getElem? (i := 31) rfl))) (Or.inr (hw _ (List.mem_of_getElem? (i := 33) rfl))) (by decide) (t := .byte) (t' := (.array .byte)) (by decide) (by decide))))
  have f23 : Exa Z h20 ob_9 "[B" := (Exa.wr W20 (Exa.wr W17 q9_1))
  have f24 : Arv Z h20 ob_9 kb_9 .byte (1 : Int32) [(.int (c0.toInt8.toInt32))] (.int (0 : Int32)) := (Arv.other (Arv.other q9_2 W17 (Ne.symm ne10)) W20 (Ne.symm ne10))
  refine own_retV X20 hx hby hlk hrt d_si2_1_57 (by decide) (by decide) ?_
  show Q_si2_1 Z a0 a1 kc c0 g1 h0 n0 _ T20.heap _
  rw [e20]
  exact ⟨ob_9, kb_9, rfl, N20, K20, f21, f22, f20, sz13, f23, f24⟩
theorem d_si1_1_0 : decode jdk_42_method_3_code 0 = .ok (.aload_n 0, 1) := by decide +kernel
theorem d_si1_1_1 : decode jdk_42_method_3_code 1 = .ok (.aload_n 1, 1) := by decide +kernel
theorem d_si1_1_2 : decode jdk_42_method_3_code 2 = .ok (.iconst 0, 1) := by decide +kernel
theorem d_si1_1_3 : decode jdk_42_method_3_code 3 = .ok (.aload_n 1, 1) := by decide +kernel
theorem d_si1_1_4 : decode jdk_42_method_3_code 4 = .ok (.arraylength, 1) := by decide +kernel
theorem d_si1_1_5 : decode jdk_42_method_3_code 5 = .ok (.aconst_null, 1) := by decide +kernel
theorem d_si1_1_6 : decode jdk_42_method_3_code 6 = .ok (.invokespecial 27, 3) := by decide +kernel
theorem d_si1_1_9 : decode jdk_42_method_3_code 9 = .ok (.return_, 1) := by decide +kernel
theorem pd3 : parseMethodDescriptor "([CIILjava/lang/Void;)V" = some ⟨[(.array .char), .int, .int, (.object "java/lang/Void")], none⟩ := by decide +kernel
theorem ef_si1_1 (m : MethodId) (a0 : Addr) (a1 : Addr) : entryFrame m #[(.ref a0), (.ref a1)] 2 = mkF m 0 #[.val (.ref a0), .val (.ref a1)] [] := by first | (simp [entryFrame, mkF, argsToLocals, Value.category]; done) | rfl
def Q_si1_1 (Z : State) (a0 : Addr) (a1 : Addr) (kc : ClassId) (c0 : Int32) (g1 : Int32) (h0 : Heap) (n0 : Nat) (v : Option Value) (h : Heap) (L : List Loc) : Prop := ∃ (ob : Addr), ∃ (kb : ClassId), v = none ∧ Fr n0 L ∧ Keep h0 h [a0] ∧ Exa Z h a0 "java/lang/String" ∧ Fld Z h a0 "java/lang/String" "coder" "B" (.int (0 : Int32)) ∧ Fld Z h a0 "java/lang/String" "value" "[B" (.ref ob) ∧ h0.size ≤ ob ∧ Exa Z h ob "[B" ∧ Arv Z h ob kb .byte (1 : Int32) [(.int (c0.toInt8.toInt32))] (.int (0 : Int32))
set_option maxRecDepth 65536 in
set_option maxHeartbeats 40000000 in
theorem rm_si1_1 (l : Launch) (Z : State) (aT : Array Value) (hw : ∀ d ∈ tables_1, d.before aT Z = true) (ws : List Jvm.Cond) (a0 : Addr) (a1 : Addr) (kc : ClassId) (c0 : Int32) (g1 : Int32) (h0 : Heap) (n0 : Nat) (Z0 : n0 ≤ h0.size) (hp0 : Exa Z h0 a0 "java/lang/String") (hp1 : Fld Z h0 a0 "java/lang/String" "value" "[B" .null) (hp2 : Fld Z h0 a0 "java/lang/String" "coder" "B" (.int (0 : Int32))) (hp3 : n0 ≤ a0) (hp4 : Arv Z h0 a1 kc .char (1 : Int32) [(.int c0)] (.int (0 : Int32))) (hp5 : Sta Z h0 "java/lang/String" "COMPACT_STRINGS" "Z" (.int g1)) (hq0 : ¬ ((255 : Int32) < c0)) (hg1 : ¬ (g1 = (0 : Int32))) :
    MetFree l (⟨"java/lang/String", "<init>", "([C)V"⟩ : MethodName) (head1 (Jvm.Cond.code (⟨"java/lang/String", "<init>", "([C)V"⟩ : MethodName) jdk_42_method_3_code 2 none :: ws) ({ frames := 3, cells := 1, slots := 1, locals := 52 } : Room)) (fun a U => a = #[(.ref a0), (.ref a1)] ∧ Z.Warmed39 U.vm ∧ U.heap = h0) (fun _ _ _ _ _ => True) (fun _ U o U' => ∃ v L, o = .returned v ∧ Q_si1_1 Z a0 a1 kc c0 g1 h0 n0 v U'.heap L ∧ FrameEnd U o U' L ({ frames := 3, cells := 1, slots := 1, locals := 52 } : Room).cells ({ frames := 3, cells := 1, slots := 1, locals := 52 } : Room).slots) := by
  refine MetFree.of_bodySF (plainFor_of_name pn1) hisR ?_
  intro p e s m args below meth c s₁ Bd hml0 hP hK
  obtain ⟨rfl, hZ, hh⟩ := hP
  have hx := Bd.exec
  have hby := Bd.bytes
  have hml : c.maxLocals = 2 := hml0
  have hown : s.vm.findClass "java/lang/String" = some m.cls := findClass_of_methodNamed Bd.named
  have hnm := (name_of_methodNamed Bd.named Bd.method).1
  have hlk := Bd.notSynchronized
  have hrt := Bd.returns
  have X0 : Stand p l e ({ frames := 3, cells := 1, slots := 1, locals := 52 } : Room) s m #[(.ref a0), (.ref a1)] below meth c s₁ [] 0 0 := Stand.of_body Bd
  have e0 : s₁.heap = h0 := by rw [← hh, Bd.state]; rfl
  have N0 := Fr.nil n0
  refine own_cast (P := own_End s (Q_si1_1 Z a0 a1 kc c0 g1 h0 n0) ({ frames := 3, cells := 1, slots := 1, locals := 52 } : Room).cells ({ frames := 3, cells := 1, slots := 1, locals := 52 } : Room).slots) (ef_si1_1 m a0 a1) ?_
  refine g_aloadN X0 hx hby d_si1_1_0 rfl rfl (rfl : 0 + 1 = 1) ?_
  refine g_aloadN X0 hx hby d_si1_1_1 rfl rfl (rfl : 1 + 1 = 2) ?_
  refine g_iconst X0 hx hby (0 : Int32) d_si1_1_2 (by decide) (rfl : 2 + 1 = 3) ?_
  refine g_aloadN X0 hx hby d_si1_1_3 rfl rfl (rfl : 3 + 1 = 4) ?_
  refine g_alen X0 hx hby hZ e0 hp4 d_si1_1_4 (rfl : 4 + 1 = 5) ?_
  refine g_anull X0 hx hby d_si1_1_5 (rfl : 5 + 1 = 6) ?_
  obtain ⟨_, _, ⟨T25, L25, k25, n25⟩, -, X25, ⟨Lc25, hQ25, l25, y25, z25⟩, st25⟩ := X0.specialBack hx (y := (⟨"java/lang/String", "<init>", "([CIILjava/lang/Void;)V"⟩ : MethodName)) rfl hown (mvT hZ (hw _ (List.mem_of_getElem? (i := 11) rfl))) (mvT hZ (hw _ (List.mem_of_getElem? (i := 12) rfl))) (mvT hZ (hw _ (List.mem_of_getElem? (i := 14) rfl))) (by decide) (backOf (W := 0) (rm_si2_1 l Z aT hw [] a0 a1 kc c0 g1 h0 n0 Z0 hp0 hp1 hp2 hp3 hp4 hp5 hq0 hg1) hZ (hw _ (List.mem_of_getElem? (i := 14) rfl)) (hw _ (List.mem_of_getElem? (i := 6) rfl)) (by decide) (by decide)) (g := (mkF m 6 #[.val (.ref a0), .val (.ref a1)] [.null, (.int (1 : Int32)), (.int (0 : Int32)), (.ref a1), (.ref a0)])) rfl (by rw [hml]; rfl) (Steps.refl _) (a := a0) (argsL := [(.ref a1), (.int (0 : Int32)), (.int (1 : Int32)), .null]) (rest := []) (lenOf pd3 rfl) rfl (by show 2 * 0 + _ ≤ _; exact Nat.le_of_eq rfl) (hb hby d_si1_1_6) (fun _ _ => ⟨rfl, e0, (by decide : 0 + 1 ≤ _), (by decide : 0 + 1 ≤ _)⟩)
  dsimp only [Pt.U, Pt.locs, Pt.cells, Pt.slots] at X25 l25 y25 z25 st25 hQ25
  subst l25 y25 z25
  obtain ⟨ob_25, kb_25, rfl, N25q, K25, q25_0, q25_1, q25_2, q25_3, q25_4, q25_5⟩ := hQ25
  have N25 := Fr.app N0 N25q
  have Z25 : n0 ≤ T25.heap.size := Nat.le_trans Z0 K25.1
  have KC25 : Keep h0 T25.heap [a0] := (Keep.refl h0 [a0]).trans K25 (allS (Or.inl (List.mem_of_getElem? (i := 0) rfl)) all0)
  have ne26 : a0 ≠ ob_25 := Nat.ne_of_lt (Nat.lt_of_lt_of_le (hp0).lt q25_3)
  have ne27 : a1 ≠ ob_25 := Nat.ne_of_lt (Nat.lt_of_lt_of_le (hp4).lt q25_3)
  have ge28 : n0 ≤ ob_25 := Nat.le_trans Z0 q25_3
  have sz29 : h0.size ≤ ob_25 := Nat.le_trans (Keep.refl h0 [a0]).1 q25_3
  refine own_tr st25 ?_
  show own_Got p e below _ T25 (mkF m 9 #[.val (.ref a0), .val (.ref a1)] [])
  refine own_retV X25 hx hby hlk hrt d_si1_1_9 (by decide) (by decide) ?_
  show Q_si1_1 Z a0 a1 kc c0 g1 h0 n0 _ T25.heap _
  exact ⟨ob_25, kb_25, rfl, N25, KC25, q25_0, q25_1, q25_2, sz29, q25_4, q25_5⟩
theorem d_cpI2_0 : decode jdk_52_method_21_code 0 = .ok (.iconst 0, 1) := by decide +kernel
theorem d_cpI2_1 : decode jdk_52_method_21_code 1 = .ok (.istore 5, 2) := by decide +kernel
theorem d_cpI2_3 : decode jdk_52_method_21_code 3 = .ok (.iload 5, 2) := by decide +kernel
theorem d_cpI2_5 : decode jdk_52_method_21_code 5 = .ok (.iload 4, 2) := by decide +kernel
theorem d_cpI2_7 : decode jdk_52_method_21_code 7 = .ok (.if_icmp .ge 37, 3) := by decide +kernel
theorem d_cpI2_10 : decode jdk_52_method_21_code 10 = .ok (.aload_n 0, 1) := by decide +kernel
theorem d_cpI2_11 : decode jdk_52_method_21_code 11 = .ok (.iload_n 1, 1) := by decide +kernel
theorem d_cpI2_12 : decode jdk_52_method_21_code 12 = .ok (.caload, 1) := by decide +kernel
theorem d_cpI2_13 : decode jdk_52_method_21_code 13 = .ok (.istore 6, 2) := by decide +kernel
theorem d_cpI2_15 : decode jdk_52_method_21_code 15 = .ok (.iload 6, 2) := by decide +kernel
theorem d_cpI2_17 : decode jdk_52_method_21_code 17 = .ok (.sipush 255, 3) := by decide +kernel
theorem d_cpI2_20 : decode jdk_52_method_21_code 20 = .ok (.if_icmp .le 6, 3) := by decide +kernel
theorem d_cpI2_26 : decode jdk_52_method_21_code 26 = .ok (.aload_n 2, 1) := by decide +kernel
theorem d_cpI2_27 : decode jdk_52_method_21_code 27 = .ok (.iload_n 3, 1) := by decide +kernel
theorem d_cpI2_28 : decode jdk_52_method_21_code 28 = .ok (.iload 6, 2) := by decide +kernel
theorem d_cpI2_30 : decode jdk_52_method_21_code 30 = .ok (.i2b, 1) := by decide +kernel
theorem d_cpI2_31 : decode jdk_52_method_21_code 31 = .ok (.bastore, 1) := by decide +kernel
theorem d_cpI2_32 : decode jdk_52_method_21_code 32 = .ok (.iinc 1 1, 3) := by decide +kernel
theorem d_cpI2_35 : decode jdk_52_method_21_code 35 = .ok (.iinc 3 1, 3) := by decide +kernel
theorem d_cpI2_38 : decode jdk_52_method_21_code 38 = .ok (.iinc 5 1, 3) := by decide +kernel
theorem d_cpI2_41 : decode jdk_52_method_21_code 41 = .ok (.goto (-38), 3) := by decide +kernel
theorem d_cpI2_44 : decode jdk_52_method_21_code 44 = .ok (.iload 4, 2) := by decide +kernel
theorem d_cpI2_46 : decode jdk_52_method_21_code 46 = .ok (.ireturn, 1) := by decide +kernel
theorem ef_cpI2 (m : MethodId) (a0 : Addr) (a2 : Addr) : entryFrame m #[(.ref a0), (.int (0 : Int32)), (.ref a2), (.int (0 : Int32)), (.int (2 : Int32))] 7 = mkF m 0 #[.val (.ref a0), .val (.int (0 : Int32)), .val (.ref a2), .val (.int (0 : Int32)), .val (.int (2 : Int32)), .unset, .unset] [] := by first | (simp [entryFrame, mkF, argsToLocals, Value.category]; done) | rfl
def Q_cpI2 (Z : State) (a0 : Addr) (a2 : Addr) (kc : ClassId) (c0 : Int32) (c1 : Int32) (kb : ClassId) (h0 : Heap) (n0 : Nat) (v : Option Value) (h : Heap) (L : List Loc) : Prop := v = some (.int (2 : Int32)) ∧ Fr n0 L ∧ Keep h0 h [a2] ∧ Exa Z h a2 "[B" ∧ Arv Z h a2 kb .byte (2 : Int32) [(.int (c0.toInt8.toInt32)), (.int (c1.toInt8.toInt32))] (.int (0 : Int32))
set_option maxRecDepth 65536 in
set_option maxHeartbeats 40000000 in
theorem rm_cpI2 (l : Launch) (Z : State) (aT : Array Value) (hw : ∀ d ∈ tables_1, d.before aT Z = true) (ws : List Jvm.Cond) (a0 : Addr) (a2 : Addr) (kc : ClassId) (c0 : Int32) (c1 : Int32) (kb : ClassId) (h0 : Heap) (n0 : Nat) (Z0 : n0 ≤ h0.size) (hp0 : Arv Z h0 a0 kc .char (2 : Int32) [(.int c0), (.int c1)] (.int (0 : Int32))) (hp1 : Exa Z h0 a2 "[B") (hp2 : Arv Z h0 a2 kb .byte (2 : Int32) [(.int (0 : Int32)), (.int (0 : Int32))] (.int (0 : Int32))) (hp3 : n0 ≤ a2) (hp4 : a0 ≠ a2) (hq0 : ¬ ((255 : Int32) < c0)) (hq1 : ¬ ((255 : Int32) < c1)) :
    MetFree l (⟨"java/lang/StringUTF16", "compress", "([CI[BII)I"⟩ : MethodName) (head1 (Jvm.Cond.code (⟨"java/lang/StringUTF16", "compress", "([CI[BII)I"⟩ : MethodName) jdk_52_method_21_code 7 (some .int) :: ws) ({ frames := 0, cells := 0, slots := 0, locals := 0 } : Room)) (fun a U => a = #[(.ref a0), (.int (0 : Int32)), (.ref a2), (.int (0 : Int32)), (.int (2 : Int32))] ∧ Z.Warmed39 U.vm ∧ U.heap = h0) (fun _ _ _ _ _ => True) (fun _ U o U' => ∃ v L, o = .returned v ∧ Q_cpI2 Z a0 a2 kc c0 c1 kb h0 n0 v U'.heap L ∧ FrameEnd U o U' L ({ frames := 0, cells := 0, slots := 0, locals := 0 } : Room).cells ({ frames := 0, cells := 0, slots := 0, locals := 0 } : Room).slots) := by
  refine MetFree.of_bodySF (plainFor_of_name pn0) hisR ?_
  intro p e s m args below meth c s₁ Bd hml0 hP hK
  obtain ⟨rfl, hZ, hh⟩ := hP
  have hx := Bd.exec
  have hby := Bd.bytes
  have hml : c.maxLocals = 7 := hml0
  have hown : s.vm.findClass "java/lang/StringUTF16" = some m.cls := findClass_of_methodNamed Bd.named
  have hnm := (name_of_methodNamed Bd.named Bd.method).1
  have hlk := Bd.notSynchronized
  have hrt := Bd.returns
  have X0 : Stand p l e ({ frames := 0, cells := 0, slots := 0, locals := 0 } : Room) s m #[(.ref a0), (.int (0 : Int32)), (.ref a2), (.int (0 : Int32)), (.int (2 : Int32))] below meth c s₁ [] 0 0 := Stand.of_body Bd
  have e0 : s₁.heap = h0 := by rw [← hh, Bd.state]; rfl
  have N0 := Fr.nil n0
  refine own_cast (P := own_End s (Q_cpI2 Z a0 a2 kc c0 c1 kb h0 n0) ({ frames := 0, cells := 0, slots := 0, locals := 0 } : Room).cells ({ frames := 0, cells := 0, slots := 0, locals := 0 } : Room).slots) (ef_cpI2 m a0 a2) ?_
  refine g_iconst X0 hx hby (0 : Int32) d_cpI2_0 (by decide) (rfl : 0 + 1 = 1) ?_
  refine g_istore X0 hx hby #[.val (.ref a0), .val (.int (0 : Int32)), .val (.ref a2), .val (.int (0 : Int32)), .val (.int (2 : Int32)), .val (.int (0 : Int32)), .unset] d_cpI2_1 rfl (rfl : 1 + 2 = 3) ?_
  refine g_iload X0 hx hby d_cpI2_3 rfl (rfl : 3 + 2 = 5) ?_
  refine g_iload X0 hx hby d_cpI2_5 rfl (rfl : 5 + 2 = 7) ?_
  refine g_icF X0 hx hby d_cpI2_7 (tlt (by decide : (0 : Int32) < (2 : Int32))).2.1 (rfl : 7 + 3 = 10) ?_
  refine g_aloadN X0 hx hby d_cpI2_10 rfl rfl (rfl : 10 + 1 = 11) ?_
  refine g_iloadN X0 hx hby d_cpI2_11 rfl (rfl : 11 + 1 = 12) ?_
  refine g_caload X0 hx hby hZ e0 (v := (.int c0)) hp0 ⟨by decide, by decide⟩ rfl d_cpI2_12 (rfl : 12 + 1 = 13) ?_
  refine g_istore X0 hx hby #[.val (.ref a0), .val (.int (0 : Int32)), .val (.ref a2), .val (.int (0 : Int32)), .val (.int (2 : Int32)), .val (.int (0 : Int32)), .val (.int c0)] d_cpI2_13 rfl (rfl : 13 + 2 = 15) ?_
  refine g_iload X0 hx hby d_cpI2_15 rfl (rfl : 15 + 2 = 17) ?_
  refine g_sipush X0 hx hby (255 : Int32) d_cpI2_17 (by decide) (rfl : 17 + 3 = 20) ?_
  refine g_icT X0 hx hby d_cpI2_20 (flt hq0).2.2.2 (by decide) (pc' := 26) (by decide) ?_
  refine g_aloadN X0 hx hby d_cpI2_26 rfl rfl (rfl : 26 + 1 = 27) ?_
  refine g_iloadN X0 hx hby d_cpI2_27 rfl (rfl : 27 + 1 = 28) ?_
  refine g_iload X0 hx hby d_cpI2_28 rfl (rfl : 28 + 2 = 30) ?_
  refine g_i2b X0 hx hby d_cpI2_30 (rfl : 30 + 1 = 31) ?_
  obtain ⟨T30, h30, X30, e30, W30, V30, st30⟩ := a_bastore X0 hx hby hZ e0 (ls := #[.val (.ref a0), .val (.int (0 : Int32)), .val (.ref a2), .val (.int (0 : Int32)), .val (.int (2 : Int32)), .val (.int (0 : Int32)), .val (.int c0)]) (st := []) (j := (0 : Int32)) (c0.toInt8.toInt32) 0 hp2 ⟨by decide, by decide⟩ (by decide) (Nat.le_of_ble_eq_true rfl) d_cpI2_31
  have Z30 : n0 ≤ h30.size := Nat.le_trans Z0 (Keep.of_wr W30).1
  have N30 := Fr.snoc X30 N0 hp3
  have K30 : Keep h0 h30 [a2] := (Keep.refl h0 [a2]).wr W30 (Or.inl (List.mem_of_getElem? (i := 0) rfl))
  have V30' : Arv Z h30 a2 kb .byte (2 : Int32) [(.int (c0.toInt8.toInt32)), (.int (0 : Int32))] (.int (0 : Int32)) := by have q := V30; rw [own_nb] at q; exact q
  refine own_go st30 ?_
  show own_Got p e below _ T30 (mkF m 32 #[.val (.ref a0), .val (.int (0 : Int32)), .val (.ref a2), .val (.int (0 : Int32)), .val (.int (2 : Int32)), .val (.int (0 : Int32)), .val (.int c0)] [])
  refine g_iinc X30 hx hby #[.val (.ref a0), .val (.int ((0 : Int32) + (1 : Int32))), .val (.ref a2), .val (.int (0 : Int32)), .val (.int (2 : Int32)), .val (.int (0 : Int32)), .val (.int c0)] d_cpI2_32 rfl rfl (rfl : 32 + 3 = 35) ?_
  rw [(by decide : ((0 : Int32) + (1 : Int32)) = (1 : Int32))]
  refine g_iinc X30 hx hby #[.val (.ref a0), .val (.int (1 : Int32)), .val (.ref a2), .val (.int ((0 : Int32) + (1 : Int32))), .val (.int (2 : Int32)), .val (.int (0 : Int32)), .val (.int c0)] d_cpI2_35 rfl rfl (rfl : 35 + 3 = 38) ?_
  rw [(by decide : ((0 : Int32) + (1 : Int32)) = (1 : Int32))]
  refine g_iinc X30 hx hby #[.val (.ref a0), .val (.int (1 : Int32)), .val (.ref a2), .val (.int (1 : Int32)), .val (.int (2 : Int32)), .val (.int ((0 : Int32) + (1 : Int32))), .val (.int c0)] d_cpI2_38 rfl rfl (rfl : 38 + 3 = 41) ?_
  rw [(by decide : ((0 : Int32) + (1 : Int32)) = (1 : Int32))]
  refine g_goto X30 hx hby d_cpI2_41 (by decide) (pc' := 3) (by decide) ?_
  refine g_iload X30 hx hby d_cpI2_3 rfl (rfl : 3 + 2 = 5) ?_
  refine g_iload X30 hx hby d_cpI2_5 rfl (rfl : 5 + 2 = 7) ?_
  refine g_icF X30 hx hby d_cpI2_7 (tlt (by decide : (1 : Int32) < (2 : Int32))).2.1 (rfl : 7 + 3 = 10) ?_
  refine g_aloadN X30 hx hby d_cpI2_10 rfl rfl (rfl : 10 + 1 = 11) ?_
  refine g_iloadN X30 hx hby d_cpI2_11 rfl (rfl : 11 + 1 = 12) ?_
  have f31 : Arv Z h30 a0 kc .char (2 : Int32) [(.int c0), (.int c1)] (.int (0 : Int32)) := (Arv.other hp0 W30 hp4)
  refine g_caload X30 hx hby hZ e30 (v := (.int c1)) f31 ⟨by decide, by decide⟩ rfl d_cpI2_12 (rfl : 12 + 1 = 13) ?_
  refine g_istore X30 hx hby #[.val (.ref a0), .val (.int (1 : Int32)), .val (.ref a2), .val (.int (1 : Int32)), .val (.int (2 : Int32)), .val (.int (1 : Int32)), .val (.int c1)] d_cpI2_13 rfl (rfl : 13 + 2 = 15) ?_
  refine g_iload X30 hx hby d_cpI2_15 rfl (rfl : 15 + 2 = 17) ?_
  refine g_sipush X30 hx hby (255 : Int32) d_cpI2_17 (by decide) (rfl : 17 + 3 = 20) ?_
  refine g_icT X30 hx hby d_cpI2_20 (flt hq1).2.2.2 (by decide) (pc' := 26) (by decide) ?_
  refine g_aloadN X30 hx hby d_cpI2_26 rfl rfl (rfl : 26 + 1 = 27) ?_
  refine g_iloadN X30 hx hby d_cpI2_27 rfl (rfl : 27 + 1 = 28) ?_
  refine g_iload X30 hx hby d_cpI2_28 rfl (rfl : 28 + 2 = 30) ?_
  refine g_i2b X30 hx hby d_cpI2_30 (rfl : 30 + 1 = 31) ?_
  obtain ⟨T32, h32, X32, e32, W32, V32, st32⟩ := a_bastore X30 hx hby hZ e30 (ls := #[.val (.ref a0), .val (.int (1 : Int32)), .val (.ref a2), .val (.int (1 : Int32)), .val (.int (2 : Int32)), .val (.int (1 : Int32)), .val (.int c1)]) (st := []) (j := (1 : Int32)) (c1.toInt8.toInt32) 1 V30' ⟨by decide, by decide⟩ (by decide) (Nat.le_of_ble_eq_true rfl) d_cpI2_31
  have Z32 : n0 ≤ h32.size := Nat.le_trans Z30 (Keep.of_wr W32).1
  have N32 := Fr.snoc X32 N30 hp3
  have K32 : Keep h0 h32 [a2] := K30.wr W32 (Or.inl (List.mem_of_getElem? (i := 0) rfl))
  have V32' : Arv Z h32 a2 kb .byte (2 : Int32) [(.int (c0.toInt8.toInt32)), (.int (c1.toInt8.toInt32))] (.int (0 : Int32)) := by have q := V32; rw [own_nb] at q; exact q
  refine own_go st32 ?_
  show own_Got p e below _ T32 (mkF m 32 #[.val (.ref a0), .val (.int (1 : Int32)), .val (.ref a2), .val (.int (1 : Int32)), .val (.int (2 : Int32)), .val (.int (1 : Int32)), .val (.int c1)] [])
  refine g_iinc X32 hx hby #[.val (.ref a0), .val (.int ((1 : Int32) + (1 : Int32))), .val (.ref a2), .val (.int (1 : Int32)), .val (.int (2 : Int32)), .val (.int (1 : Int32)), .val (.int c1)] d_cpI2_32 rfl rfl (rfl : 32 + 3 = 35) ?_
  rw [(by decide : ((1 : Int32) + (1 : Int32)) = (2 : Int32))]
  refine g_iinc X32 hx hby #[.val (.ref a0), .val (.int (2 : Int32)), .val (.ref a2), .val (.int ((1 : Int32) + (1 : Int32))), .val (.int (2 : Int32)), .val (.int (1 : Int32)), .val (.int c1)] d_cpI2_35 rfl rfl (rfl : 35 + 3 = 38) ?_
  rw [(by decide : ((1 : Int32) + (1 : Int32)) = (2 : Int32))]
  refine g_iinc X32 hx hby #[.val (.ref a0), .val (.int (2 : Int32)), .val (.ref a2), .val (.int (2 : Int32)), .val (.int (2 : Int32)), .val (.int ((1 : Int32) + (1 : Int32))), .val (.int c1)] d_cpI2_38 rfl rfl (rfl : 38 + 3 = 41) ?_
  rw [(by decide : ((1 : Int32) + (1 : Int32)) = (2 : Int32))]
  refine g_goto X32 hx hby d_cpI2_41 (by decide) (pc' := 3) (by decide) ?_
  refine g_iload X32 hx hby d_cpI2_3 rfl (rfl : 3 + 2 = 5) ?_
  refine g_iload X32 hx hby d_cpI2_5 rfl (rfl : 5 + 2 = 7) ?_
  refine g_icT X32 hx hby d_cpI2_7 (flt (by decide : ¬ ((2 : Int32) < (2 : Int32)))).2.1 (by decide) (pc' := 44) (by decide) ?_
  refine g_iload X32 hx hby d_cpI2_44 rfl (rfl : 44 + 2 = 46) ?_
  have f33 : Exa Z h32 a2 "[B" := (Exa.wr W32 (Exa.wr W30 hp1))
  refine own_retI X32 hx hby hlk hrt d_cpI2_46 (by decide) (by decide) ?_
  show Q_cpI2 Z a0 a2 kc c0 c1 kb h0 n0 _ T32.heap _
  rw [e32]
  exact ⟨rfl, N32, K32, f33, V32'⟩
theorem d_cpB2_0 : decode jdk_52_method_16_code 0 = .ok (.iload_n 2, 1) := by decide +kernel
theorem d_cpB2_1 : decode jdk_52_method_16_code 1 = .ok (.newarray .byte, 2) := by decide +kernel
theorem d_cpB2_3 : decode jdk_52_method_16_code 3 = .ok (.astore_n 3, 1) := by decide +kernel
theorem d_cpB2_4 : decode jdk_52_method_16_code 4 = .ok (.aload_n 0, 1) := by decide +kernel
theorem d_cpB2_5 : decode jdk_52_method_16_code 5 = .ok (.iload_n 1, 1) := by decide +kernel
theorem d_cpB2_6 : decode jdk_52_method_16_code 6 = .ok (.aload_n 3, 1) := by decide +kernel
theorem d_cpB2_7 : decode jdk_52_method_16_code 7 = .ok (.iconst 0, 1) := by decide +kernel
theorem d_cpB2_8 : decode jdk_52_method_16_code 8 = .ok (.iload_n 2, 1) := by decide +kernel
theorem d_cpB2_9 : decode jdk_52_method_16_code 9 = .ok (.invokestatic 115, 3) := by decide +kernel
theorem d_cpB2_12 : decode jdk_52_method_16_code 12 = .ok (.istore 4, 2) := by decide +kernel
theorem d_cpB2_14 : decode jdk_52_method_16_code 14 = .ok (.iload 4, 2) := by decide +kernel
theorem d_cpB2_16 : decode jdk_52_method_16_code 16 = .ok (.iload_n 2, 1) := by decide +kernel
theorem d_cpB2_17 : decode jdk_52_method_16_code 17 = .ok (.if_icmp .eq 40, 3) := by decide +kernel
theorem d_cpB2_57 : decode jdk_52_method_16_code 57 = .ok (.aload_n 3, 1) := by decide +kernel
theorem d_cpB2_58 : decode jdk_52_method_16_code 58 = .ok (.areturn, 1) := by decide +kernel
theorem ef_cpB2 (m : MethodId) (a0 : Addr) : entryFrame m #[(.ref a0), (.int (0 : Int32)), (.int (2 : Int32))] 6 = mkF m 0 #[.val (.ref a0), .val (.int (0 : Int32)), .val (.int (2 : Int32)), .unset, .unset, .unset] [] := by first | (simp [entryFrame, mkF, argsToLocals, Value.category]; done) | rfl
def Q_cpB2 (Z : State) (a0 : Addr) (kc : ClassId) (c0 : Int32) (c1 : Int32) (h0 : Heap) (n0 : Nat) (v : Option Value) (h : Heap) (L : List Loc) : Prop := ∃ (ob : Addr), ∃ (kb : ClassId), v = some (.ref ob) ∧ Fr n0 L ∧ Keep h0 h [] ∧ h0.size ≤ ob ∧ Exa Z h ob "[B" ∧ Arv Z h ob kb .byte (2 : Int32) [(.int (c0.toInt8.toInt32)), (.int (c1.toInt8.toInt32))] (.int (0 : Int32))
set_option maxRecDepth 65536 in
set_option maxHeartbeats 40000000 in
theorem rm_cpB2 (l : Launch) (Z : State) (aT : Array Value) (hw : ∀ d ∈ tables_1, d.before aT Z = true) (ws : List Jvm.Cond) (a0 : Addr) (kc : ClassId) (c0 : Int32) (c1 : Int32) (h0 : Heap) (n0 : Nat) (Z0 : n0 ≤ h0.size) (hp0 : Arv Z h0 a0 kc .char (2 : Int32) [(.int c0), (.int c1)] (.int (0 : Int32))) (hq0 : ¬ ((255 : Int32) < c0)) (hq1 : ¬ ((255 : Int32) < c1)) :
    MetFree l (⟨"java/lang/StringUTF16", "compress", "([CII)[B"⟩ : MethodName) (head1 (Jvm.Cond.code (⟨"java/lang/StringUTF16", "compress", "([CII)[B"⟩ : MethodName) jdk_52_method_16_code 6 (some (.array .byte)) :: ws) ({ frames := 1, cells := 1, slots := 2, locals := 18 } : Room)) (fun a U => a = #[(.ref a0), (.int (0 : Int32)), (.int (2 : Int32))] ∧ Z.Warmed39 U.vm ∧ U.heap = h0) (fun _ _ _ _ _ => True) (fun _ U o U' => ∃ v L, o = .returned v ∧ Q_cpB2 Z a0 kc c0 c1 h0 n0 v U'.heap L ∧ FrameEnd U o U' L ({ frames := 1, cells := 1, slots := 2, locals := 18 } : Room).cells ({ frames := 1, cells := 1, slots := 2, locals := 18 } : Room).slots) := by
  refine MetFree.of_bodySF (plainFor_of_name pn0) hisR ?_
  intro p e s m args below meth c s₁ Bd hml0 hP hK
  obtain ⟨rfl, hZ, hh⟩ := hP
  have hx := Bd.exec
  have hby := Bd.bytes
  have hml : c.maxLocals = 6 := hml0
  have hown : s.vm.findClass "java/lang/StringUTF16" = some m.cls := findClass_of_methodNamed Bd.named
  have hnm := (name_of_methodNamed Bd.named Bd.method).1
  have hlk := Bd.notSynchronized
  have hrt := Bd.returns
  have X0 : Stand p l e ({ frames := 1, cells := 1, slots := 2, locals := 18 } : Room) s m #[(.ref a0), (.int (0 : Int32)), (.int (2 : Int32))] below meth c s₁ [] 0 0 := Stand.of_body Bd
  have e0 : s₁.heap = h0 := by rw [← hh, Bd.state]; rfl
  have N0 := Fr.nil n0
  refine own_cast (P := own_End s (Q_cpB2 Z a0 kc c0 c1 h0 n0) ({ frames := 1, cells := 1, slots := 2, locals := 18 } : Room).cells ({ frames := 1, cells := 1, slots := 2, locals := 18 } : Room).slots) (ef_cpB2 m a0) ?_
  refine g_iloadN X0 hx hby d_cpB2_0 rfl (rfl : 0 + 1 = 1) ?_
  obtain ⟨T34, h34, k34, X34, e34, E34, A34, B34, st34⟩ := newPE X0 hx hZ (hw _ (List.mem_of_getElem? (i := 23) rfl)) e0 (g := (mkF m 1 #[.val (.ref a0), .val (.int (0 : Int32)), .val (.int (2 : Int32)), .unset, .unset, .unset] [(.int (2 : Int32))])) rfl (hb hby d_cpB2_1) rfl (by decide) (cap := 2) (by decide) (by decide) (by decide) (by decide) (ad := "[B") (by decide +kernel)
  obtain ⟨b34, g34⟩ : ∃ z, z = h0.size := ⟨_, rfl⟩
  rw [← g34] at A34 B34 st34
  have ne35 : a0 ≠ b34 := Nat.ne_of_lt (Nat.lt_of_lt_of_le (hp0).lt (Nat.le_of_eq g34.symm))
  have Z34 : n0 ≤ h34.size := Nat.le_trans Z0 E34.1
  have K34 : Keep h0 h34 [] := (Keep.refl h0 []).ext E34
  have ge34 : n0 ≤ b34 := Nat.le_trans Z0 (Nat.le_of_eq g34.symm)
  have sz34 : h0.size ≤ b34 := Nat.le_trans (Keep.refl h0 []).1 (Nat.le_of_eq g34.symm)
  have V34 : Arv Z h34 b34 k34 .byte (2 : Int32) [(.int (0 : Int32)), (.int (0 : Int32))] (.int (0 : Int32)) := (Arv.new A34 (by decide)).pad (pad_rep [] _ 2)
  refine own_go st34 ?_
  show own_Got p e below _ T34 (mkF m 3 #[.val (.ref a0), .val (.int (0 : Int32)), .val (.int (2 : Int32)), .unset, .unset, .unset] [(.ref b34)])
  refine g_astoreN X34 hx hby #[.val (.ref a0), .val (.int (0 : Int32)), .val (.int (2 : Int32)), .val (.ref b34), .unset, .unset] d_cpB2_3 rfl rfl (rfl : 3 + 1 = 4) ?_
  refine g_aloadN X34 hx hby d_cpB2_4 rfl rfl (rfl : 4 + 1 = 5) ?_
  refine g_iloadN X34 hx hby d_cpB2_5 rfl (rfl : 5 + 1 = 6) ?_
  refine g_aloadN X34 hx hby d_cpB2_6 rfl rfl (rfl : 6 + 1 = 7) ?_
  refine g_iconst X34 hx hby (0 : Int32) d_cpB2_7 (by decide) (rfl : 7 + 1 = 8) ?_
  refine g_iloadN X34 hx hby d_cpB2_8 rfl (rfl : 8 + 1 = 9) ?_
  have f37 : Arv Z h34 a0 kc .char (2 : Int32) [(.int c0), (.int c1)] (.int (0 : Int32)) := (hp0.ext E34)
  obtain ⟨_, _, ⟨T36, L36, k36, n36⟩, -, X36, ⟨Lc36, hQ36, l36, y36, z36⟩, st36⟩ := Jvm.LawKit.callS X34 hx (y := (⟨"java/lang/StringUTF16", "compress", "([CI[BII)I"⟩ : MethodName)) hown (mvT hZ (hw _ (List.mem_of_getElem? (i := 24) rfl))) (mvT hZ (hw _ (List.mem_of_getElem? (i := 25) rfl))) (mvT hZ (hw _ (List.mem_of_getElem? (i := 21) rfl))) (mvT hZ (hw _ (List.mem_of_getElem? (i := 26) rfl))) (by decide) (backOf (W := 0) (rm_cpI2 l Z aT hw [] a0 b34 kc c0 c1 k34 h34 n0 Z34 f37 B34 V34 ge34 ne35 hq0 hq1) hZ (hw _ (List.mem_of_getElem? (i := 26) rfl)) (hw _ (List.mem_of_getElem? (i := 21) rfl)) (by decide) (by decide)) (g := (mkF m 9 #[.val (.ref a0), .val (.int (0 : Int32)), .val (.int (2 : Int32)), .val (.ref b34), .unset, .unset] [(.int (2 : Int32)), (.int (0 : Int32)), (.ref b34), (.int (0 : Int32)), (.ref a0)])) rfl (by rw [hml]; rfl) (argsL := [(.ref a0), (.int (0 : Int32)), (.ref b34), (.int (0 : Int32)), (.int (2 : Int32))]) (rest := []) (lenOf pd0 rfl) rfl (by show 2 * 0 + _ ≤ _; exact Nat.le_of_eq rfl) (hb hby d_cpB2_9) (fun _ _ => ⟨rfl, e34, (by decide : 1 + 0 ≤ _), (by decide : 2 + 0 ≤ _)⟩)
  dsimp only [Pt.U, Pt.locs, Pt.cells, Pt.slots] at X36 l36 y36 z36 st36 hQ36
  subst l36 y36 z36
  obtain ⟨rfl, N36q, K36, q36_0, q36_1⟩ := hQ36
  have N36 := Fr.app N0 N36q
  have Z36 : n0 ≤ T36.heap.size := Nat.le_trans Z34 K36.1
  have KC36 : Keep h0 T36.heap [] := K34.trans K36 (allS (Or.inr sz34) all0)
  refine own_go st36 ?_
  show own_Got p e below _ T36 (mkF m 12 #[.val (.ref a0), .val (.int (0 : Int32)), .val (.int (2 : Int32)), .val (.ref b34), .unset, .unset] [(.int (2 : Int32))])
  refine g_istore X36 hx hby #[.val (.ref a0), .val (.int (0 : Int32)), .val (.int (2 : Int32)), .val (.ref b34), .val (.int (2 : Int32)), .unset] d_cpB2_12 rfl (rfl : 12 + 2 = 14) ?_
  refine g_iload X36 hx hby d_cpB2_14 rfl (rfl : 14 + 2 = 16) ?_
  refine g_iloadN X36 hx hby d_cpB2_16 rfl (rfl : 16 + 1 = 17) ?_
  refine g_icT X36 hx hby d_cpB2_17 (teq (by decide : (2 : Int32) = (2 : Int32))).1 (by decide) (pc' := 57) (by decide) ?_
  refine g_aloadN X36 hx hby d_cpB2_57 rfl rfl (rfl : 57 + 1 = 58) ?_
  refine own_retR X36 hx hby hlk hrt rfl d_cpB2_58 (by decide) (by decide) rfl ?_
  show Q_cpB2 Z a0 kc c0 c1 h0 n0 _ T36.heap _
  exact ⟨b34, k34, rfl, N36, KC36, sz34, q36_0, q36_1⟩
theorem d_cfl2_0 : decode jdk_52_method_15_code 0 = .ok (.iload_n 1, 1) := by decide +kernel
theorem d_cfl2_1 : decode jdk_52_method_15_code 1 = .ok (.aload_n 0, 1) := by decide +kernel
theorem d_cfl2_2 : decode jdk_52_method_15_code 2 = .ok (.arraylength, 1) := by decide +kernel
theorem d_cfl2_3 : decode jdk_52_method_15_code 3 = .ok (.isub, 1) := by decide +kernel
theorem d_cfl2_4 : decode jdk_52_method_15_code 4 = .ok (.bipush 31, 2) := by decide +kernel
theorem d_cfl2_6 : decode jdk_52_method_15_code 6 = .ok (.iushr, 1) := by decide +kernel
theorem d_cfl2_7 : decode jdk_52_method_15_code 7 = .ok (.i2b, 1) := by decide +kernel
theorem d_cfl2_8 : decode jdk_52_method_15_code 8 = .ok (.ireturn, 1) := by decide +kernel
theorem ef_cfl2 (m : MethodId) (a0 : Addr) : entryFrame m #[(.ref a0), (.int (2 : Int32))] 2 = mkF m 0 #[.val (.ref a0), .val (.int (2 : Int32))] [] := by first | (simp [entryFrame, mkF, argsToLocals, Value.category]; done) | rfl
def Q_cfl2 (Z : State) (a0 : Addr) (kb : ClassId) (vs : List Value) (h0 : Heap) (n0 : Nat) (v : Option Value) (h : Heap) (L : List Loc) : Prop := v = some (.int (0 : Int32)) ∧ Fr n0 L ∧ h = h0
set_option maxRecDepth 65536 in
set_option maxHeartbeats 40000000 in
theorem rm_cfl2 (l : Launch) (Z : State) (aT : Array Value) (hw : ∀ d ∈ tables_1, d.before aT Z = true) (ws : List Jvm.Cond) (a0 : Addr) (kb : ClassId) (vs : List Value) (h0 : Heap) (n0 : Nat) (Z0 : n0 ≤ h0.size) (hp0 : Arv Z h0 a0 kb .byte (2 : Int32) vs (.int (0 : Int32))) :
    MetFree l (⟨"java/lang/StringUTF16", "coderFromArrayLen", "([BI)B"⟩ : MethodName) (head1 (Jvm.Cond.code (⟨"java/lang/StringUTF16", "coderFromArrayLen", "([BI)B"⟩ : MethodName) jdk_52_method_15_code 2 (some .byte) :: ws) ({ frames := 0, cells := 0, slots := 0, locals := 0 } : Room)) (fun a U => a = #[(.ref a0), (.int (2 : Int32))] ∧ Z.Warmed39 U.vm ∧ U.heap = h0) (fun _ _ _ _ _ => True) (fun _ U o U' => ∃ v L, o = .returned v ∧ Q_cfl2 Z a0 kb vs h0 n0 v U'.heap L ∧ FrameEnd U o U' L ({ frames := 0, cells := 0, slots := 0, locals := 0 } : Room).cells ({ frames := 0, cells := 0, slots := 0, locals := 0 } : Room).slots) := by
  refine MetFree.of_bodySF (plainFor_of_name pn0) hisR ?_
  intro p e s m args below meth c s₁ Bd hml0 hP hK
  obtain ⟨rfl, hZ, hh⟩ := hP
  have hx := Bd.exec
  have hby := Bd.bytes
  have hml : c.maxLocals = 2 := hml0
  have hown : s.vm.findClass "java/lang/StringUTF16" = some m.cls := findClass_of_methodNamed Bd.named
  have hnm := (name_of_methodNamed Bd.named Bd.method).1
  have hlk := Bd.notSynchronized
  have hrt := Bd.returns
  have X0 : Stand p l e ({ frames := 0, cells := 0, slots := 0, locals := 0 } : Room) s m #[(.ref a0), (.int (2 : Int32))] below meth c s₁ [] 0 0 := Stand.of_body Bd
  have e0 : s₁.heap = h0 := by rw [← hh, Bd.state]; rfl
  have N0 := Fr.nil n0
  refine own_cast (P := own_End s (Q_cfl2 Z a0 kb vs h0 n0) ({ frames := 0, cells := 0, slots := 0, locals := 0 } : Room).cells ({ frames := 0, cells := 0, slots := 0, locals := 0 } : Room).slots) (ef_cfl2 m a0) ?_
  refine g_iloadN X0 hx hby d_cfl2_0 rfl (rfl : 0 + 1 = 1) ?_
  refine g_aloadN X0 hx hby d_cfl2_1 rfl rfl (rfl : 1 + 1 = 2) ?_
  refine g_alen X0 hx hby hZ e0 hp0 d_cfl2_2 (rfl : 2 + 1 = 3) ?_
  refine g_isub X0 hx hby d_cfl2_3 (rfl : 3 + 1 = 4) ?_
  rw [(by decide : ((2 : Int32) - (2 : Int32)) = (0 : Int32))]
  refine g_bipush X0 hx hby (31 : Int32) d_cfl2_4 (by decide) (rfl : 4 + 2 = 6) ?_
  refine g_iushr X0 hx hby d_cfl2_6 (rfl : 6 + 1 = 7) ?_
  rw [(by decide : (((0 : Int32).toUInt32 >>> ((31 : Int32) &&& 31).toUInt32).toInt32) = (0 : Int32))]
  refine g_i2b X0 hx hby d_cfl2_7 (rfl : 7 + 1 = 8) ?_
  rw [(by decide : ((0 : Int32).toInt8.toInt32) = (0 : Int32))]
  refine own_retN X0 hx hby hlk (t := .byte) hrt (by simp) d_cfl2_8 (by decide) (by decide) ?_
  show Q_cfl2 Z a0 kb vs h0 n0 _ s₁.heap _
  exact ⟨rfl, N0, e0⟩
theorem d_si2_2_0 : decode jdk_42_method_149_code 0 = .ok (.aload_n 0, 1) := by decide +kernel
theorem d_si2_2_1 : decode jdk_42_method_149_code 1 = .ok (.invokespecial 1, 3) := by decide +kernel
theorem d_si2_2_4 : decode jdk_42_method_149_code 4 = .ok (.iload_n 3, 1) := by decide +kernel
theorem d_si2_2_5 : decode jdk_42_method_149_code 5 = .ok (.ifCond .ne 22, 3) := by decide +kernel
theorem d_si2_2_27 : decode jdk_42_method_149_code 27 = .ok (.getstatic 38, 3) := by decide +kernel
theorem d_si2_2_30 : decode jdk_42_method_149_code 30 = .ok (.ifCond .eq 28, 3) := by decide +kernel
theorem d_si2_2_33 : decode jdk_42_method_149_code 33 = .ok (.aload_n 1, 1) := by decide +kernel
theorem d_si2_2_34 : decode jdk_42_method_149_code 34 = .ok (.iload_n 2, 1) := by decide +kernel
theorem d_si2_2_35 : decode jdk_42_method_149_code 35 = .ok (.iload_n 3, 1) := by decide +kernel
theorem d_si2_2_36 : decode jdk_42_method_149_code 36 = .ok (.invokestatic 177, 3) := by decide +kernel
theorem d_si2_2_39 : decode jdk_42_method_149_code 39 = .ok (.astore 5, 2) := by decide +kernel
theorem d_si2_2_41 : decode jdk_42_method_149_code 41 = .ok (.aload_n 0, 1) := by decide +kernel
theorem d_si2_2_42 : decode jdk_42_method_149_code 42 = .ok (.aload 5, 2) := by decide +kernel
theorem d_si2_2_44 : decode jdk_42_method_149_code 44 = .ok (.iload_n 3, 1) := by decide +kernel
theorem d_si2_2_45 : decode jdk_42_method_149_code 45 = .ok (.invokestatic 47, 3) := by decide +kernel
theorem d_si2_2_48 : decode jdk_42_method_149_code 48 = .ok (.putfield 15, 3) := by decide +kernel
theorem d_si2_2_51 : decode jdk_42_method_149_code 51 = .ok (.aload_n 0, 1) := by decide +kernel
theorem d_si2_2_52 : decode jdk_42_method_149_code 52 = .ok (.aload 5, 2) := by decide +kernel
theorem d_si2_2_54 : decode jdk_42_method_149_code 54 = .ok (.putfield 9, 3) := by decide +kernel
theorem d_si2_2_57 : decode jdk_42_method_149_code 57 = .ok (.return_, 1) := by decide +kernel
theorem ef_si2_2 (m : MethodId) (a0 : Addr) (a1 : Addr) : entryFrame m #[(.ref a0), (.ref a1), (.int (0 : Int32)), (.int (2 : Int32)), .null] 6 = mkF m 0 #[.val (.ref a0), .val (.ref a1), .val (.int (0 : Int32)), .val (.int (2 : Int32)), .val .null, .unset] [] := by first | (simp [entryFrame, mkF, argsToLocals, Value.category]; done) | rfl
def Q_si2_2 (Z : State) (a0 : Addr) (a1 : Addr) (kc : ClassId) (c0 : Int32) (c1 : Int32) (g1 : Int32) (h0 : Heap) (n0 : Nat) (v : Option Value) (h : Heap) (L : List Loc) : Prop := ∃ (ob : Addr), ∃ (kb : ClassId), v = none ∧ Fr n0 L ∧ Keep h0 h [a0] ∧ Exa Z h a0 "java/lang/String" ∧ Fld Z h a0 "java/lang/String" "coder" "B" (.int (0 : Int32)) ∧ Fld Z h a0 "java/lang/String" "value" "[B" (.ref ob) ∧ h0.size ≤ ob ∧ Exa Z h ob "[B" ∧ Arv Z h ob kb .byte (2 : Int32) [(.int (c0.toInt8.toInt32)), (.int (c1.toInt8.toInt32))] (.int (0 : Int32))
set_option maxRecDepth 65536 in
set_option maxHeartbeats 40000000 in
theorem rm_si2_2 (l : Launch) (Z : State) (aT : Array Value) (hw : ∀ d ∈ tables_1, d.before aT Z = true) (ws : List Jvm.Cond) (a0 : Addr) (a1 : Addr) (kc : ClassId) (c0 : Int32) (c1 : Int32) (g1 : Int32) (h0 : Heap) (n0 : Nat) (Z0 : n0 ≤ h0.size) (hp0 : Exa Z h0 a0 "java/lang/String") (hp1 : Fld Z h0 a0 "java/lang/String" "value" "[B" .null) (hp2 : Fld Z h0 a0 "java/lang/String" "coder" "B" (.int (0 : Int32))) (hp3 : n0 ≤ a0) (hp4 : Arv Z h0 a1 kc .char (2 : Int32) [(.int c0), (.int c1)] (.int (0 : Int32))) (hp5 : Sta Z h0 "java/lang/String" "COMPACT_STRINGS" "Z" (.int g1)) (hq0 : ¬ ((255 : Int32) < c0)) (hq1 : ¬ ((255 : Int32) < c1)) (hg1 : ¬ (g1 = (0 : Int32))) :
    MetFree l (⟨"java/lang/String", "<init>", "([CIILjava/lang/Void;)V"⟩ : MethodName) (head1 (Jvm.Cond.code (⟨"java/lang/String", "<init>", "([CIILjava/lang/Void;)V"⟩ : MethodName) jdk_42_method_149_code 6 none :: ws) ({ frames := 2, cells := 1, slots := 2, locals := 35 } : Room)) (fun a U => a = #[(.ref a0), (.ref a1), (.int (0 : Int32)), (.int (2 : Int32)), .null] ∧ Z.Warmed39 U.vm ∧ U.heap = h0) (fun _ _ _ _ _ => True) (fun _ U o U' => ∃ v L, o = .returned v ∧ Q_si2_2 Z a0 a1 kc c0 c1 g1 h0 n0 v U'.heap L ∧ FrameEnd U o U' L ({ frames := 2, cells := 1, slots := 2, locals := 35 } : Room).cells ({ frames := 2, cells := 1, slots := 2, locals := 35 } : Room).slots) := by
  refine MetFree.of_bodySF (plainFor_of_name pn1) hisR ?_
  intro p e s m args below meth c s₁ Bd hml0 hP hK
  obtain ⟨rfl, hZ, hh⟩ := hP
  have hx := Bd.exec
  have hby := Bd.bytes
  have hml : c.maxLocals = 6 := hml0
  have hown : s.vm.findClass "java/lang/String" = some m.cls := findClass_of_methodNamed Bd.named
  have hnm := (name_of_methodNamed Bd.named Bd.method).1
  have hlk := Bd.notSynchronized
  have hrt := Bd.returns
  have X0 : Stand p l e ({ frames := 2, cells := 1, slots := 2, locals := 35 } : Room) s m #[(.ref a0), (.ref a1), (.int (0 : Int32)), (.int (2 : Int32)), .null] below meth c s₁ [] 0 0 := Stand.of_body Bd
  have e0 : s₁.heap = h0 := by rw [← hh, Bd.state]; rfl
  have N0 := Fr.nil n0
  refine own_cast (P := own_End s (Q_si2_2 Z a0 a1 kc c0 c1 g1 h0 n0) ({ frames := 2, cells := 1, slots := 2, locals := 35 } : Room).cells ({ frames := 2, cells := 1, slots := 2, locals := 35 } : Room).slots) (ef_si2_2 m a0 a1) ?_
  refine g_aloadN X0 hx hby d_si2_2_0 rfl rfl (rfl : 0 + 1 = 1) ?_
  obtain ⟨T38, X38, e38, st38⟩ := initO X0 hx hZ hown (hw _ (List.mem_of_getElem? (i := 15) rfl)) (hw _ (List.mem_of_getElem? (i := 16) rfl)) (hw _ (List.mem_of_getElem? (i := 17) rfl)) e0 (g := (mkF m 1 #[.val (.ref a0), .val (.ref a1), .val (.int (0 : Int32)), .val (.int (2 : Int32)), .val .null, .unset] [(.ref a0)])) rfl (by rw [hml]; rfl) rfl (hb hby d_si2_2_1) (by decide) (W := 0) (by show 2 * 0 + _ ≤ _; exact Nat.le_of_eq rfl) (by decide)
  refine own_go st38 ?_
  show own_Got p e below _ T38 (mkF m 4 #[.val (.ref a0), .val (.ref a1), .val (.int (0 : Int32)), .val (.int (2 : Int32)), .val .null, .unset] [])
  refine g_iloadN X38 hx hby d_si2_2_4 rfl (rfl : 4 + 1 = 5) ?_
  refine g_ifT X38 hx hby d_si2_2_5 ((if0 _ _).trans (feq (by decide : ¬ ((2 : Int32) = (0 : Int32)))).2) (by decide) (pc' := 27) (by decide) ?_
  obtain ⟨T39, X39, e39, st39⟩ := getS2 X38 hx hZ hown (host := "") (Or.inl (hw _ (List.mem_of_getElem? (i := 18) rfl))) Via.refl e38 hp5 (g := (mkF m 27 #[.val (.ref a0), .val (.ref a1), .val (.int (0 : Int32)), .val (.int (2 : Int32)), .val .null, .unset] [])) rfl (hb hby d_si2_2_27)
  refine own_go st39 ?_
  show own_Got p e below _ T39 (mkF m 30 #[.val (.ref a0), .val (.ref a1), .val (.int (0 : Int32)), .val (.int (2 : Int32)), .val .null, .unset] [(.int g1)])
  refine g_ifF X39 hx hby d_si2_2_30 ((if0 _ _).trans (feq hg1).1) (rfl : 30 + 3 = 33) ?_
  refine g_aloadN X39 hx hby d_si2_2_33 rfl rfl (rfl : 33 + 1 = 34) ?_
  refine g_iloadN X39 hx hby d_si2_2_34 rfl (rfl : 34 + 1 = 35) ?_
  refine g_iloadN X39 hx hby d_si2_2_35 rfl (rfl : 35 + 1 = 36) ?_
  obtain ⟨_, _, ⟨T40, L40, k40, n40⟩, -, X40, ⟨Lc40, hQ40, l40, y40, z40⟩, st40⟩ := Jvm.LawKit.callS X39 hx (y := (⟨"java/lang/StringUTF16", "compress", "([CII)[B"⟩ : MethodName)) hown (mvT hZ (hw _ (List.mem_of_getElem? (i := 19) rfl))) (mvT hZ (hw _ (List.mem_of_getElem? (i := 20) rfl))) (mvT hZ (hw _ (List.mem_of_getElem? (i := 21) rfl))) (mvT hZ (hw _ (List.mem_of_getElem? (i := 22) rfl))) (by decide) (backOf (W := 0) (rm_cpB2 l Z aT hw [] a1 kc c0 c1 h0 n0 Z0 hp4 hq0 hq1) hZ (hw _ (List.mem_of_getElem? (i := 22) rfl)) (hw _ (List.mem_of_getElem? (i := 21) rfl)) (by decide) (by decide)) (g := (mkF m 36 #[.val (.ref a0), .val (.ref a1), .val (.int (0 : Int32)), .val (.int (2 : Int32)), .val .null, .unset] [(.int (2 : Int32)), (.int (0 : Int32)), (.ref a1)])) rfl (by rw [hml]; rfl) (argsL := [(.ref a1), (.int (0 : Int32)), (.int (2 : Int32))]) (rest := []) (lenOf pd1 rfl) rfl (by show 2 * 0 + _ ≤ _; exact Nat.le_of_eq rfl) (hb hby d_si2_2_36) (fun _ _ => ⟨rfl, e39, (by decide : 0 + 1 ≤ _), (by decide : 0 + 2 ≤ _)⟩)
  dsimp only [Pt.U, Pt.locs, Pt.cells, Pt.slots] at X40 l40 y40 z40 st40 hQ40
  subst l40 y40 z40
  obtain ⟨ob_40, kb_40, rfl, N40q, K40, q40_0, q40_1, q40_2⟩ := hQ40
  have N40 := Fr.app N0 N40q
  have Z40 : n0 ≤ T40.heap.size := Nat.le_trans Z0 K40.1
  have KC40 : Keep h0 T40.heap [a0] := (Keep.refl h0 [a0]).trans K40 all0
  have ne41 : a0 ≠ ob_40 := Nat.ne_of_lt (Nat.lt_of_lt_of_le (hp0).lt q40_0)
  have ne42 : a1 ≠ ob_40 := Nat.ne_of_lt (Nat.lt_of_lt_of_le (hp4).lt q40_0)
  have ge43 : n0 ≤ ob_40 := Nat.le_trans Z0 q40_0
  have sz44 : h0.size ≤ ob_40 := Nat.le_trans (Keep.refl h0 [a0]).1 q40_0
  refine own_go st40 ?_
  show own_Got p e below _ T40 (mkF m 39 #[.val (.ref a0), .val (.ref a1), .val (.int (0 : Int32)), .val (.int (2 : Int32)), .val .null, .unset] [(.ref ob_40)])
  refine g_astore X40 hx hby #[.val (.ref a0), .val (.ref a1), .val (.int (0 : Int32)), .val (.int (2 : Int32)), .val .null, .val (.ref ob_40)] d_si2_2_39 rfl rfl (rfl : 39 + 2 = 41) ?_
  refine g_aloadN X40 hx hby d_si2_2_41 rfl rfl (rfl : 41 + 1 = 42) ?_
  refine g_aload X40 hx hby d_si2_2_42 rfl rfl (rfl : 42 + 2 = 44) ?_
  refine g_iloadN X40 hx hby d_si2_2_44 rfl (rfl : 44 + 1 = 45) ?_
  obtain ⟨_, _, ⟨T45, L45, k45, n45⟩, -, X45, ⟨Lc45, hQ45, l45, y45, z45⟩, st45⟩ := Jvm.LawKit.callS X40 hx (y := (⟨"java/lang/StringUTF16", "coderFromArrayLen", "([BI)B"⟩ : MethodName)) hown (mvT hZ (hw _ (List.mem_of_getElem? (i := 27) rfl))) (mvT hZ (hw _ (List.mem_of_getElem? (i := 28) rfl))) (mvT hZ (hw _ (List.mem_of_getElem? (i := 21) rfl))) (mvT hZ (hw _ (List.mem_of_getElem? (i := 29) rfl))) (by decide) (backOf (W := 1) (rm_cfl2 l Z aT hw [] ob_40 kb_40 [(.int (c0.toInt8.toInt32)), (.int (c1.toInt8.toInt32))] T40.heap n0 Z40 q40_2) hZ (hw _ (List.mem_of_getElem? (i := 29) rfl)) (hw _ (List.mem_of_getElem? (i := 21) rfl)) (by decide) (by decide)) (g := (mkF m 45 #[.val (.ref a0), .val (.ref a1), .val (.int (0 : Int32)), .val (.int (2 : Int32)), .val .null, .val (.ref ob_40)] [(.int (2 : Int32)), (.ref ob_40), (.ref a0)])) rfl (by rw [hml]; rfl) (argsL := [(.ref ob_40), (.int (2 : Int32))]) (rest := [(.ref a0)]) (lenOf pd2 rfl) rfl (by show 2 * 0 + _ ≤ _; exact Nat.le_of_eq rfl) (hb hby d_si2_2_45) (fun _ _ => ⟨rfl, rfl, (by decide : 1 + 0 ≤ _), (by decide : 2 + 0 ≤ _)⟩)
  dsimp only [Pt.U, Pt.locs, Pt.cells, Pt.slots] at X45 l45 y45 z45 st45 hQ45
  subst l45 y45 z45
  obtain ⟨rfl, N45q, eq45⟩ := hQ45
  have N45 := Fr.app N40 N45q
  refine own_go st45 ?_
  show own_Got p e below _ T45 (mkF m 48 #[.val (.ref a0), .val (.ref a1), .val (.int (0 : Int32)), .val (.int (2 : Int32)), .val .null, .val (.ref ob_40)] [(.int (0 : Int32)), (.ref a0)])
  have f46 : Fld Z T40.heap a0 "java/lang/String" "coder" "B" (.int (0 : Int32)) := (Fld.keep hp2 K40 nin0)
  have f47 : Exa Z T40.heap a0 "java/lang/String" := (Exa.keep hp0 K40)
  obtain ⟨T48, h48, X48, e48, W48, st48⟩ := putFN X45 hx hZ hown (hw _ (List.mem_of_getElem? (i := 30) rfl)) Via.refl eq45 f46 f47 (Or.inr ⟨(hw _ (List.mem_of_getElem? (i := 31) rfl)), rfl, hnm⟩) (hw _ (List.mem_of_getElem? (i := 5) rfl)) (ty := .byte) (v' := (.int (0 : Int32))) (by decide) rfl rfl (g := (mkF m 48 #[.val (.ref a0), .val (.ref a1), .val (.int (0 : Int32)), .val (.int (2 : Int32)), .val .null, .val (.ref ob_40)] [(.int (0 : Int32)), (.ref a0)])) rfl rfl (hb hby d_si2_2_48)
  have Z48 : n0 ≤ h48.size := Nat.le_trans Z40 (Keep.of_wr W48).1
  have N48 := Fr.snoc X48 N45 hp3
  have K48 : Keep h0 h48 [a0] := KC40.wr W48 (Or.inl (List.mem_of_getElem? (i := 0) rfl))
  have f48 : Fld Z h48 a0 "java/lang/String" "coder" "B" (.int (0 : Int32)) := Fld.same W48 f46
  refine own_go st48 ?_
  show own_Got p e below _ T48 (mkF m 51 #[.val (.ref a0), .val (.ref a1), .val (.int (0 : Int32)), .val (.int (2 : Int32)), .val .null, .val (.ref ob_40)] [])
  refine g_aloadN X48 hx hby d_si2_2_51 rfl rfl (rfl : 51 + 1 = 52) ?_
  refine g_aload X48 hx hby d_si2_2_52 rfl rfl (rfl : 52 + 2 = 54) ?_
  have f49 : Fld Z h48 a0 "java/lang/String" "value" "[B" .null := (Fld.other W48 (Fld.keep hp1 K40 nin0) (Or.inr (slot_ne (Or.inr (hw _ (List.mem_of_getElem? (i := 33) rfl))) (Or.inr (hw _ (List.mem_of_getElem? (i := 31) rfl))) (by decide) (t := (.array .byte)) (t' := .byte) (by decide) (by decide))))
  have f50 : Exa Z h48 a0 "java/lang/String" := (Exa.wr W48 f47)
  obtain ⟨T51, h51, X51, e51, W51, st51⟩ := putF X48 hx hZ hown (host := "") (Or.inl (hw _ (List.mem_of_getElem? (i := 32) rfl))) Via.refl e48 f49 f50 (Or.inr ⟨(hw _ (List.mem_of_getElem? (i := 33) rfl)), rfl, hnm⟩) (hw _ (List.mem_of_getElem? (i := 5) rfl)) (ty := (.array .byte)) (by decide) rfl rfl (g := (mkF m 54 #[.val (.ref a0), .val (.ref a1), .val (.int (0 : Int32)), .val (.int (2 : Int32)), .val .null, .val (.ref ob_40)] [(.ref ob_40), (.ref a0)])) rfl rfl (hb hby d_si2_2_54)
  have Z51 : n0 ≤ h51.size := Nat.le_trans Z48 (Keep.of_wr W51).1
  have N51 := Fr.snoc X51 N48 hp3
  have K51 : Keep h0 h51 [a0] := K48.wr W51 (Or.inl (List.mem_of_getElem? (i := 0) rfl))
  have f51 : Fld Z h51 a0 "java/lang/String" "value" "[B" (.ref ob_40) := Fld.same W51 f49
  refine own_go st51 ?_
  show own_Got p e below _ T51 (mkF m 57 #[.val (.ref a0), .val (.ref a1), .val (.int (0 : Int32)), .val (.int (2 : Int32)), .val .null, .val (.ref ob_40)] [])
  have f52 : Exa Z h51 a0 "java/lang/String" := (Exa.wr W51 f50)
  have f53 : Fld Z h51 a0 "java/lang/String" "coder" "B" (.int (0 : Int32)) := (Fld.other W51 f48 (Or.inr (slot_ne (Or.inr (hw _ (List.mem_of_getElem? (i := 31) rfl))) (Or.inr (hw _ (List.mem_of_getElem? (i := 33) rfl))) (by decide) (t := .byte) (t' := (.array .byte)) (by decide) (by decide))))
  have f54 : Exa Z h51 ob_40 "[B" := (Exa.wr W51 (Exa.wr W48 q40_1))
  have f55 : Arv Z h51 ob_40 kb_40 .byte (2 : Int32) [(.int (c0.toInt8.toInt32)), (.int (c1.toInt8.toInt32))] (.int (0 : Int32)) := (Arv.other (Arv.other q40_2 W48 (Ne.symm ne41)) W51 (Ne.symm ne41))
  refine own_retV X51 hx hby hlk hrt d_si2_2_57 (by decide) (by decide) ?_
  show Q_si2_2 Z a0 a1 kc c0 c1 g1 h0 n0 _ T51.heap _
  rw [e51]
  exact ⟨ob_40, kb_40, rfl, N51, K51, f52, f53, f51, sz44, f54, f55⟩
theorem d_si1_2_0 : decode jdk_42_method_3_code 0 = .ok (.aload_n 0, 1) := by decide +kernel
theorem d_si1_2_1 : decode jdk_42_method_3_code 1 = .ok (.aload_n 1, 1) := by decide +kernel
theorem d_si1_2_2 : decode jdk_42_method_3_code 2 = .ok (.iconst 0, 1) := by decide +kernel
theorem d_si1_2_3 : decode jdk_42_method_3_code 3 = .ok (.aload_n 1, 1) := by decide +kernel
theorem d_si1_2_4 : decode jdk_42_method_3_code 4 = .ok (.arraylength, 1) := by decide +kernel
theorem d_si1_2_5 : decode jdk_42_method_3_code 5 = .ok (.aconst_null, 1) := by decide +kernel
theorem d_si1_2_6 : decode jdk_42_method_3_code 6 = .ok (.invokespecial 27, 3) := by decide +kernel
theorem d_si1_2_9 : decode jdk_42_method_3_code 9 = .ok (.return_, 1) := by decide +kernel
theorem ef_si1_2 (m : MethodId) (a0 : Addr) (a1 : Addr) : entryFrame m #[(.ref a0), (.ref a1)] 2 = mkF m 0 #[.val (.ref a0), .val (.ref a1)] [] := by first | (simp [entryFrame, mkF, argsToLocals, Value.category]; done) | rfl
def Q_si1_2 (Z : State) (a0 : Addr) (a1 : Addr) (kc : ClassId) (c0 : Int32) (c1 : Int32) (g1 : Int32) (h0 : Heap) (n0 : Nat) (v : Option Value) (h : Heap) (L : List Loc) : Prop := ∃ (ob : Addr), ∃ (kb : ClassId), v = none ∧ Fr n0 L ∧ Keep h0 h [a0] ∧ Exa Z h a0 "java/lang/String" ∧ Fld Z h a0 "java/lang/String" "coder" "B" (.int (0 : Int32)) ∧ Fld Z h a0 "java/lang/String" "value" "[B" (.ref ob) ∧ h0.size ≤ ob ∧ Exa Z h ob "[B" ∧ Arv Z h ob kb .byte (2 : Int32) [(.int (c0.toInt8.toInt32)), (.int (c1.toInt8.toInt32))] (.int (0 : Int32))
set_option maxRecDepth 65536 in
set_option maxHeartbeats 40000000 in
theorem rm_si1_2 (l : Launch) (Z : State) (aT : Array Value) (hw : ∀ d ∈ tables_1, d.before aT Z = true) (ws : List Jvm.Cond) (a0 : Addr) (a1 : Addr) (kc : ClassId) (c0 : Int32) (c1 : Int32) (g1 : Int32) (h0 : Heap) (n0 : Nat) (Z0 : n0 ≤ h0.size) (hp0 : Exa Z h0 a0 "java/lang/String") (hp1 : Fld Z h0 a0 "java/lang/String" "value" "[B" .null) (hp2 : Fld Z h0 a0 "java/lang/String" "coder" "B" (.int (0 : Int32))) (hp3 : n0 ≤ a0) (hp4 : Arv Z h0 a1 kc .char (2 : Int32) [(.int c0), (.int c1)] (.int (0 : Int32))) (hp5 : Sta Z h0 "java/lang/String" "COMPACT_STRINGS" "Z" (.int g1)) (hq0 : ¬ ((255 : Int32) < c0)) (hq1 : ¬ ((255 : Int32) < c1)) (hg1 : ¬ (g1 = (0 : Int32))) :
    MetFree l (⟨"java/lang/String", "<init>", "([C)V"⟩ : MethodName) (head1 (Jvm.Cond.code (⟨"java/lang/String", "<init>", "([C)V"⟩ : MethodName) jdk_42_method_3_code 2 none :: ws) ({ frames := 3, cells := 1, slots := 2, locals := 52 } : Room)) (fun a U => a = #[(.ref a0), (.ref a1)] ∧ Z.Warmed39 U.vm ∧ U.heap = h0) (fun _ _ _ _ _ => True) (fun _ U o U' => ∃ v L, o = .returned v ∧ Q_si1_2 Z a0 a1 kc c0 c1 g1 h0 n0 v U'.heap L ∧ FrameEnd U o U' L ({ frames := 3, cells := 1, slots := 2, locals := 52 } : Room).cells ({ frames := 3, cells := 1, slots := 2, locals := 52 } : Room).slots) := by
  refine MetFree.of_bodySF (plainFor_of_name pn1) hisR ?_
  intro p e s m args below meth c s₁ Bd hml0 hP hK
  obtain ⟨rfl, hZ, hh⟩ := hP
  have hx := Bd.exec
  have hby := Bd.bytes
  have hml : c.maxLocals = 2 := hml0
  have hown : s.vm.findClass "java/lang/String" = some m.cls := findClass_of_methodNamed Bd.named
  have hnm := (name_of_methodNamed Bd.named Bd.method).1
  have hlk := Bd.notSynchronized
  have hrt := Bd.returns
  have X0 : Stand p l e ({ frames := 3, cells := 1, slots := 2, locals := 52 } : Room) s m #[(.ref a0), (.ref a1)] below meth c s₁ [] 0 0 := Stand.of_body Bd
  have e0 : s₁.heap = h0 := by rw [← hh, Bd.state]; rfl
  have N0 := Fr.nil n0
  refine own_cast (P := own_End s (Q_si1_2 Z a0 a1 kc c0 c1 g1 h0 n0) ({ frames := 3, cells := 1, slots := 2, locals := 52 } : Room).cells ({ frames := 3, cells := 1, slots := 2, locals := 52 } : Room).slots) (ef_si1_2 m a0 a1) ?_
  refine g_aloadN X0 hx hby d_si1_2_0 rfl rfl (rfl : 0 + 1 = 1) ?_
  refine g_aloadN X0 hx hby d_si1_2_1 rfl rfl (rfl : 1 + 1 = 2) ?_
  refine g_iconst X0 hx hby (0 : Int32) d_si1_2_2 (by decide) (rfl : 2 + 1 = 3) ?_
  refine g_aloadN X0 hx hby d_si1_2_3 rfl rfl (rfl : 3 + 1 = 4) ?_
  refine g_alen X0 hx hby hZ e0 hp4 d_si1_2_4 (rfl : 4 + 1 = 5) ?_
  refine g_anull X0 hx hby d_si1_2_5 (rfl : 5 + 1 = 6) ?_
  obtain ⟨_, _, ⟨T56, L56, k56, n56⟩, -, X56, ⟨Lc56, hQ56, l56, y56, z56⟩, st56⟩ := X0.specialBack hx (y := (⟨"java/lang/String", "<init>", "([CIILjava/lang/Void;)V"⟩ : MethodName)) rfl hown (mvT hZ (hw _ (List.mem_of_getElem? (i := 11) rfl))) (mvT hZ (hw _ (List.mem_of_getElem? (i := 12) rfl))) (mvT hZ (hw _ (List.mem_of_getElem? (i := 14) rfl))) (by decide) (backOf (W := 0) (rm_si2_2 l Z aT hw [] a0 a1 kc c0 c1 g1 h0 n0 Z0 hp0 hp1 hp2 hp3 hp4 hp5 hq0 hq1 hg1) hZ (hw _ (List.mem_of_getElem? (i := 14) rfl)) (hw _ (List.mem_of_getElem? (i := 6) rfl)) (by decide) (by decide)) (g := (mkF m 6 #[.val (.ref a0), .val (.ref a1)] [.null, (.int (2 : Int32)), (.int (0 : Int32)), (.ref a1), (.ref a0)])) rfl (by rw [hml]; rfl) (Steps.refl _) (a := a0) (argsL := [(.ref a1), (.int (0 : Int32)), (.int (2 : Int32)), .null]) (rest := []) (lenOf pd3 rfl) rfl (by show 2 * 0 + _ ≤ _; exact Nat.le_of_eq rfl) (hb hby d_si1_2_6) (fun _ _ => ⟨rfl, e0, (by decide : 0 + 1 ≤ _), (by decide : 0 + 2 ≤ _)⟩)
  dsimp only [Pt.U, Pt.locs, Pt.cells, Pt.slots] at X56 l56 y56 z56 st56 hQ56
  subst l56 y56 z56
  obtain ⟨ob_56, kb_56, rfl, N56q, K56, q56_0, q56_1, q56_2, q56_3, q56_4, q56_5⟩ := hQ56
  have N56 := Fr.app N0 N56q
  have Z56 : n0 ≤ T56.heap.size := Nat.le_trans Z0 K56.1
  have KC56 : Keep h0 T56.heap [a0] := (Keep.refl h0 [a0]).trans K56 (allS (Or.inl (List.mem_of_getElem? (i := 0) rfl)) all0)
  have ne57 : a0 ≠ ob_56 := Nat.ne_of_lt (Nat.lt_of_lt_of_le (hp0).lt q56_3)
  have ne58 : a1 ≠ ob_56 := Nat.ne_of_lt (Nat.lt_of_lt_of_le (hp4).lt q56_3)
  have ge59 : n0 ≤ ob_56 := Nat.le_trans Z0 q56_3
  have sz60 : h0.size ≤ ob_56 := Nat.le_trans (Keep.refl h0 [a0]).1 q56_3
  refine own_tr st56 ?_
  show own_Got p e below _ T56 (mkF m 9 #[.val (.ref a0), .val (.ref a1)] [])
  refine own_retV X56 hx hby hlk hrt d_si1_2_9 (by decide) (by decide) ?_
  show Q_si1_2 Z a0 a1 kc c0 c1 g1 h0 n0 _ T56.heap _
  exact ⟨ob_56, kb_56, rfl, N56, KC56, q56_0, q56_1, q56_2, sz60, q56_4, q56_5⟩
theorem d_tx0_0 : decode method_2_code 0 = .ok (.iload_n 0, 1) := by decide +kernel
theorem d_tx0_1 : decode method_2_code 1 = .ok (.sipush 255, 3) := by decide +kernel
theorem d_tx0_4 : decode method_2_code 4 = .ok (.iand, 1) := by decide +kernel
theorem d_tx0_5 : decode method_2_code 5 = .ok (.i2c, 1) := by decide +kernel
theorem d_tx0_6 : decode method_2_code 6 = .ok (.istore_n 2, 1) := by decide +kernel
theorem d_tx0_7 : decode method_2_code 7 = .ok (.iload_n 0, 1) := by decide +kernel
theorem d_tx0_8 : decode method_2_code 8 = .ok (.bipush 8, 2) := by decide +kernel
theorem d_tx0_10 : decode method_2_code 10 = .ok (.iushr, 1) := by decide +kernel
theorem d_tx0_11 : decode method_2_code 11 = .ok (.sipush 255, 3) := by decide +kernel
theorem d_tx0_14 : decode method_2_code 14 = .ok (.iand, 1) := by decide +kernel
theorem d_tx0_15 : decode method_2_code 15 = .ok (.i2c, 1) := by decide +kernel
theorem d_tx0_16 : decode method_2_code 16 = .ok (.istore_n 3, 1) := by decide +kernel
theorem d_tx0_17 : decode method_2_code 17 = .ok (.iload_n 1, 1) := by decide +kernel
theorem d_tx0_18 : decode method_2_code 18 = .ok (.ifCond .eq 22, 3) := by decide +kernel
theorem d_tx0_40 : decode method_2_code 40 = .ok (.new 7, 3) := by decide +kernel
theorem d_tx0_43 : decode method_2_code 43 = .ok (.dup, 1) := by decide +kernel
theorem d_tx0_44 : decode method_2_code 44 = .ok (.iconst 1, 1) := by decide +kernel
theorem d_tx0_45 : decode method_2_code 45 = .ok (.newarray .char, 2) := by decide +kernel
theorem d_tx0_47 : decode method_2_code 47 = .ok (.dup, 1) := by decide +kernel
theorem d_tx0_48 : decode method_2_code 48 = .ok (.iconst 0, 1) := by decide +kernel
theorem d_tx0_49 : decode method_2_code 49 = .ok (.iload_n 2, 1) := by decide +kernel
theorem d_tx0_50 : decode method_2_code 50 = .ok (.castore, 1) := by decide +kernel
theorem d_tx0_51 : decode method_2_code 51 = .ok (.invokespecial 9, 3) := by decide +kernel
theorem d_tx0_54 : decode method_2_code 54 = .ok (.areturn, 1) := by decide +kernel
theorem pn2 : plainName "com/example/graftwork/graftwork/VerdictIgnoredPinLaw" = true := by first | (simp [plainName, overriddenIn]; done) | decide +kernel
theorem pd4 : parseMethodDescriptor "([C)V" = some ⟨[(.array .char)], none⟩ := by decide +kernel
theorem ef_tx0 (m : MethodId) (x0 : Int32) : entryFrame m #[(.int x0), (.int (0 : Int32))] 4 = mkF m 0 #[.val (.int x0), .val (.int (0 : Int32)), .unset, .unset] [] := by first | (simp [entryFrame, mkF, argsToLocals, Value.category]; done) | rfl
def Q_tx0 (Z : State) (x0 : Int32) (g1 : Int32) (h0 : Heap) (n0 : Nat) (v : Option Value) (h : Heap) (L : List Loc) : Prop := ∃ (os : Addr), v = some (.ref os) ∧ Fr n0 L ∧ Keep h0 h [] ∧ h0.size ≤ os ∧ Exa Z h os "java/lang/String"
set_option maxRecDepth 65536 in
set_option maxHeartbeats 40000000 in
theorem rm_tx0 (l : Launch) (Z : State) (aT : Array Value) (hw : ∀ d ∈ tables_1, d.before aT Z = true) (ws : List Jvm.Cond) (x0 : Int32) (g1 : Int32) (h0 : Heap) (n0 : Nat) (Z0 : n0 ≤ h0.size) (hp0 : Sta Z h0 "java/lang/String" "COMPACT_STRINGS" "Z" (.int g1)) (hg1 : ¬ (g1 = (0 : Int32))) :
    MetFree l (⟨"com/example/graftwork/graftwork/VerdictIgnoredPinLaw", "text", "(IZ)Ljava/lang/String;"⟩ : MethodName) (head1 (Jvm.Cond.code (⟨"com/example/graftwork/graftwork/VerdictIgnoredPinLaw", "text", "(IZ)Ljava/lang/String;"⟩ : MethodName) method_2_code 4 (some (.object "java/lang/String")) :: ws) ({ frames := 4, cells := 3, slots := 6, locals := 66 } : Room)) (fun a U => a = #[(.int x0), (.int (0 : Int32))] ∧ Z.Warmed39 U.vm ∧ U.heap = h0) (fun _ _ _ _ _ => True) (fun _ U o U' => ∃ v L, o = .returned v ∧ Q_tx0 Z x0 g1 h0 n0 v U'.heap L ∧ FrameEnd U o U' L ({ frames := 4, cells := 3, slots := 6, locals := 66 } : Room).cells ({ frames := 4, cells := 3, slots := 6, locals := 66 } : Room).slots) := by
  refine MetFree.of_bodySF (plainFor_of_name pn2) hisR ?_
  intro p e s m args below meth c s₁ Bd hml0 hP hK
  obtain ⟨rfl, hZ, hh⟩ := hP
  have hx := Bd.exec
  have hby := Bd.bytes
  have hml : c.maxLocals = 4 := hml0
  have hown : s.vm.findClass "com/example/graftwork/graftwork/VerdictIgnoredPinLaw" = some m.cls := findClass_of_methodNamed Bd.named
  have hnm := (name_of_methodNamed Bd.named Bd.method).1
  have hlk := Bd.notSynchronized
  have hrt := Bd.returns
  have X0 : Stand p l e ({ frames := 4, cells := 3, slots := 6, locals := 66 } : Room) s m #[(.int x0), (.int (0 : Int32))] below meth c s₁ [] 0 0 := Stand.of_body Bd
  have e0 : s₁.heap = h0 := by rw [← hh, Bd.state]; rfl
  have N0 := Fr.nil n0
  refine own_cast (P := own_End s (Q_tx0 Z x0 g1 h0 n0) ({ frames := 4, cells := 3, slots := 6, locals := 66 } : Room).cells ({ frames := 4, cells := 3, slots := 6, locals := 66 } : Room).slots) (ef_tx0 m x0) ?_
  refine g_iloadN X0 hx hby d_tx0_0 rfl (rfl : 0 + 1 = 1) ?_
  refine g_sipush X0 hx hby (255 : Int32) d_tx0_1 (by decide) (rfl : 1 + 3 = 4) ?_
  refine g_iand X0 hx hby d_tx0_4 (rfl : 4 + 1 = 5) ?_
  refine g_i2c X0 hx hby d_tx0_5 (rfl : 5 + 1 = 6) ?_
  refine g_istoreN X0 hx hby #[.val (.int x0), .val (.int (0 : Int32)), .val (.int ((x0 &&& (255 : Int32)).toUInt32.toUInt16.toUInt32.toInt32)), .unset] d_tx0_6 rfl (rfl : 6 + 1 = 7) ?_
  refine g_iloadN X0 hx hby d_tx0_7 rfl (rfl : 7 + 1 = 8) ?_
  refine g_bipush X0 hx hby (8 : Int32) d_tx0_8 (by decide) (rfl : 8 + 2 = 10) ?_
  refine g_iushr X0 hx hby d_tx0_10 (rfl : 10 + 1 = 11) ?_
  refine g_sipush X0 hx hby (255 : Int32) d_tx0_11 (by decide) (rfl : 11 + 3 = 14) ?_
  refine g_iand X0 hx hby d_tx0_14 (rfl : 14 + 1 = 15) ?_
  refine g_i2c X0 hx hby d_tx0_15 (rfl : 15 + 1 = 16) ?_
  refine g_istoreN X0 hx hby #[.val (.int x0), .val (.int (0 : Int32)), .val (.int ((x0 &&& (255 : Int32)).toUInt32.toUInt16.toUInt32.toInt32)), .val (.int ((((x0.toUInt32 >>> ((8 : Int32) &&& 31).toUInt32).toInt32) &&& (255 : Int32)).toUInt32.toUInt16.toUInt32.toInt32))] d_tx0_16 rfl (rfl : 16 + 1 = 17) ?_
  refine g_iloadN X0 hx hby d_tx0_17 rfl (rfl : 17 + 1 = 18) ?_
  refine g_ifT X0 hx hby d_tx0_18 ((if0 _ _).trans (teq (by decide : (0 : Int32) = (0 : Int32))).1) (by decide) (pc' := 40) (by decide) ?_
  obtain ⟨T61, h61, X61, e61, E61, A61, D61, -, st61⟩ := newO X0 hx hZ hown (hw _ (List.mem_of_getElem? (i := 4) rfl)) (hw _ (List.mem_of_getElem? (i := 5) rfl)) (hw _ (List.mem_of_getElem? (i := 6) rfl)) e0 (g := (mkF m 40 #[.val (.int x0), .val (.int (0 : Int32)), .val (.int ((x0 &&& (255 : Int32)).toUInt32.toUInt16.toUInt32.toInt32)), .val (.int ((((x0.toUInt32 >>> ((8 : Int32) &&& 31).toUInt32).toInt32) &&& (255 : Int32)).toUInt32.toUInt16.toUInt32.toInt32))] [])) rfl (hb hby d_tx0_40) (by decide) (by decide)
  obtain ⟨b61, g61⟩ : ∃ z, z = h0.size := ⟨_, rfl⟩
  rw [← g61] at A61 D61 st61
  have Z61 : n0 ≤ h61.size := Nat.le_trans Z0 E61.1
  have K61 : Keep h0 h61 [] := (Keep.refl h0 []).ext E61
  have ge61 : n0 ≤ b61 := Nat.le_trans Z0 (Nat.le_of_eq g61.symm)
  have sz61 : h0.size ≤ b61 := Nat.le_trans (Keep.refl h0 []).1 (Nat.le_of_eq g61.symm)
  have f62 : Fld Z h61 b61 "java/lang/String" "coder" "B" (.int (0 : Int32)) := D61 (Or.inr (hw _ (List.mem_of_getElem? (i := 31) rfl))) (ty := .byte) (by decide)
  have f63 : Fld Z h61 b61 "java/lang/String" "value" "[B" .null := D61 (Or.inr (hw _ (List.mem_of_getElem? (i := 33) rfl))) (ty := (.array .byte)) (by decide)
  refine own_go st61 ?_
  show own_Got p e below _ T61 (mkF m 43 #[.val (.int x0), .val (.int (0 : Int32)), .val (.int ((x0 &&& (255 : Int32)).toUInt32.toUInt16.toUInt32.toInt32)), .val (.int ((((x0.toUInt32 >>> ((8 : Int32) &&& 31).toUInt32).toInt32) &&& (255 : Int32)).toUInt32.toUInt16.toUInt32.toInt32))] [(.ref b61)])
  refine g_dup X61 hx hby d_tx0_43 rfl (rfl : 43 + 1 = 44) ?_
  refine g_iconst X61 hx hby (1 : Int32) d_tx0_44 (by decide) (rfl : 44 + 1 = 45) ?_
  obtain ⟨T64, h64, k64, X64, e64, E64, A64, B64, st64⟩ := newPE X61 hx hZ (hw _ (List.mem_of_getElem? (i := 7) rfl)) e61 (g := (mkF m 45 #[.val (.int x0), .val (.int (0 : Int32)), .val (.int ((x0 &&& (255 : Int32)).toUInt32.toUInt16.toUInt32.toInt32)), .val (.int ((((x0.toUInt32 >>> ((8 : Int32) &&& 31).toUInt32).toInt32) &&& (255 : Int32)).toUInt32.toUInt16.toUInt32.toInt32))] [(.int (1 : Int32)), (.ref b61), (.ref b61)])) rfl (hb hby d_tx0_45) rfl (by decide) (cap := 1) (by decide) (by decide) (by decide) (by decide) (ad := "[C") (by decide +kernel)
  obtain ⟨b64, g64⟩ : ∃ z, z = h61.size := ⟨_, rfl⟩
  rw [← g64] at A64 B64 st64
  have ne65 : b61 ≠ b64 := Nat.ne_of_lt (Nat.lt_of_lt_of_le (A61).lt (Nat.le_of_eq g64.symm))
  have Z64 : n0 ≤ h64.size := Nat.le_trans Z61 E64.1
  have K64 : Keep h0 h64 [] := K61.ext E64
  have ge64 : n0 ≤ b64 := Nat.le_trans Z61 (Nat.le_of_eq g64.symm)
  have sz64 : h0.size ≤ b64 := Nat.le_trans K61.1 (Nat.le_of_eq g64.symm)
  have V64 : Arv Z h64 b64 k64 .char (1 : Int32) [(.int (0 : Int32))] (.int (0 : Int32)) := (Arv.new A64 (by decide)).pad (pad_rep [] _ 1)
  refine own_go st64 ?_
  show own_Got p e below _ T64 (mkF m 47 #[.val (.int x0), .val (.int (0 : Int32)), .val (.int ((x0 &&& (255 : Int32)).toUInt32.toUInt16.toUInt32.toInt32)), .val (.int ((((x0.toUInt32 >>> ((8 : Int32) &&& 31).toUInt32).toInt32) &&& (255 : Int32)).toUInt32.toUInt16.toUInt32.toInt32))] [(.ref b64), (.ref b61), (.ref b61)])
  refine g_dup X64 hx hby d_tx0_47 rfl (rfl : 47 + 1 = 48) ?_
  refine g_iconst X64 hx hby (0 : Int32) d_tx0_48 (by decide) (rfl : 48 + 1 = 49) ?_
  refine g_iloadN X64 hx hby d_tx0_49 rfl (rfl : 49 + 1 = 50) ?_
  obtain ⟨T66, h66, X66, e66, W66, V66, st66⟩ := a_castore X64 hx hby hZ e64 (ls := #[.val (.int x0), .val (.int (0 : Int32)), .val (.int ((x0 &&& (255 : Int32)).toUInt32.toUInt16.toUInt32.toInt32)), .val (.int ((((x0.toUInt32 >>> ((8 : Int32) &&& 31).toUInt32).toInt32) &&& (255 : Int32)).toUInt32.toUInt16.toUInt32.toInt32))]) (st := [(.ref b64), (.ref b61), (.ref b61)]) (j := (0 : Int32)) ((x0 &&& (255 : Int32)).toUInt32.toUInt16.toUInt32.toInt32) 0 V64 ⟨by decide, by decide⟩ (by decide) (Nat.le_of_ble_eq_true rfl) d_tx0_50
  have Z66 : n0 ≤ h66.size := Nat.le_trans Z64 (Keep.of_wr W66).1
  have N66 := Fr.snoc X66 N0 ge64
  have K66 : Keep h0 h66 [] := K64.wr W66 (Or.inr sz64)
  have V66' : Arv Z h66 b64 k64 .char (1 : Int32) [(.int ((x0 &&& (255 : Int32)).toUInt32.toUInt16.toUInt32.toInt32))] (.int (0 : Int32)) := by have q := V66; rw [own_nc] at q; exact q
  refine own_go st66 ?_
  show own_Got p e below _ T66 (mkF m 51 #[.val (.int x0), .val (.int (0 : Int32)), .val (.int ((x0 &&& (255 : Int32)).toUInt32.toUInt16.toUInt32.toInt32)), .val (.int ((((x0.toUInt32 >>> ((8 : Int32) &&& 31).toUInt32).toInt32) &&& (255 : Int32)).toUInt32.toUInt16.toUInt32.toInt32))] [(.ref b64), (.ref b61), (.ref b61)])
  have f68 : Exa Z h66 b61 "java/lang/String" := (Exa.wr W66 (Exa.ext E64 A61))
  have f69 : Fld Z h66 b61 "java/lang/String" "value" "[B" .null := (Fld.other W66 (Fld.ext E64 f63) (Or.inl ne65))
  have f70 : Fld Z h66 b61 "java/lang/String" "coder" "B" (.int (0 : Int32)) := (Fld.other W66 (Fld.ext E64 f62) (Or.inl ne65))
  have f71 : Sta Z h66 "java/lang/String" "COMPACT_STRINGS" "Z" (.int g1) := (Sta.wr W66 (Sta.ext E64 (Sta.ext E61 hp0)))
  have f72 : Exa Z h66 b64 "[C" := (Exa.wr W66 B64)
  obtain ⟨_, _, ⟨T67, L67, k67, n67⟩, -, X67, ⟨Lc67, hQ67, l67, y67, z67⟩, st67⟩ := X66.specialBack hx (y := (⟨"java/lang/String", "<init>", "([C)V"⟩ : MethodName)) rfl hown (mvT hZ (hw _ (List.mem_of_getElem? (i := 8) rfl))) (mvT hZ (hw _ (List.mem_of_getElem? (i := 9) rfl))) (mvT hZ (hw _ (List.mem_of_getElem? (i := 10) rfl))) (by decide) (backOf (W := 1) (rm_si1_1 l Z aT hw [] b61 b64 k64 ((x0 &&& (255 : Int32)).toUInt32.toUInt16.toUInt32.toInt32) g1 h66 n0 Z66 f68 f69 f70 ge61 V66' f71 (own_c255 _ : ¬ ((255 : Int32) < ((x0 &&& (255 : Int32)).toUInt32.toUInt16.toUInt32.toInt32))) hg1) hZ (hw _ (List.mem_of_getElem? (i := 10) rfl)) (hw _ (List.mem_of_getElem? (i := 6) rfl)) (by decide) (by decide)) (g := (mkF m 51 #[.val (.int x0), .val (.int (0 : Int32)), .val (.int ((x0 &&& (255 : Int32)).toUInt32.toUInt16.toUInt32.toInt32)), .val (.int ((((x0.toUInt32 >>> ((8 : Int32) &&& 31).toUInt32).toInt32) &&& (255 : Int32)).toUInt32.toUInt16.toUInt32.toInt32))] [(.ref b64), (.ref b61), (.ref b61)])) rfl (by rw [hml]; rfl) (Steps.refl _) (a := b61) (argsL := [(.ref b64)]) (rest := [(.ref b61)]) (lenOf pd4 rfl) rfl (by show 2 * 0 + _ ≤ _; exact Nat.le_of_eq rfl) (hb hby d_tx0_51) (fun _ _ => ⟨rfl, e66, (by decide : 2 + 1 ≤ _), (by decide : 5 + 1 ≤ _)⟩)
  dsimp only [Pt.U, Pt.locs, Pt.cells, Pt.slots] at X67 l67 y67 z67 st67 hQ67
  subst l67 y67 z67
  obtain ⟨ob_67, kb_67, rfl, N67q, K67, q67_0, q67_1, q67_2, q67_3, q67_4, q67_5⟩ := hQ67
  have N67 := Fr.app N66 N67q
  have Z67 : n0 ≤ T67.heap.size := Nat.le_trans Z66 K67.1
  have KC67 : Keep h0 T67.heap [] := K66.trans K67 (allS (Or.inr sz61) all0)
  have ne73 : b61 ≠ ob_67 := Nat.ne_of_lt (Nat.lt_of_lt_of_le (f68).lt q67_3)
  have ne74 : b64 ≠ ob_67 := Nat.ne_of_lt (Nat.lt_of_lt_of_le (f72).lt q67_3)
  have ge75 : n0 ≤ ob_67 := Nat.le_trans Z66 q67_3
  have sz76 : h0.size ≤ ob_67 := Nat.le_trans K66.1 q67_3
  refine own_tr st67 ?_
  show own_Got p e below _ T67 (mkF m 54 #[.val (.int x0), .val (.int (0 : Int32)), .val (.int ((x0 &&& (255 : Int32)).toUInt32.toUInt16.toUInt32.toInt32)), .val (.int ((((x0.toUInt32 >>> ((8 : Int32) &&& 31).toUInt32).toInt32) &&& (255 : Int32)).toUInt32.toUInt16.toUInt32.toInt32))] [(.ref b61)])
  refine own_retR X67 hx hby hlk hrt rfl d_tx0_54 (by decide) (by decide) rfl ?_
  show Q_tx0 Z x0 g1 h0 n0 _ T67.heap _
  exact ⟨b61, rfl, N67, KC67, sz61, q67_0⟩
theorem d_tx1_0 : decode method_2_code 0 = .ok (.iload_n 0, 1) := by decide +kernel
theorem d_tx1_1 : decode method_2_code 1 = .ok (.sipush 255, 3) := by decide +kernel
theorem d_tx1_4 : decode method_2_code 4 = .ok (.iand, 1) := by decide +kernel
theorem d_tx1_5 : decode method_2_code 5 = .ok (.i2c, 1) := by decide +kernel
theorem d_tx1_6 : decode method_2_code 6 = .ok (.istore_n 2, 1) := by decide +kernel
theorem d_tx1_7 : decode method_2_code 7 = .ok (.iload_n 0, 1) := by decide +kernel
theorem d_tx1_8 : decode method_2_code 8 = .ok (.bipush 8, 2) := by decide +kernel
theorem d_tx1_10 : decode method_2_code 10 = .ok (.iushr, 1) := by decide +kernel
theorem d_tx1_11 : decode method_2_code 11 = .ok (.sipush 255, 3) := by decide +kernel
theorem d_tx1_14 : decode method_2_code 14 = .ok (.iand, 1) := by decide +kernel
theorem d_tx1_15 : decode method_2_code 15 = .ok (.i2c, 1) := by decide +kernel
theorem d_tx1_16 : decode method_2_code 16 = .ok (.istore_n 3, 1) := by decide +kernel
theorem d_tx1_17 : decode method_2_code 17 = .ok (.iload_n 1, 1) := by decide +kernel
theorem d_tx1_18 : decode method_2_code 18 = .ok (.ifCond .eq 22, 3) := by decide +kernel
theorem d_tx1_21 : decode method_2_code 21 = .ok (.new 7, 3) := by decide +kernel
theorem d_tx1_24 : decode method_2_code 24 = .ok (.dup, 1) := by decide +kernel
theorem d_tx1_25 : decode method_2_code 25 = .ok (.iconst 2, 1) := by decide +kernel
theorem d_tx1_26 : decode method_2_code 26 = .ok (.newarray .char, 2) := by decide +kernel
theorem d_tx1_28 : decode method_2_code 28 = .ok (.dup, 1) := by decide +kernel
theorem d_tx1_29 : decode method_2_code 29 = .ok (.iconst 0, 1) := by decide +kernel
theorem d_tx1_30 : decode method_2_code 30 = .ok (.iload_n 2, 1) := by decide +kernel
theorem d_tx1_31 : decode method_2_code 31 = .ok (.castore, 1) := by decide +kernel
theorem d_tx1_32 : decode method_2_code 32 = .ok (.dup, 1) := by decide +kernel
theorem d_tx1_33 : decode method_2_code 33 = .ok (.iconst 1, 1) := by decide +kernel
theorem d_tx1_34 : decode method_2_code 34 = .ok (.iload_n 3, 1) := by decide +kernel
theorem d_tx1_35 : decode method_2_code 35 = .ok (.castore, 1) := by decide +kernel
theorem d_tx1_36 : decode method_2_code 36 = .ok (.invokespecial 9, 3) := by decide +kernel
theorem d_tx1_39 : decode method_2_code 39 = .ok (.areturn, 1) := by decide +kernel
theorem ef_tx1 (m : MethodId) (x0 : Int32) : entryFrame m #[(.int x0), (.int (1 : Int32))] 4 = mkF m 0 #[.val (.int x0), .val (.int (1 : Int32)), .unset, .unset] [] := by first | (simp [entryFrame, mkF, argsToLocals, Value.category]; done) | rfl
def Q_tx1 (Z : State) (x0 : Int32) (g1 : Int32) (h0 : Heap) (n0 : Nat) (v : Option Value) (h : Heap) (L : List Loc) : Prop := ∃ (os : Addr), v = some (.ref os) ∧ Fr n0 L ∧ Keep h0 h [] ∧ h0.size ≤ os ∧ Exa Z h os "java/lang/String"
set_option maxRecDepth 65536 in
set_option maxHeartbeats 40000000 in
theorem rm_tx1 (l : Launch) (Z : State) (aT : Array Value) (hw : ∀ d ∈ tables_1, d.before aT Z = true) (ws : List Jvm.Cond) (x0 : Int32) (g1 : Int32) (h0 : Heap) (n0 : Nat) (Z0 : n0 ≤ h0.size) (hp0 : Sta Z h0 "java/lang/String" "COMPACT_STRINGS" "Z" (.int g1)) (hg1 : ¬ (g1 = (0 : Int32))) :
    MetFree l (⟨"com/example/graftwork/graftwork/VerdictIgnoredPinLaw", "text", "(IZ)Ljava/lang/String;"⟩ : MethodName) (head1 (Jvm.Cond.code (⟨"com/example/graftwork/graftwork/VerdictIgnoredPinLaw", "text", "(IZ)Ljava/lang/String;"⟩ : MethodName) method_2_code 4 (some (.object "java/lang/String")) :: ws) ({ frames := 4, cells := 3, slots := 8, locals := 66 } : Room)) (fun a U => a = #[(.int x0), (.int (1 : Int32))] ∧ Z.Warmed39 U.vm ∧ U.heap = h0) (fun _ _ _ _ _ => True) (fun _ U o U' => ∃ v L, o = .returned v ∧ Q_tx1 Z x0 g1 h0 n0 v U'.heap L ∧ FrameEnd U o U' L ({ frames := 4, cells := 3, slots := 8, locals := 66 } : Room).cells ({ frames := 4, cells := 3, slots := 8, locals := 66 } : Room).slots) := by
  refine MetFree.of_bodySF (plainFor_of_name pn2) hisR ?_
  intro p e s m args below meth c s₁ Bd hml0 hP hK
  obtain ⟨rfl, hZ, hh⟩ := hP
  have hx := Bd.exec
  have hby := Bd.bytes
  have hml : c.maxLocals = 4 := hml0
  have hown : s.vm.findClass "com/example/graftwork/graftwork/VerdictIgnoredPinLaw" = some m.cls := findClass_of_methodNamed Bd.named
  have hnm := (name_of_methodNamed Bd.named Bd.method).1
  have hlk := Bd.notSynchronized
  have hrt := Bd.returns
  have X0 : Stand p l e ({ frames := 4, cells := 3, slots := 8, locals := 66 } : Room) s m #[(.int x0), (.int (1 : Int32))] below meth c s₁ [] 0 0 := Stand.of_body Bd
  have e0 : s₁.heap = h0 := by rw [← hh, Bd.state]; rfl
  have N0 := Fr.nil n0
  refine own_cast (P := own_End s (Q_tx1 Z x0 g1 h0 n0) ({ frames := 4, cells := 3, slots := 8, locals := 66 } : Room).cells ({ frames := 4, cells := 3, slots := 8, locals := 66 } : Room).slots) (ef_tx1 m x0) ?_
  refine g_iloadN X0 hx hby d_tx1_0 rfl (rfl : 0 + 1 = 1) ?_
  refine g_sipush X0 hx hby (255 : Int32) d_tx1_1 (by decide) (rfl : 1 + 3 = 4) ?_
  refine g_iand X0 hx hby d_tx1_4 (rfl : 4 + 1 = 5) ?_
  refine g_i2c X0 hx hby d_tx1_5 (rfl : 5 + 1 = 6) ?_
  refine g_istoreN X0 hx hby #[.val (.int x0), .val (.int (1 : Int32)), .val (.int ((x0 &&& (255 : Int32)).toUInt32.toUInt16.toUInt32.toInt32)), .unset] d_tx1_6 rfl (rfl : 6 + 1 = 7) ?_
  refine g_iloadN X0 hx hby d_tx1_7 rfl (rfl : 7 + 1 = 8) ?_
  refine g_bipush X0 hx hby (8 : Int32) d_tx1_8 (by decide) (rfl : 8 + 2 = 10) ?_
  refine g_iushr X0 hx hby d_tx1_10 (rfl : 10 + 1 = 11) ?_
  refine g_sipush X0 hx hby (255 : Int32) d_tx1_11 (by decide) (rfl : 11 + 3 = 14) ?_
  refine g_iand X0 hx hby d_tx1_14 (rfl : 14 + 1 = 15) ?_
  refine g_i2c X0 hx hby d_tx1_15 (rfl : 15 + 1 = 16) ?_
  refine g_istoreN X0 hx hby #[.val (.int x0), .val (.int (1 : Int32)), .val (.int ((x0 &&& (255 : Int32)).toUInt32.toUInt16.toUInt32.toInt32)), .val (.int ((((x0.toUInt32 >>> ((8 : Int32) &&& 31).toUInt32).toInt32) &&& (255 : Int32)).toUInt32.toUInt16.toUInt32.toInt32))] d_tx1_16 rfl (rfl : 16 + 1 = 17) ?_
  refine g_iloadN X0 hx hby d_tx1_17 rfl (rfl : 17 + 1 = 18) ?_
  refine g_ifF X0 hx hby d_tx1_18 ((if0 _ _).trans (feq (by decide : ¬ ((1 : Int32) = (0 : Int32)))).1) (rfl : 18 + 3 = 21) ?_
  obtain ⟨T77, h77, X77, e77, E77, A77, D77, -, st77⟩ := newO X0 hx hZ hown (hw _ (List.mem_of_getElem? (i := 4) rfl)) (hw _ (List.mem_of_getElem? (i := 5) rfl)) (hw _ (List.mem_of_getElem? (i := 6) rfl)) e0 (g := (mkF m 21 #[.val (.int x0), .val (.int (1 : Int32)), .val (.int ((x0 &&& (255 : Int32)).toUInt32.toUInt16.toUInt32.toInt32)), .val (.int ((((x0.toUInt32 >>> ((8 : Int32) &&& 31).toUInt32).toInt32) &&& (255 : Int32)).toUInt32.toUInt16.toUInt32.toInt32))] [])) rfl (hb hby d_tx1_21) (by decide) (by decide)
  obtain ⟨b77, g77⟩ : ∃ z, z = h0.size := ⟨_, rfl⟩
  rw [← g77] at A77 D77 st77
  have Z77 : n0 ≤ h77.size := Nat.le_trans Z0 E77.1
  have K77 : Keep h0 h77 [] := (Keep.refl h0 []).ext E77
  have ge77 : n0 ≤ b77 := Nat.le_trans Z0 (Nat.le_of_eq g77.symm)
  have sz77 : h0.size ≤ b77 := Nat.le_trans (Keep.refl h0 []).1 (Nat.le_of_eq g77.symm)
  have f78 : Fld Z h77 b77 "java/lang/String" "coder" "B" (.int (0 : Int32)) := D77 (Or.inr (hw _ (List.mem_of_getElem? (i := 31) rfl))) (ty := .byte) (by decide)
  have f79 : Fld Z h77 b77 "java/lang/String" "value" "[B" .null := D77 (Or.inr (hw _ (List.mem_of_getElem? (i := 33) rfl))) (ty := (.array .byte)) (by decide)
  refine own_go st77 ?_
  show own_Got p e below _ T77 (mkF m 24 #[.val (.int x0), .val (.int (1 : Int32)), .val (.int ((x0 &&& (255 : Int32)).toUInt32.toUInt16.toUInt32.toInt32)), .val (.int ((((x0.toUInt32 >>> ((8 : Int32) &&& 31).toUInt32).toInt32) &&& (255 : Int32)).toUInt32.toUInt16.toUInt32.toInt32))] [(.ref b77)])
  refine g_dup X77 hx hby d_tx1_24 rfl (rfl : 24 + 1 = 25) ?_
  refine g_iconst X77 hx hby (2 : Int32) d_tx1_25 (by decide) (rfl : 25 + 1 = 26) ?_
  obtain ⟨T80, h80, k80, X80, e80, E80, A80, B80, st80⟩ := newPE X77 hx hZ (hw _ (List.mem_of_getElem? (i := 7) rfl)) e77 (g := (mkF m 26 #[.val (.int x0), .val (.int (1 : Int32)), .val (.int ((x0 &&& (255 : Int32)).toUInt32.toUInt16.toUInt32.toInt32)), .val (.int ((((x0.toUInt32 >>> ((8 : Int32) &&& 31).toUInt32).toInt32) &&& (255 : Int32)).toUInt32.toUInt16.toUInt32.toInt32))] [(.int (2 : Int32)), (.ref b77), (.ref b77)])) rfl (hb hby d_tx1_26) rfl (by decide) (cap := 2) (by decide) (by decide) (by decide) (by decide) (ad := "[C") (by decide +kernel)
  obtain ⟨b80, g80⟩ : ∃ z, z = h77.size := ⟨_, rfl⟩
  rw [← g80] at A80 B80 st80
  have ne81 : b77 ≠ b80 := Nat.ne_of_lt (Nat.lt_of_lt_of_le (A77).lt (Nat.le_of_eq g80.symm))
  have Z80 : n0 ≤ h80.size := Nat.le_trans Z77 E80.1
  have K80 : Keep h0 h80 [] := K77.ext E80
  have ge80 : n0 ≤ b80 := Nat.le_trans Z77 (Nat.le_of_eq g80.symm)
  have sz80 : h0.size ≤ b80 := Nat.le_trans K77.1 (Nat.le_of_eq g80.symm)
  have V80 : Arv Z h80 b80 k80 .char (2 : Int32) [(.int (0 : Int32)), (.int (0 : Int32))] (.int (0 : Int32)) := (Arv.new A80 (by decide)).pad (pad_rep [] _ 2)
  refine own_go st80 ?_
  show own_Got p e below _ T80 (mkF m 28 #[.val (.int x0), .val (.int (1 : Int32)), .val (.int ((x0 &&& (255 : Int32)).toUInt32.toUInt16.toUInt32.toInt32)), .val (.int ((((x0.toUInt32 >>> ((8 : Int32) &&& 31).toUInt32).toInt32) &&& (255 : Int32)).toUInt32.toUInt16.toUInt32.toInt32))] [(.ref b80), (.ref b77), (.ref b77)])
  refine g_dup X80 hx hby d_tx1_28 rfl (rfl : 28 + 1 = 29) ?_
  refine g_iconst X80 hx hby (0 : Int32) d_tx1_29 (by decide) (rfl : 29 + 1 = 30) ?_
  refine g_iloadN X80 hx hby d_tx1_30 rfl (rfl : 30 + 1 = 31) ?_
  obtain ⟨T82, h82, X82, e82, W82, V82, st82⟩ := a_castore X80 hx hby hZ e80 (ls := #[.val (.int x0), .val (.int (1 : Int32)), .val (.int ((x0 &&& (255 : Int32)).toUInt32.toUInt16.toUInt32.toInt32)), .val (.int ((((x0.toUInt32 >>> ((8 : Int32) &&& 31).toUInt32).toInt32) &&& (255 : Int32)).toUInt32.toUInt16.toUInt32.toInt32))]) (st := [(.ref b80), (.ref b77), (.ref b77)]) (j := (0 : Int32)) ((x0 &&& (255 : Int32)).toUInt32.toUInt16.toUInt32.toInt32) 0 V80 ⟨by decide, by decide⟩ (by decide) (Nat.le_of_ble_eq_true rfl) d_tx1_31
  have Z82 : n0 ≤ h82.size := Nat.le_trans Z80 (Keep.of_wr W82).1
  have N82 := Fr.snoc X82 N0 ge80
  have K82 : Keep h0 h82 [] := K80.wr W82 (Or.inr sz80)
  have V82' : Arv Z h82 b80 k80 .char (2 : Int32) [(.int ((x0 &&& (255 : Int32)).toUInt32.toUInt16.toUInt32.toInt32)), (.int (0 : Int32))] (.int (0 : Int32)) := by have q := V82; rw [own_nc] at q; exact q
  refine own_go st82 ?_
  show own_Got p e below _ T82 (mkF m 32 #[.val (.int x0), .val (.int (1 : Int32)), .val (.int ((x0 &&& (255 : Int32)).toUInt32.toUInt16.toUInt32.toInt32)), .val (.int ((((x0.toUInt32 >>> ((8 : Int32) &&& 31).toUInt32).toInt32) &&& (255 : Int32)).toUInt32.toUInt16.toUInt32.toInt32))] [(.ref b80), (.ref b77), (.ref b77)])
  refine g_dup X82 hx hby d_tx1_32 rfl (rfl : 32 + 1 = 33) ?_
  refine g_iconst X82 hx hby (1 : Int32) d_tx1_33 (by decide) (rfl : 33 + 1 = 34) ?_
  refine g_iloadN X82 hx hby d_tx1_34 rfl (rfl : 34 + 1 = 35) ?_
  obtain ⟨T83, h83, X83, e83, W83, V83, st83⟩ := a_castore X82 hx hby hZ e82 (ls := #[.val (.int x0), .val (.int (1 : Int32)), .val (.int ((x0 &&& (255 : Int32)).toUInt32.toUInt16.toUInt32.toInt32)), .val (.int ((((x0.toUInt32 >>> ((8 : Int32) &&& 31).toUInt32).toInt32) &&& (255 : Int32)).toUInt32.toUInt16.toUInt32.toInt32))]) (st := [(.ref b80), (.ref b77), (.ref b77)]) (j := (1 : Int32)) ((((x0.toUInt32 >>> ((8 : Int32) &&& 31).toUInt32).toInt32) &&& (255 : Int32)).toUInt32.toUInt16.toUInt32.toInt32) 1 V82' ⟨by decide, by decide⟩ (by decide) (Nat.le_of_ble_eq_true rfl) d_tx1_35
  have Z83 : n0 ≤ h83.size := Nat.le_trans Z82 (Keep.of_wr W83).1
  have N83 := Fr.snoc X83 N82 ge80
  have K83 : Keep h0 h83 [] := K82.wr W83 (Or.inr sz80)
  have V83' : Arv Z h83 b80 k80 .char (2 : Int32) [(.int ((x0 &&& (255 : Int32)).toUInt32.toUInt16.toUInt32.toInt32)), (.int ((((x0.toUInt32 >>> ((8 : Int32) &&& 31).toUInt32).toInt32) &&& (255 : Int32)).toUInt32.toUInt16.toUInt32.toInt32))] (.int (0 : Int32)) := by have q := V83; rw [own_nc] at q; exact q
  refine own_go st83 ?_
  show own_Got p e below _ T83 (mkF m 36 #[.val (.int x0), .val (.int (1 : Int32)), .val (.int ((x0 &&& (255 : Int32)).toUInt32.toUInt16.toUInt32.toInt32)), .val (.int ((((x0.toUInt32 >>> ((8 : Int32) &&& 31).toUInt32).toInt32) &&& (255 : Int32)).toUInt32.toUInt16.toUInt32.toInt32))] [(.ref b80), (.ref b77), (.ref b77)])
  have f85 : Exa Z h83 b77 "java/lang/String" := (Exa.wr W83 (Exa.wr W82 (Exa.ext E80 A77)))
  have f86 : Fld Z h83 b77 "java/lang/String" "value" "[B" .null := (Fld.other W83 (Fld.other W82 (Fld.ext E80 f79) (Or.inl ne81)) (Or.inl ne81))
  have f87 : Fld Z h83 b77 "java/lang/String" "coder" "B" (.int (0 : Int32)) := (Fld.other W83 (Fld.other W82 (Fld.ext E80 f78) (Or.inl ne81)) (Or.inl ne81))
  have f88 : Sta Z h83 "java/lang/String" "COMPACT_STRINGS" "Z" (.int g1) := (Sta.wr W83 (Sta.wr W82 (Sta.ext E80 (Sta.ext E77 hp0))))
  have f89 : Exa Z h83 b80 "[C" := (Exa.wr W83 (Exa.wr W82 B80))
  obtain ⟨_, _, ⟨T84, L84, k84, n84⟩, -, X84, ⟨Lc84, hQ84, l84, y84, z84⟩, st84⟩ := X83.specialBack hx (y := (⟨"java/lang/String", "<init>", "([C)V"⟩ : MethodName)) rfl hown (mvT hZ (hw _ (List.mem_of_getElem? (i := 8) rfl))) (mvT hZ (hw _ (List.mem_of_getElem? (i := 9) rfl))) (mvT hZ (hw _ (List.mem_of_getElem? (i := 10) rfl))) (by decide) (backOf (W := 1) (rm_si1_2 l Z aT hw [] b77 b80 k80 ((x0 &&& (255 : Int32)).toUInt32.toUInt16.toUInt32.toInt32) ((((x0.toUInt32 >>> ((8 : Int32) &&& 31).toUInt32).toInt32) &&& (255 : Int32)).toUInt32.toUInt16.toUInt32.toInt32) g1 h83 n0 Z83 f85 f86 f87 ge77 V83' f88 (own_c255 _ : ¬ ((255 : Int32) < ((x0 &&& (255 : Int32)).toUInt32.toUInt16.toUInt32.toInt32))) (own_c255 _ : ¬ ((255 : Int32) < ((((x0.toUInt32 >>> ((8 : Int32) &&& 31).toUInt32).toInt32) &&& (255 : Int32)).toUInt32.toUInt16.toUInt32.toInt32))) hg1) hZ (hw _ (List.mem_of_getElem? (i := 10) rfl)) (hw _ (List.mem_of_getElem? (i := 6) rfl)) (by decide) (by decide)) (g := (mkF m 36 #[.val (.int x0), .val (.int (1 : Int32)), .val (.int ((x0 &&& (255 : Int32)).toUInt32.toUInt16.toUInt32.toInt32)), .val (.int ((((x0.toUInt32 >>> ((8 : Int32) &&& 31).toUInt32).toInt32) &&& (255 : Int32)).toUInt32.toUInt16.toUInt32.toInt32))] [(.ref b80), (.ref b77), (.ref b77)])) rfl (by rw [hml]; rfl) (Steps.refl _) (a := b77) (argsL := [(.ref b80)]) (rest := [(.ref b77)]) (lenOf pd4 rfl) rfl (by show 2 * 0 + _ ≤ _; exact Nat.le_of_eq rfl) (hb hby d_tx1_36) (fun _ _ => ⟨rfl, e83, (by decide : 2 + 1 ≤ _), (by decide : 6 + 2 ≤ _)⟩)
  dsimp only [Pt.U, Pt.locs, Pt.cells, Pt.slots] at X84 l84 y84 z84 st84 hQ84
  subst l84 y84 z84
  obtain ⟨ob_84, kb_84, rfl, N84q, K84, q84_0, q84_1, q84_2, q84_3, q84_4, q84_5⟩ := hQ84
  have N84 := Fr.app N83 N84q
  have Z84 : n0 ≤ T84.heap.size := Nat.le_trans Z83 K84.1
  have KC84 : Keep h0 T84.heap [] := K83.trans K84 (allS (Or.inr sz77) all0)
  have ne90 : b77 ≠ ob_84 := Nat.ne_of_lt (Nat.lt_of_lt_of_le (f85).lt q84_3)
  have ne91 : b80 ≠ ob_84 := Nat.ne_of_lt (Nat.lt_of_lt_of_le (f89).lt q84_3)
  have ge92 : n0 ≤ ob_84 := Nat.le_trans Z83 q84_3
  have sz93 : h0.size ≤ ob_84 := Nat.le_trans K83.1 q84_3
  refine own_tr st84 ?_
  show own_Got p e below _ T84 (mkF m 39 #[.val (.int x0), .val (.int (1 : Int32)), .val (.int ((x0 &&& (255 : Int32)).toUInt32.toUInt16.toUInt32.toInt32)), .val (.int ((((x0.toUInt32 >>> ((8 : Int32) &&& 31).toUInt32).toInt32) &&& (255 : Int32)).toUInt32.toUInt16.toUInt32.toInt32))] [(.ref b77)])
  refine own_retR X84 hx hby hlk hrt rfl d_tx1_39 (by decide) (by decide) rfl ?_
  show Q_tx1 Z x0 g1 h0 n0 _ T84.heap _
  exact ⟨b77, rfl, N84, KC84, sz77, q84_0⟩
theorem d_rec_0 : decode jdk_30_method_1_code 0 = .ok (.aload_n 0, 1) := by decide +kernel
theorem d_rec_1 : decode jdk_30_method_1_code 1 = .ok (.invokespecial 1, 3) := by decide +kernel
theorem d_rec_4 : decode jdk_30_method_1_code 4 = .ok (.return_, 1) := by decide +kernel
theorem pn3 : plainName "java/lang/Record" = true := by first | (simp [plainName, overriddenIn]; done) | decide +kernel
theorem ef_rec (m : MethodId) (a0 : Addr) : entryFrame m #[(.ref a0)] 1 = mkF m 0 #[.val (.ref a0)] [] := by first | (simp [entryFrame, mkF, argsToLocals, Value.category]; done) | rfl
def Q_rec (Z : State) (a0 : Addr) (h0 : Heap) (n0 : Nat) (v : Option Value) (h : Heap) (L : List Loc) : Prop := v = none ∧ Fr n0 L ∧ h = h0
set_option maxRecDepth 65536 in
set_option maxHeartbeats 40000000 in
theorem rm_rec (l : Launch) (Z : State) (aT : Array Value) (hw : ∀ d ∈ tables_1, d.before aT Z = true) (ws : List Jvm.Cond) (a0 : Addr) (h0 : Heap) (n0 : Nat) (Z0 : n0 ≤ h0.size) :
    MetFree l (⟨"java/lang/Record", "<init>", "()V"⟩ : MethodName) (head1 (Jvm.Cond.code (⟨"java/lang/Record", "<init>", "()V"⟩ : MethodName) jdk_30_method_1_code 1 none :: ws) ({ frames := 1, cells := 0, slots := 0, locals := 12 } : Room)) (fun a U => a = #[(.ref a0)] ∧ Z.Warmed39 U.vm ∧ U.heap = h0) (fun _ _ _ _ _ => True) (fun _ U o U' => ∃ v L, o = .returned v ∧ Q_rec Z a0 h0 n0 v U'.heap L ∧ FrameEnd U o U' L ({ frames := 1, cells := 0, slots := 0, locals := 12 } : Room).cells ({ frames := 1, cells := 0, slots := 0, locals := 12 } : Room).slots) := by
  refine MetFree.of_bodySF (plainFor_of_name pn3) hisR ?_
  intro p e s m args below meth c s₁ Bd hml0 hP hK
  obtain ⟨rfl, hZ, hh⟩ := hP
  have hx := Bd.exec
  have hby := Bd.bytes
  have hml : c.maxLocals = 1 := hml0
  have hown : s.vm.findClass "java/lang/Record" = some m.cls := findClass_of_methodNamed Bd.named
  have hnm := (name_of_methodNamed Bd.named Bd.method).1
  have hlk := Bd.notSynchronized
  have hrt := Bd.returns
  have X0 : Stand p l e ({ frames := 1, cells := 0, slots := 0, locals := 12 } : Room) s m #[(.ref a0)] below meth c s₁ [] 0 0 := Stand.of_body Bd
  have e0 : s₁.heap = h0 := by rw [← hh, Bd.state]; rfl
  have N0 := Fr.nil n0
  refine own_cast (P := own_End s (Q_rec Z a0 h0 n0) ({ frames := 1, cells := 0, slots := 0, locals := 12 } : Room).cells ({ frames := 1, cells := 0, slots := 0, locals := 12 } : Room).slots) (ef_rec m a0) ?_
  refine g_aloadN X0 hx hby d_rec_0 rfl rfl (rfl : 0 + 1 = 1) ?_
  obtain ⟨T94, X94, e94, st94⟩ := initO X0 hx hZ hown (hw _ (List.mem_of_getElem? (i := 51) rfl)) (hw _ (List.mem_of_getElem? (i := 16) rfl)) (hw _ (List.mem_of_getElem? (i := 17) rfl)) e0 (g := (mkF m 1 #[.val (.ref a0)] [(.ref a0)])) rfl (by rw [hml]; rfl) rfl (hb hby d_rec_1) (by decide) (W := 0) (by show 2 * 0 + _ ≤ _; exact Nat.le_of_eq rfl) (by decide)
  refine own_go st94 ?_
  show own_Got p e below _ T94 (mkF m 4 #[.val (.ref a0)] [])
  refine own_retV X94 hx hby hlk hrt d_rec_4 (by decide) (by decide) ?_
  show Q_rec Z a0 h0 n0 _ T94.heap _
  exact ⟨rfl, N0, e94⟩
theorem d_ini_0 : decode prog_48_method_1_code 0 = .ok (.aload_n 0, 1) := by decide +kernel
theorem d_ini_1 : decode prog_48_method_1_code 1 = .ok (.invokespecial 1, 3) := by decide +kernel
theorem d_ini_4 : decode prog_48_method_1_code 4 = .ok (.aload_n 0, 1) := by decide +kernel
theorem d_ini_5 : decode prog_48_method_1_code 5 = .ok (.aload_n 1, 1) := by decide +kernel
theorem d_ini_6 : decode prog_48_method_1_code 6 = .ok (.putfield 7, 3) := by decide +kernel
theorem d_ini_9 : decode prog_48_method_1_code 9 = .ok (.aload_n 0, 1) := by decide +kernel
theorem d_ini_10 : decode prog_48_method_1_code 10 = .ok (.aload_n 2, 1) := by decide +kernel
theorem d_ini_11 : decode prog_48_method_1_code 11 = .ok (.putfield 13, 3) := by decide +kernel
theorem d_ini_14 : decode prog_48_method_1_code 14 = .ok (.aload_n 0, 1) := by decide +kernel
theorem d_ini_15 : decode prog_48_method_1_code 15 = .ok (.aload_n 3, 1) := by decide +kernel
theorem d_ini_16 : decode prog_48_method_1_code 16 = .ok (.putfield 17, 3) := by decide +kernel
theorem d_ini_19 : decode prog_48_method_1_code 19 = .ok (.return_, 1) := by decide +kernel
theorem pn4 : plainName "com/example/graftwork/graftwork/Resolution$Verdict" = true := by first | (simp [plainName, overriddenIn]; done) | decide +kernel
theorem pd5 : parseMethodDescriptor "()V" = some ⟨[], none⟩ := by decide +kernel
theorem ef_ini (m : MethodId) (a0 : Addr) (a1 : Addr) (a2 : Addr) (a3 : Addr) : entryFrame m #[(.ref a0), (.ref a1), (.ref a2), (.ref a3)] 4 = mkF m 0 #[.val (.ref a0), .val (.ref a1), .val (.ref a2), .val (.ref a3)] [] := by first | (simp [entryFrame, mkF, argsToLocals, Value.category]; done) | rfl
def Q_ini (Z : State) (a0 : Addr) (a1 : Addr) (a2 : Addr) (a3 : Addr) (h0 : Heap) (n0 : Nat) (v : Option Value) (h : Heap) (L : List Loc) : Prop := v = none ∧ Fr n0 L ∧ Keep h0 h [a0] ∧ Exa Z h a0 "com/example/graftwork/graftwork/Resolution$Verdict" ∧ Fld Z h a0 "com/example/graftwork/graftwork/Resolution$Verdict" "kind" "Lcom/example/graftwork/graftwork/Resolution$Verdict$Kind;" (.ref a1) ∧ Fld Z h a0 "com/example/graftwork/graftwork/Resolution$Verdict" "file" "Ljava/lang/String;" (.ref a2) ∧ Fld Z h a0 "com/example/graftwork/graftwork/Resolution$Verdict" "reason" "Ljava/lang/String;" (.ref a3)
set_option maxRecDepth 65536 in
set_option maxHeartbeats 40000000 in
theorem rm_ini (l : Launch) (Z : State) (aT : Array Value) (hw : ∀ d ∈ tables_1, d.before aT Z = true) (ws : List Jvm.Cond) (a0 : Addr) (a1 : Addr) (a2 : Addr) (a3 : Addr) (h0 : Heap) (n0 : Nat) (Z0 : n0 ≤ h0.size) (hp0 : Exa Z h0 a0 "com/example/graftwork/graftwork/Resolution$Verdict") (hp1 : Fld Z h0 a0 "com/example/graftwork/graftwork/Resolution$Verdict" "kind" "Lcom/example/graftwork/graftwork/Resolution$Verdict$Kind;" .null) (hp2 : Fld Z h0 a0 "com/example/graftwork/graftwork/Resolution$Verdict" "file" "Ljava/lang/String;" .null) (hp3 : Fld Z h0 a0 "com/example/graftwork/graftwork/Resolution$Verdict" "reason" "Ljava/lang/String;" .null) (hp4 : n0 ≤ a0) :
    MetFree l (⟨"com/example/graftwork/graftwork/Resolution$Verdict", "<init>", "(Lcom/example/graftwork/graftwork/Resolution$Verdict$Kind;Ljava/lang/String;Ljava/lang/String;)V"⟩ : MethodName) (head1 (Jvm.Cond.code (⟨"com/example/graftwork/graftwork/Resolution$Verdict", "<init>", "(Lcom/example/graftwork/graftwork/Resolution$Verdict$Kind;Ljava/lang/String;Ljava/lang/String;)V"⟩ : MethodName) prog_48_method_1_code 4 none :: ws) ({ frames := 2, cells := 0, slots := 0, locals := 24 } : Room)) (fun a U => a = #[(.ref a0), (.ref a1), (.ref a2), (.ref a3)] ∧ Z.Warmed39 U.vm ∧ U.heap = h0) (fun _ _ _ _ _ => True) (fun _ U o U' => ∃ v L, o = .returned v ∧ Q_ini Z a0 a1 a2 a3 h0 n0 v U'.heap L ∧ FrameEnd U o U' L ({ frames := 2, cells := 0, slots := 0, locals := 24 } : Room).cells ({ frames := 2, cells := 0, slots := 0, locals := 24 } : Room).slots) := by
  refine MetFree.of_bodySF (plainFor_of_name pn4) hisR ?_
  intro p e s m args below meth c s₁ Bd hml0 hP hK
  obtain ⟨rfl, hZ, hh⟩ := hP
  have hx := Bd.exec
  have hby := Bd.bytes
  have hml : c.maxLocals = 4 := hml0
  have hown : s.vm.findClass "com/example/graftwork/graftwork/Resolution$Verdict" = some m.cls := findClass_of_methodNamed Bd.named
  have hnm := (name_of_methodNamed Bd.named Bd.method).1
  have hlk := Bd.notSynchronized
  have hrt := Bd.returns
  have X0 : Stand p l e ({ frames := 2, cells := 0, slots := 0, locals := 24 } : Room) s m #[(.ref a0), (.ref a1), (.ref a2), (.ref a3)] below meth c s₁ [] 0 0 := Stand.of_body Bd
  have e0 : s₁.heap = h0 := by rw [← hh, Bd.state]; rfl
  have N0 := Fr.nil n0
  refine own_cast (P := own_End s (Q_ini Z a0 a1 a2 a3 h0 n0) ({ frames := 2, cells := 0, slots := 0, locals := 24 } : Room).cells ({ frames := 2, cells := 0, slots := 0, locals := 24 } : Room).slots) (ef_ini m a0 a1 a2 a3) ?_
  refine g_aloadN X0 hx hby d_ini_0 rfl rfl (rfl : 0 + 1 = 1) ?_
  obtain ⟨_, _, ⟨T95, L95, k95, n95⟩, -, X95, ⟨Lc95, hQ95, l95, y95, z95⟩, st95⟩ := X0.specialBack hx (y := (⟨"java/lang/Record", "<init>", "()V"⟩ : MethodName)) rfl hown (mvT hZ (hw _ (List.mem_of_getElem? (i := 46) rfl))) (mvT hZ (hw _ (List.mem_of_getElem? (i := 47) rfl))) (mvT hZ (hw _ (List.mem_of_getElem? (i := 50) rfl))) (by decide) (backOf (W := 0) (rm_rec l Z aT hw [] a0 h0 n0 Z0) hZ (hw _ (List.mem_of_getElem? (i := 50) rfl)) (hw _ (List.mem_of_getElem? (i := 49) rfl)) (by decide) (by decide)) (g := (mkF m 1 #[.val (.ref a0), .val (.ref a1), .val (.ref a2), .val (.ref a3)] [(.ref a0)])) rfl (by rw [hml]; rfl) (Steps.refl _) (a := a0) (argsL := []) (rest := []) (lenOf pd5 rfl) rfl (by show 2 * 0 + _ ≤ _; exact Nat.le_of_eq rfl) (hb hby d_ini_1) (fun _ _ => ⟨rfl, e0, (by decide : 0 + 0 ≤ _), (by decide : 0 + 0 ≤ _)⟩)
  dsimp only [Pt.U, Pt.locs, Pt.cells, Pt.slots] at X95 l95 y95 z95 st95 hQ95
  subst l95 y95 z95
  obtain ⟨rfl, N95q, eq95⟩ := hQ95
  have N95 := Fr.app N0 N95q
  refine own_tr st95 ?_
  show own_Got p e below _ T95 (mkF m 4 #[.val (.ref a0), .val (.ref a1), .val (.ref a2), .val (.ref a3)] [])
  refine g_aloadN X95 hx hby d_ini_4 rfl rfl (rfl : 4 + 1 = 5) ?_
  refine g_aloadN X95 hx hby d_ini_5 rfl rfl (rfl : 5 + 1 = 6) ?_
  obtain ⟨T96, h96, X96, e96, W96, st96⟩ := putF X95 hx hZ hown (host := "") (Or.inl (hw _ (List.mem_of_getElem? (i := 52) rfl))) Via.refl eq95 hp1 hp0 (Or.inr ⟨(hw _ (List.mem_of_getElem? (i := 53) rfl)), rfl, hnm⟩) (hw _ (List.mem_of_getElem? (i := 39) rfl)) (ty := (.object "com/example/graftwork/graftwork/Resolution$Verdict$Kind")) (by decide) rfl rfl (g := (mkF m 6 #[.val (.ref a0), .val (.ref a1), .val (.ref a2), .val (.ref a3)] [(.ref a1), (.ref a0)])) rfl rfl (hb hby d_ini_6)
  have Z96 : n0 ≤ h96.size := Nat.le_trans Z0 (Keep.of_wr W96).1
  have N96 := Fr.snoc X96 N95 hp4
  have K96 : Keep h0 h96 [a0] := (Keep.refl h0 [a0]).wr W96 (Or.inl (List.mem_of_getElem? (i := 0) rfl))
  have f96 : Fld Z h96 a0 "com/example/graftwork/graftwork/Resolution$Verdict" "kind" "Lcom/example/graftwork/graftwork/Resolution$Verdict$Kind;" (.ref a1) := Fld.same W96 hp1
  refine own_go st96 ?_
  show own_Got p e below _ T96 (mkF m 9 #[.val (.ref a0), .val (.ref a1), .val (.ref a2), .val (.ref a3)] [])
  refine g_aloadN X96 hx hby d_ini_9 rfl rfl (rfl : 9 + 1 = 10) ?_
  refine g_aloadN X96 hx hby d_ini_10 rfl rfl (rfl : 10 + 1 = 11) ?_
  have f97 : Fld Z h96 a0 "com/example/graftwork/graftwork/Resolution$Verdict" "file" "Ljava/lang/String;" .null := (Fld.other W96 hp2 (Or.inr (slot_ne (Or.inr (hw _ (List.mem_of_getElem? (i := 55) rfl))) (Or.inr (hw _ (List.mem_of_getElem? (i := 53) rfl))) (by decide) (t := (.object "java/lang/String")) (t' := (.object "com/example/graftwork/graftwork/Resolution$Verdict$Kind")) (by decide) (by decide))))
  have f98 : Exa Z h96 a0 "com/example/graftwork/graftwork/Resolution$Verdict" := (Exa.wr W96 hp0)
  obtain ⟨T99, h99, X99, e99, W99, st99⟩ := putF X96 hx hZ hown (host := "") (Or.inl (hw _ (List.mem_of_getElem? (i := 54) rfl))) Via.refl e96 f97 f98 (Or.inr ⟨(hw _ (List.mem_of_getElem? (i := 55) rfl)), rfl, hnm⟩) (hw _ (List.mem_of_getElem? (i := 39) rfl)) (ty := (.object "java/lang/String")) (by decide) rfl rfl (g := (mkF m 11 #[.val (.ref a0), .val (.ref a1), .val (.ref a2), .val (.ref a3)] [(.ref a2), (.ref a0)])) rfl rfl (hb hby d_ini_11)
  have Z99 : n0 ≤ h99.size := Nat.le_trans Z96 (Keep.of_wr W99).1
  have N99 := Fr.snoc X99 N96 hp4
  have K99 : Keep h0 h99 [a0] := K96.wr W99 (Or.inl (List.mem_of_getElem? (i := 0) rfl))
  have f99 : Fld Z h99 a0 "com/example/graftwork/graftwork/Resolution$Verdict" "file" "Ljava/lang/String;" (.ref a2) := Fld.same W99 f97
  refine own_go st99 ?_
  show own_Got p e below _ T99 (mkF m 14 #[.val (.ref a0), .val (.ref a1), .val (.ref a2), .val (.ref a3)] [])
  refine g_aloadN X99 hx hby d_ini_14 rfl rfl (rfl : 14 + 1 = 15) ?_
  refine g_aloadN X99 hx hby d_ini_15 rfl rfl (rfl : 15 + 1 = 16) ?_
  have f100 : Fld Z h99 a0 "com/example/graftwork/graftwork/Resolution$Verdict" "reason" "Ljava/lang/String;" .null := (Fld.other W99 (Fld.other W96 hp3 (Or.inr (slot_ne (Or.inr (hw _ (List.mem_of_getElem? (i := 57) rfl))) (Or.inr (hw _ (List.mem_of_getElem? (i := 53) rfl))) (by decide) (t := (.object "java/lang/String")) (t' := (.object "com/example/graftwork/graftwork/Resolution$Verdict$Kind")) (by decide) (by decide)))) (Or.inr (slot_ne (Or.inr (hw _ (List.mem_of_getElem? (i := 57) rfl))) (Or.inr (hw _ (List.mem_of_getElem? (i := 55) rfl))) (by decide) (t := (.object "java/lang/String")) (t' := (.object "java/lang/String")) (by decide) (by decide))))
  have f101 : Exa Z h99 a0 "com/example/graftwork/graftwork/Resolution$Verdict" := (Exa.wr W99 f98)
  obtain ⟨T102, h102, X102, e102, W102, st102⟩ := putF X99 hx hZ hown (host := "") (Or.inl (hw _ (List.mem_of_getElem? (i := 56) rfl))) Via.refl e99 f100 f101 (Or.inr ⟨(hw _ (List.mem_of_getElem? (i := 57) rfl)), rfl, hnm⟩) (hw _ (List.mem_of_getElem? (i := 39) rfl)) (ty := (.object "java/lang/String")) (by decide) rfl rfl (g := (mkF m 16 #[.val (.ref a0), .val (.ref a1), .val (.ref a2), .val (.ref a3)] [(.ref a3), (.ref a0)])) rfl rfl (hb hby d_ini_16)
  have Z102 : n0 ≤ h102.size := Nat.le_trans Z99 (Keep.of_wr W102).1
  have N102 := Fr.snoc X102 N99 hp4
  have K102 : Keep h0 h102 [a0] := K99.wr W102 (Or.inl (List.mem_of_getElem? (i := 0) rfl))
  have f102 : Fld Z h102 a0 "com/example/graftwork/graftwork/Resolution$Verdict" "reason" "Ljava/lang/String;" (.ref a3) := Fld.same W102 f100
  refine own_go st102 ?_
  show own_Got p e below _ T102 (mkF m 19 #[.val (.ref a0), .val (.ref a1), .val (.ref a2), .val (.ref a3)] [])
  have f103 : Exa Z h102 a0 "com/example/graftwork/graftwork/Resolution$Verdict" := (Exa.wr W102 f101)
  have f104 : Fld Z h102 a0 "com/example/graftwork/graftwork/Resolution$Verdict" "kind" "Lcom/example/graftwork/graftwork/Resolution$Verdict$Kind;" (.ref a1) := (Fld.other W102 (Fld.other W99 f96 (Or.inr (slot_ne (Or.inr (hw _ (List.mem_of_getElem? (i := 53) rfl))) (Or.inr (hw _ (List.mem_of_getElem? (i := 55) rfl))) (by decide) (t := (.object "com/example/graftwork/graftwork/Resolution$Verdict$Kind")) (t' := (.object "java/lang/String")) (by decide) (by decide)))) (Or.inr (slot_ne (Or.inr (hw _ (List.mem_of_getElem? (i := 53) rfl))) (Or.inr (hw _ (List.mem_of_getElem? (i := 57) rfl))) (by decide) (t := (.object "com/example/graftwork/graftwork/Resolution$Verdict$Kind")) (t' := (.object "java/lang/String")) (by decide) (by decide))))
  have f105 : Fld Z h102 a0 "com/example/graftwork/graftwork/Resolution$Verdict" "file" "Ljava/lang/String;" (.ref a2) := (Fld.other W102 f99 (Or.inr (slot_ne (Or.inr (hw _ (List.mem_of_getElem? (i := 55) rfl))) (Or.inr (hw _ (List.mem_of_getElem? (i := 57) rfl))) (by decide) (t := (.object "java/lang/String")) (t' := (.object "java/lang/String")) (by decide) (by decide))))
  refine own_retV X102 hx hby hlk hrt d_ini_19 (by decide) (by decide) ?_
  show Q_ini Z a0 a1 a2 a3 h0 n0 _ T102.heap _
  rw [e102]
  exact ⟨rfl, N102, K102, f103, f104, f105, f102⟩
theorem d_ign_0 : decode prog_48_method_4_code 0 = .ok (.new 8, 3) := by decide +kernel
theorem d_ign_3 : decode prog_48_method_4_code 3 = .ok (.dup, 1) := by decide +kernel
theorem d_ign_4 : decode prog_48_method_4_code 4 = .ok (.getstatic 37, 3) := by decide +kernel
theorem d_ign_7 : decode prog_48_method_4_code 7 = .ok (.aload_n 0, 1) := by decide +kernel
theorem d_ign_8 : decode prog_48_method_4_code 8 = .ok (.aload_n 1, 1) := by decide +kernel
theorem d_ign_9 : decode prog_48_method_4_code 9 = .ok (.invokespecial 25, 3) := by decide +kernel
theorem d_ign_12 : decode prog_48_method_4_code 12 = .ok (.areturn, 1) := by decide +kernel
theorem pd6 : parseMethodDescriptor "(Lcom/example/graftwork/graftwork/Resolution$Verdict$Kind;Ljava/lang/String;Ljava/lang/String;)V" = some ⟨[(.object "com/example/graftwork/graftwork/Resolution$Verdict$Kind"), (.object "java/lang/String"), (.object "java/lang/String")], none⟩ := by decide +kernel
theorem ef_ign (m : MethodId) (a0 : Addr) (a1 : Addr) : entryFrame m #[(.ref a0), (.ref a1)] 2 = mkF m 0 #[.val (.ref a0), .val (.ref a1)] [] := by first | (simp [entryFrame, mkF, argsToLocals, Value.category]; done) | rfl
def Q_ign (Z : State) (a0 : Addr) (a1 : Addr) (wI : Addr) (h0 : Heap) (n0 : Nat) (v : Option Value) (h : Heap) (L : List Loc) : Prop := ∃ (ob : Addr), v = some (.ref ob) ∧ Fr n0 L ∧ Keep h0 h [] ∧ h0.size ≤ ob ∧ Exa Z h ob "com/example/graftwork/graftwork/Resolution$Verdict" ∧ Fld Z h ob "com/example/graftwork/graftwork/Resolution$Verdict" "kind" "Lcom/example/graftwork/graftwork/Resolution$Verdict$Kind;" (.ref wI) ∧ Fld Z h ob "com/example/graftwork/graftwork/Resolution$Verdict" "file" "Ljava/lang/String;" (.ref a0) ∧ Fld Z h ob "com/example/graftwork/graftwork/Resolution$Verdict" "reason" "Ljava/lang/String;" (.ref a1)
set_option maxRecDepth 65536 in
set_option maxHeartbeats 40000000 in
theorem rm_ign (l : Launch) (Z : State) (aT : Array Value) (hw : ∀ d ∈ tables_1, d.before aT Z = true) (ws : List Jvm.Cond) (a0 : Addr) (a1 : Addr) (wI : Addr) (h0 : Heap) (n0 : Nat) (Z0 : n0 ≤ h0.size) (hp0 : Sta Z h0 "com/example/graftwork/graftwork/Resolution$Verdict$Kind" "IGNORED" "Lcom/example/graftwork/graftwork/Resolution$Verdict$Kind;" (.ref wI)) :
    MetFree l (⟨"com/example/graftwork/graftwork/Resolution$Verdict", "ignored", "(Ljava/lang/String;Ljava/lang/String;)Lcom/example/graftwork/graftwork/Resolution$Verdict;"⟩ : MethodName) (head1 (Jvm.Cond.code (⟨"com/example/graftwork/graftwork/Resolution$Verdict", "ignored", "(Ljava/lang/String;Ljava/lang/String;)Lcom/example/graftwork/graftwork/Resolution$Verdict;"⟩ : MethodName) prog_48_method_4_code 2 (some (.object "com/example/graftwork/graftwork/Resolution$Verdict")) :: ws) ({ frames := 3, cells := 1, slots := 3, locals := 40 } : Room)) (fun a U => a = #[(.ref a0), (.ref a1)] ∧ Z.Warmed39 U.vm ∧ U.heap = h0) (fun _ _ _ _ _ => True) (fun _ U o U' => ∃ v L, o = .returned v ∧ Q_ign Z a0 a1 wI h0 n0 v U'.heap L ∧ FrameEnd U o U' L ({ frames := 3, cells := 1, slots := 3, locals := 40 } : Room).cells ({ frames := 3, cells := 1, slots := 3, locals := 40 } : Room).slots) := by
  refine MetFree.of_bodySF (plainFor_of_name pn4) hisR ?_
  intro p e s m args below meth c s₁ Bd hml0 hP hK
  obtain ⟨rfl, hZ, hh⟩ := hP
  have hx := Bd.exec
  have hby := Bd.bytes
  have hml : c.maxLocals = 2 := hml0
  have hown : s.vm.findClass "com/example/graftwork/graftwork/Resolution$Verdict" = some m.cls := findClass_of_methodNamed Bd.named
  have hnm := (name_of_methodNamed Bd.named Bd.method).1
  have hlk := Bd.notSynchronized
  have hrt := Bd.returns
  have X0 : Stand p l e ({ frames := 3, cells := 1, slots := 3, locals := 40 } : Room) s m #[(.ref a0), (.ref a1)] below meth c s₁ [] 0 0 := Stand.of_body Bd
  have e0 : s₁.heap = h0 := by rw [← hh, Bd.state]; rfl
  have N0 := Fr.nil n0
  refine own_cast (P := own_End s (Q_ign Z a0 a1 wI h0 n0) ({ frames := 3, cells := 1, slots := 3, locals := 40 } : Room).cells ({ frames := 3, cells := 1, slots := 3, locals := 40 } : Room).slots) (ef_ign m a0 a1) ?_
  obtain ⟨T106, h106, X106, e106, E106, A106, D106, -, st106⟩ := newO X0 hx hZ hown (hw _ (List.mem_of_getElem? (i := 38) rfl)) (hw _ (List.mem_of_getElem? (i := 39) rfl)) (hw _ (List.mem_of_getElem? (i := 36) rfl)) e0 (g := (mkF m 0 #[.val (.ref a0), .val (.ref a1)] [])) rfl (hb hby d_ign_0) (by decide) (by decide)
  obtain ⟨b106, g106⟩ : ∃ z, z = h0.size := ⟨_, rfl⟩
  rw [← g106] at A106 D106 st106
  have Z106 : n0 ≤ h106.size := Nat.le_trans Z0 E106.1
  have K106 : Keep h0 h106 [] := (Keep.refl h0 []).ext E106
  have ge106 : n0 ≤ b106 := Nat.le_trans Z0 (Nat.le_of_eq g106.symm)
  have sz106 : h0.size ≤ b106 := Nat.le_trans (Keep.refl h0 []).1 (Nat.le_of_eq g106.symm)
  have f107 : Fld Z h106 b106 "com/example/graftwork/graftwork/Resolution$Verdict" "kind" "Lcom/example/graftwork/graftwork/Resolution$Verdict$Kind;" .null := D106 (Or.inr (hw _ (List.mem_of_getElem? (i := 53) rfl))) (ty := (.object "com/example/graftwork/graftwork/Resolution$Verdict$Kind")) (by decide)
  have f108 : Fld Z h106 b106 "com/example/graftwork/graftwork/Resolution$Verdict" "file" "Ljava/lang/String;" .null := D106 (Or.inr (hw _ (List.mem_of_getElem? (i := 55) rfl))) (ty := (.object "java/lang/String")) (by decide)
  have f109 : Fld Z h106 b106 "com/example/graftwork/graftwork/Resolution$Verdict" "reason" "Ljava/lang/String;" .null := D106 (Or.inr (hw _ (List.mem_of_getElem? (i := 57) rfl))) (ty := (.object "java/lang/String")) (by decide)
  refine own_go st106 ?_
  show own_Got p e below _ T106 (mkF m 3 #[.val (.ref a0), .val (.ref a1)] [(.ref b106)])
  refine g_dup X106 hx hby d_ign_3 rfl (rfl : 3 + 1 = 4) ?_
  have f110 : Sta Z h106 "com/example/graftwork/graftwork/Resolution$Verdict$Kind" "IGNORED" "Lcom/example/graftwork/graftwork/Resolution$Verdict$Kind;" (.ref wI) := (Sta.ext E106 hp0)
  obtain ⟨T111, X111, e111, st111⟩ := getS2 X106 hx hZ hown (host := "") (Or.inl (hw _ (List.mem_of_getElem? (i := 40) rfl))) Via.refl e106 f110 (g := (mkF m 4 #[.val (.ref a0), .val (.ref a1)] [(.ref b106), (.ref b106)])) rfl (hb hby d_ign_4)
  refine own_go st111 ?_
  show own_Got p e below _ T111 (mkF m 7 #[.val (.ref a0), .val (.ref a1)] [(.ref wI), (.ref b106), (.ref b106)])
  refine g_aloadN X111 hx hby d_ign_7 rfl rfl (rfl : 7 + 1 = 8) ?_
  refine g_aloadN X111 hx hby d_ign_8 rfl rfl (rfl : 8 + 1 = 9) ?_
  obtain ⟨_, _, ⟨T112, L112, k112, n112⟩, -, X112, ⟨Lc112, hQ112, l112, y112, z112⟩, st112⟩ := X111.specialBack hx (y := (⟨"com/example/graftwork/graftwork/Resolution$Verdict", "<init>", "(Lcom/example/graftwork/graftwork/Resolution$Verdict$Kind;Ljava/lang/String;Ljava/lang/String;)V"⟩ : MethodName)) rfl hown (mvT hZ (hw _ (List.mem_of_getElem? (i := 43) rfl))) (mvT hZ (hw _ (List.mem_of_getElem? (i := 44) rfl))) (mvT hZ (hw _ (List.mem_of_getElem? (i := 45) rfl))) (by decide) (backOf (W := 1) (rm_ini l Z aT hw [] b106 wI a0 a1 h106 n0 Z106 A106 f107 f108 f109 ge106) hZ (hw _ (List.mem_of_getElem? (i := 45) rfl)) (hw _ (List.mem_of_getElem? (i := 36) rfl)) (by decide) (by decide)) (g := (mkF m 9 #[.val (.ref a0), .val (.ref a1)] [(.ref a1), (.ref a0), (.ref wI), (.ref b106), (.ref b106)])) rfl (by rw [hml]; rfl) (Steps.refl _) (a := b106) (argsL := [(.ref wI), (.ref a0), (.ref a1)]) (rest := [(.ref b106)]) (lenOf pd6 rfl) rfl (by show 2 * 0 + _ ≤ _; exact Nat.le_of_eq rfl) (hb hby d_ign_9) (fun _ _ => ⟨rfl, e111, (by decide : 1 + 0 ≤ _), (by decide : 3 + 0 ≤ _)⟩)
  dsimp only [Pt.U, Pt.locs, Pt.cells, Pt.slots] at X112 l112 y112 z112 st112 hQ112
  subst l112 y112 z112
  obtain ⟨rfl, N112q, K112, q112_0, q112_1, q112_2, q112_3⟩ := hQ112
  have N112 := Fr.app N0 N112q
  have Z112 : n0 ≤ T112.heap.size := Nat.le_trans Z106 K112.1
  have KC112 : Keep h0 T112.heap [] := K106.trans K112 (allS (Or.inr sz106) all0)
  refine own_tr st112 ?_
  show own_Got p e below _ T112 (mkF m 12 #[.val (.ref a0), .val (.ref a1)] [(.ref b106)])
  refine own_retR X112 hx hby hlk hrt rfl d_ign_12 (by decide) (by decide) rfl ?_
  show Q_ign Z a0 a1 wI h0 n0 _ T112.heap _
  exact ⟨b106, rfl, N112, KC112, sz106, q112_0, q112_1, q112_2, q112_3⟩
theorem d_g_kind_0 : decode prog_48_method_9_code 0 = .ok (.aload_n 0, 1) := by decide +kernel
theorem d_g_kind_1 : decode prog_48_method_9_code 1 = .ok (.getfield 7, 3) := by decide +kernel
theorem d_g_kind_4 : decode prog_48_method_9_code 4 = .ok (.areturn, 1) := by decide +kernel
theorem ef_g_kind (m : MethodId) (a0 : Addr) : entryFrame m #[(.ref a0)] 1 = mkF m 0 #[.val (.ref a0)] [] := by first | (simp [entryFrame, mkF, argsToLocals, Value.category]; done) | rfl
def Q_g_kind (Z : State) (a0 : Addr) (u : Addr) (h0 : Heap) (n0 : Nat) (v : Option Value) (h : Heap) (L : List Loc) : Prop := v = some (.ref u) ∧ Fr n0 L ∧ h = h0
set_option maxRecDepth 65536 in
set_option maxHeartbeats 40000000 in
theorem rm_g_kind (l : Launch) (Z : State) (aT : Array Value) (hw : ∀ d ∈ tables_1, d.before aT Z = true) (ws : List Jvm.Cond) (a0 : Addr) (u : Addr) (h0 : Heap) (n0 : Nat) (Z0 : n0 ≤ h0.size) (hp0 : Fld Z h0 a0 "com/example/graftwork/graftwork/Resolution$Verdict" "kind" "Lcom/example/graftwork/graftwork/Resolution$Verdict$Kind;" (.ref u)) :
    MetFree l (⟨"com/example/graftwork/graftwork/Resolution$Verdict", "kind", "()Lcom/example/graftwork/graftwork/Resolution$Verdict$Kind;"⟩ : MethodName) (head1 (Jvm.Cond.code (⟨"com/example/graftwork/graftwork/Resolution$Verdict", "kind", "()Lcom/example/graftwork/graftwork/Resolution$Verdict$Kind;"⟩ : MethodName) prog_48_method_9_code 1 (some (.object "com/example/graftwork/graftwork/Resolution$Verdict$Kind")) :: ws) ({ frames := 0, cells := 0, slots := 0, locals := 0 } : Room)) (fun a U => a = #[(.ref a0)] ∧ Z.Warmed39 U.vm ∧ U.heap = h0) (fun _ _ _ _ _ => True) (fun _ U o U' => ∃ v L, o = .returned v ∧ Q_g_kind Z a0 u h0 n0 v U'.heap L ∧ FrameEnd U o U' L ({ frames := 0, cells := 0, slots := 0, locals := 0 } : Room).cells ({ frames := 0, cells := 0, slots := 0, locals := 0 } : Room).slots) := by
  refine MetFree.of_bodySF (plainFor_of_name pn4) hisR ?_
  intro p e s m args below meth c s₁ Bd hml0 hP hK
  obtain ⟨rfl, hZ, hh⟩ := hP
  have hx := Bd.exec
  have hby := Bd.bytes
  have hml : c.maxLocals = 1 := hml0
  have hown : s.vm.findClass "com/example/graftwork/graftwork/Resolution$Verdict" = some m.cls := findClass_of_methodNamed Bd.named
  have hnm := (name_of_methodNamed Bd.named Bd.method).1
  have hlk := Bd.notSynchronized
  have hrt := Bd.returns
  have X0 : Stand p l e ({ frames := 0, cells := 0, slots := 0, locals := 0 } : Room) s m #[(.ref a0)] below meth c s₁ [] 0 0 := Stand.of_body Bd
  have e0 : s₁.heap = h0 := by rw [← hh, Bd.state]; rfl
  have N0 := Fr.nil n0
  refine own_cast (P := own_End s (Q_g_kind Z a0 u h0 n0) ({ frames := 0, cells := 0, slots := 0, locals := 0 } : Room).cells ({ frames := 0, cells := 0, slots := 0, locals := 0 } : Room).slots) (ef_g_kind m a0) ?_
  refine g_aloadN X0 hx hby d_g_kind_0 rfl rfl (rfl : 0 + 1 = 1) ?_
  obtain ⟨T113, X113, e113, st113⟩ := getF X0 hx hZ hown (host := "") (Or.inl (hw _ (List.mem_of_getElem? (i := 52) rfl))) Via.refl e0 hp0 (g := (mkF m 1 #[.val (.ref a0)] [(.ref a0)])) rfl rfl (hb hby d_g_kind_1)
  refine own_go st113 ?_
  show own_Got p e below _ T113 (mkF m 4 #[.val (.ref a0)] [(.ref u)])
  refine own_retR X113 hx hby hlk hrt rfl d_g_kind_4 (by decide) (by decide) rfl ?_
  show Q_g_kind Z a0 u h0 n0 _ T113.heap _
  exact ⟨rfl, N0, e113⟩
theorem d_g_file_0 : decode prog_48_method_10_code 0 = .ok (.aload_n 0, 1) := by decide +kernel
theorem d_g_file_1 : decode prog_48_method_10_code 1 = .ok (.getfield 13, 3) := by decide +kernel
theorem d_g_file_4 : decode prog_48_method_10_code 4 = .ok (.areturn, 1) := by decide +kernel
theorem ef_g_file (m : MethodId) (a0 : Addr) : entryFrame m #[(.ref a0)] 1 = mkF m 0 #[.val (.ref a0)] [] := by first | (simp [entryFrame, mkF, argsToLocals, Value.category]; done) | rfl
def Q_g_file (Z : State) (a0 : Addr) (u : Addr) (h0 : Heap) (n0 : Nat) (v : Option Value) (h : Heap) (L : List Loc) : Prop := v = some (.ref u) ∧ Fr n0 L ∧ h = h0
set_option maxRecDepth 65536 in
set_option maxHeartbeats 40000000 in
theorem rm_g_file (l : Launch) (Z : State) (aT : Array Value) (hw : ∀ d ∈ tables_1, d.before aT Z = true) (ws : List Jvm.Cond) (a0 : Addr) (u : Addr) (h0 : Heap) (n0 : Nat) (Z0 : n0 ≤ h0.size) (hp0 : Fld Z h0 a0 "com/example/graftwork/graftwork/Resolution$Verdict" "file" "Ljava/lang/String;" (.ref u)) :
    MetFree l (⟨"com/example/graftwork/graftwork/Resolution$Verdict", "file", "()Ljava/lang/String;"⟩ : MethodName) (head1 (Jvm.Cond.code (⟨"com/example/graftwork/graftwork/Resolution$Verdict", "file", "()Ljava/lang/String;"⟩ : MethodName) prog_48_method_10_code 1 (some (.object "java/lang/String")) :: ws) ({ frames := 0, cells := 0, slots := 0, locals := 0 } : Room)) (fun a U => a = #[(.ref a0)] ∧ Z.Warmed39 U.vm ∧ U.heap = h0) (fun _ _ _ _ _ => True) (fun _ U o U' => ∃ v L, o = .returned v ∧ Q_g_file Z a0 u h0 n0 v U'.heap L ∧ FrameEnd U o U' L ({ frames := 0, cells := 0, slots := 0, locals := 0 } : Room).cells ({ frames := 0, cells := 0, slots := 0, locals := 0 } : Room).slots) := by
  refine MetFree.of_bodySF (plainFor_of_name pn4) hisR ?_
  intro p e s m args below meth c s₁ Bd hml0 hP hK
  obtain ⟨rfl, hZ, hh⟩ := hP
  have hx := Bd.exec
  have hby := Bd.bytes
  have hml : c.maxLocals = 1 := hml0
  have hown : s.vm.findClass "com/example/graftwork/graftwork/Resolution$Verdict" = some m.cls := findClass_of_methodNamed Bd.named
  have hnm := (name_of_methodNamed Bd.named Bd.method).1
  have hlk := Bd.notSynchronized
  have hrt := Bd.returns
  have X0 : Stand p l e ({ frames := 0, cells := 0, slots := 0, locals := 0 } : Room) s m #[(.ref a0)] below meth c s₁ [] 0 0 := Stand.of_body Bd
  have e0 : s₁.heap = h0 := by rw [← hh, Bd.state]; rfl
  have N0 := Fr.nil n0
  refine own_cast (P := own_End s (Q_g_file Z a0 u h0 n0) ({ frames := 0, cells := 0, slots := 0, locals := 0 } : Room).cells ({ frames := 0, cells := 0, slots := 0, locals := 0 } : Room).slots) (ef_g_file m a0) ?_
  refine g_aloadN X0 hx hby d_g_file_0 rfl rfl (rfl : 0 + 1 = 1) ?_
  obtain ⟨T114, X114, e114, st114⟩ := getF X0 hx hZ hown (host := "") (Or.inl (hw _ (List.mem_of_getElem? (i := 54) rfl))) Via.refl e0 hp0 (g := (mkF m 1 #[.val (.ref a0)] [(.ref a0)])) rfl rfl (hb hby d_g_file_1)
  refine own_go st114 ?_
  show own_Got p e below _ T114 (mkF m 4 #[.val (.ref a0)] [(.ref u)])
  refine own_retR X114 hx hby hlk hrt rfl d_g_file_4 (by decide) (by decide) rfl ?_
  show Q_g_file Z a0 u h0 n0 _ T114.heap _
  exact ⟨rfl, N0, e114⟩
theorem d_g_reason_0 : decode prog_48_method_11_code 0 = .ok (.aload_n 0, 1) := by decide +kernel
theorem d_g_reason_1 : decode prog_48_method_11_code 1 = .ok (.getfield 17, 3) := by decide +kernel
theorem d_g_reason_4 : decode prog_48_method_11_code 4 = .ok (.areturn, 1) := by decide +kernel
theorem ef_g_reason (m : MethodId) (a0 : Addr) : entryFrame m #[(.ref a0)] 1 = mkF m 0 #[.val (.ref a0)] [] := by first | (simp [entryFrame, mkF, argsToLocals, Value.category]; done) | rfl
def Q_g_reason (Z : State) (a0 : Addr) (u : Addr) (h0 : Heap) (n0 : Nat) (v : Option Value) (h : Heap) (L : List Loc) : Prop := v = some (.ref u) ∧ Fr n0 L ∧ h = h0
set_option maxRecDepth 65536 in
set_option maxHeartbeats 40000000 in
theorem rm_g_reason (l : Launch) (Z : State) (aT : Array Value) (hw : ∀ d ∈ tables_1, d.before aT Z = true) (ws : List Jvm.Cond) (a0 : Addr) (u : Addr) (h0 : Heap) (n0 : Nat) (Z0 : n0 ≤ h0.size) (hp0 : Fld Z h0 a0 "com/example/graftwork/graftwork/Resolution$Verdict" "reason" "Ljava/lang/String;" (.ref u)) :
    MetFree l (⟨"com/example/graftwork/graftwork/Resolution$Verdict", "reason", "()Ljava/lang/String;"⟩ : MethodName) (head1 (Jvm.Cond.code (⟨"com/example/graftwork/graftwork/Resolution$Verdict", "reason", "()Ljava/lang/String;"⟩ : MethodName) prog_48_method_11_code 1 (some (.object "java/lang/String")) :: ws) ({ frames := 0, cells := 0, slots := 0, locals := 0 } : Room)) (fun a U => a = #[(.ref a0)] ∧ Z.Warmed39 U.vm ∧ U.heap = h0) (fun _ _ _ _ _ => True) (fun _ U o U' => ∃ v L, o = .returned v ∧ Q_g_reason Z a0 u h0 n0 v U'.heap L ∧ FrameEnd U o U' L ({ frames := 0, cells := 0, slots := 0, locals := 0 } : Room).cells ({ frames := 0, cells := 0, slots := 0, locals := 0 } : Room).slots) := by
  refine MetFree.of_bodySF (plainFor_of_name pn4) hisR ?_
  intro p e s m args below meth c s₁ Bd hml0 hP hK
  obtain ⟨rfl, hZ, hh⟩ := hP
  have hx := Bd.exec
  have hby := Bd.bytes
  have hml : c.maxLocals = 1 := hml0
  have hown : s.vm.findClass "com/example/graftwork/graftwork/Resolution$Verdict" = some m.cls := findClass_of_methodNamed Bd.named
  have hnm := (name_of_methodNamed Bd.named Bd.method).1
  have hlk := Bd.notSynchronized
  have hrt := Bd.returns
  have X0 : Stand p l e ({ frames := 0, cells := 0, slots := 0, locals := 0 } : Room) s m #[(.ref a0)] below meth c s₁ [] 0 0 := Stand.of_body Bd
  have e0 : s₁.heap = h0 := by rw [← hh, Bd.state]; rfl
  have N0 := Fr.nil n0
  refine own_cast (P := own_End s (Q_g_reason Z a0 u h0 n0) ({ frames := 0, cells := 0, slots := 0, locals := 0 } : Room).cells ({ frames := 0, cells := 0, slots := 0, locals := 0 } : Room).slots) (ef_g_reason m a0) ?_
  refine g_aloadN X0 hx hby d_g_reason_0 rfl rfl (rfl : 0 + 1 = 1) ?_
  obtain ⟨T115, X115, e115, st115⟩ := getF X0 hx hZ hown (host := "") (Or.inl (hw _ (List.mem_of_getElem? (i := 56) rfl))) Via.refl e0 hp0 (g := (mkF m 1 #[.val (.ref a0)] [(.ref a0)])) rfl rfl (hb hby d_g_reason_1)
  refine own_go st115 ?_
  show own_Got p e below _ T115 (mkF m 4 #[.val (.ref a0)] [(.ref u)])
  refine own_retR X115 hx hby hlk hrt rfl d_g_reason_4 (by decide) (by decide) rfl ?_
  show Q_g_reason Z a0 u h0 n0 _ T115.heap _
  exact ⟨rfl, N0, e115⟩
theorem d_eqS_0 : decode jdk_42_method_66_code 0 = .ok (.aload_n 0, 1) := by decide +kernel
theorem d_eqS_1 : decode jdk_42_method_66_code 1 = .ok (.aload_n 1, 1) := by decide +kernel
theorem d_eqS_2 : decode jdk_42_method_66_code 2 = .ok (.if_acmp .ne 5, 3) := by decide +kernel
theorem d_eqS_5 : decode jdk_42_method_66_code 5 = .ok (.iconst 1, 1) := by decide +kernel
theorem d_eqS_6 : decode jdk_42_method_66_code 6 = .ok (.ireturn, 1) := by decide +kernel
theorem ef_eqS (m : MethodId) (a0 : Addr) : entryFrame m #[(.ref a0), (.ref a0)] 3 = mkF m 0 #[.val (.ref a0), .val (.ref a0), .unset] [] := by first | (simp [entryFrame, mkF, argsToLocals, Value.category]; done) | rfl
def Q_eqS (Z : State) (a0 : Addr) (h0 : Heap) (n0 : Nat) (v : Option Value) (h : Heap) (L : List Loc) : Prop := v = some (.int (1 : Int32)) ∧ Fr n0 L ∧ h = h0
set_option maxRecDepth 65536 in
set_option maxHeartbeats 40000000 in
theorem rm_eqS (l : Launch) (Z : State) (aT : Array Value) (hw : ∀ d ∈ tables_1, d.before aT Z = true) (ws : List Jvm.Cond) (a0 : Addr) (h0 : Heap) (n0 : Nat) (Z0 : n0 ≤ h0.size) :
    MetFree l (⟨"java/lang/String", "equals", "(Ljava/lang/Object;)Z"⟩ : MethodName) (head1 (Jvm.Cond.code (⟨"java/lang/String", "equals", "(Ljava/lang/Object;)Z"⟩ : MethodName) jdk_42_method_66_code 3 (some .boolean) :: ws) ({ frames := 0, cells := 0, slots := 0, locals := 0 } : Room)) (fun a U => a = #[(.ref a0), (.ref a0)] ∧ Z.Warmed39 U.vm ∧ U.heap = h0) (fun _ _ _ _ _ => True) (fun _ U o U' => ∃ v L, o = .returned v ∧ Q_eqS Z a0 h0 n0 v U'.heap L ∧ FrameEnd U o U' L ({ frames := 0, cells := 0, slots := 0, locals := 0 } : Room).cells ({ frames := 0, cells := 0, slots := 0, locals := 0 } : Room).slots) := by
  refine MetFree.of_bodySF (plainFor_of_name pn1) hisR ?_
  intro p e s m args below meth c s₁ Bd hml0 hP hK
  obtain ⟨rfl, hZ, hh⟩ := hP
  have hx := Bd.exec
  have hby := Bd.bytes
  have hml : c.maxLocals = 3 := hml0
  have hown : s.vm.findClass "java/lang/String" = some m.cls := findClass_of_methodNamed Bd.named
  have hnm := (name_of_methodNamed Bd.named Bd.method).1
  have hlk := Bd.notSynchronized
  have hrt := Bd.returns
  have X0 : Stand p l e ({ frames := 0, cells := 0, slots := 0, locals := 0 } : Room) s m #[(.ref a0), (.ref a0)] below meth c s₁ [] 0 0 := Stand.of_body Bd
  have e0 : s₁.heap = h0 := by rw [← hh, Bd.state]; rfl
  have N0 := Fr.nil n0
  refine own_cast (P := own_End s (Q_eqS Z a0 h0 n0) ({ frames := 0, cells := 0, slots := 0, locals := 0 } : Room).cells ({ frames := 0, cells := 0, slots := 0, locals := 0 } : Room).slots) (ef_eqS m a0) ?_
  refine g_aloadN X0 hx hby d_eqS_0 rfl rfl (rfl : 0 + 1 = 1) ?_
  refine g_aloadN X0 hx hby d_eqS_1 rfl rfl (rfl : 1 + 1 = 2) ?_
  refine g_acmp X0 hx hby (pc' := 5) true d_eqS_2 rfl rfl (decide_eq_true rfl) (by decide) (by decide) ?_
  refine g_iconst X0 hx hby (1 : Int32) d_eqS_5 (by decide) (rfl : 5 + 1 = 6) ?_
  refine own_retN X0 hx hby hlk (t := .boolean) hrt (by simp) d_eqS_6 (by decide) (by decide) ?_
  show Q_eqS Z a0 h0 n0 _ s₁.heap _
  exact ⟨rfl, N0, e0⟩
theorem pd7 : parseMethodDescriptor "(IZ)Ljava/lang/String;" = some ⟨[.int, .boolean], some (.object "java/lang/String")⟩ := by decide +kernel
theorem pd8 : parseMethodDescriptor "(Ljava/lang/String;Ljava/lang/String;)Lcom/example/graftwork/graftwork/Resolution$Verdict;" = some ⟨[(.object "java/lang/String"), (.object "java/lang/String")], some (.object "com/example/graftwork/graftwork/Resolution$Verdict")⟩ := by decide +kernel
theorem pd9 : parseMethodDescriptor "()Lcom/example/graftwork/graftwork/Resolution$Verdict$Kind;" = some ⟨[], some (.object "com/example/graftwork/graftwork/Resolution$Verdict$Kind")⟩ := by decide +kernel
theorem pd10 : parseMethodDescriptor "()Ljava/lang/String;" = some ⟨[], some (.object "java/lang/String")⟩ := by decide +kernel
theorem pd11 : parseMethodDescriptor "(Ljava/lang/Object;)Z" = some ⟨[(.object "java/lang/Object")], some .boolean⟩ := by decide +kernel
theorem ef_law (m : MethodId) (x0 : Int32) (x1 : Int32) (x2 : Int32) : entryFrame m #[(.int x0), (.int x1), (.int x2)] maxLocals = mkF m 0 #[.val (.int x0), .val (.int x1), .val (.int x2), .unset, .unset, .unset, .unset, .unset, .unset] [] := by first | (simp [entryFrame, mkF, argsToLocals, Value.category, maxLocals]; done) | rfl
def Q_law (Z : State) (x0 : Int32) (x1 : Int32) (x2 : Int32) (wI : Addr) (wR : Addr) (g1 : Int32) (h0 : Heap) (n0 : Nat) (v : Option Value) (h : Heap) (L : List Loc) : Prop := v = some (.int (1 : Int32)) ∧ Fr n0 L
set_option maxRecDepth 65536 in
set_option maxHeartbeats 40000000 in
theorem rm_law (l : Launch) (Z : State) (aT : Array Value) (hw : ∀ d ∈ tables_1, d.before aT Z = true) (ws : List Jvm.Cond) (x0 : Int32) (x1 : Int32) (x2 : Int32) (wI : Addr) (wR : Addr) (g1 : Int32) (h0 : Heap) (n0 : Nat) (Z0 : n0 ≤ h0.size) (hp0 : Sta Z h0 "com/example/graftwork/graftwork/Resolution$Verdict$Kind" "IGNORED" "Lcom/example/graftwork/graftwork/Resolution$Verdict$Kind;" (.ref wI)) (hp1 : Sta Z h0 "com/example/graftwork/graftwork/Resolution$Verdict$Kind" "REFUSED" "Lcom/example/graftwork/graftwork/Resolution$Verdict$Kind;" (.ref wR)) (hp2 : wI ≠ wR) (hp3 : Sta Z h0 "java/lang/String" "COMPACT_STRINGS" "Z" (.int g1)) (hg1 : ¬ (g1 = (0 : Int32))) :
    MetFree l x (head1 (Jvm.Cond.code x code maxLocals ret :: ws) room_1) (fun a U => a = #[(.int x0), (.int x1), (.int x2)] ∧ Z.Warmed39 U.vm ∧ U.heap = h0) (fun _ _ _ _ _ => True) (fun _ U o U' => ∃ v L, o = .returned v ∧ Q_law Z x0 x1 x2 wI wR g1 h0 n0 v U'.heap L ∧ FrameEnd U o U' L 24 128) := by
  refine MetFree.of_bodySF (plainFor_of_name pn2) hisR ?_
  intro p e s m args below meth c s₁ Bd hml0 hP hK
  obtain ⟨rfl, hZ, hh⟩ := hP
  have hx := Bd.exec
  have hby := Bd.bytes
  have hml : c.maxLocals = 9 := hml0
  have hown : s.vm.findClass "com/example/graftwork/graftwork/VerdictIgnoredPinLaw" = some m.cls := findClass_of_methodNamed Bd.named
  have hnm := (name_of_methodNamed Bd.named Bd.method).1
  have hlk := Bd.notSynchronized
  have hrt := Bd.returns
  have X0 : Stand p l e room_1 s m #[(.int x0), (.int x1), (.int x2)] below meth c s₁ [] 0 0 := Stand.of_body Bd
  have e0 : s₁.heap = h0 := by rw [← hh, Bd.state]; rfl
  have N0 := Fr.nil n0
  refine own_cast (P := own_End s (Q_law Z x0 x1 x2 wI wR g1 h0 n0) 24 128) (ef_law m x0 x1 x2) ?_
  refine g_iloadN X0 hx hby at_0 rfl (rfl : 0 + 1 = 1) ?_
  refine g_iloadN X0 hx hby at_1 rfl (rfl : 1 + 1 = 2) ?_
  refine g_iconst X0 hx hby (1 : Int32) at_2 (by decide) (rfl : 2 + 1 = 3) ?_
  refine g_iand X0 hx hby at_3 (rfl : 3 + 1 = 4) ?_
  by_cases c116 : (x2 &&& (1 : Int32)) = (0 : Int32)
  · refine g_ifT X0 hx hby at_4 ((if0 _ _).trans (teq c116).1) (by decide) (pc' := 11) (by decide) ?_
    refine g_iconst X0 hx hby (0 : Int32) at_11 (by decide) (rfl : 11 + 1 = 12) ?_
    obtain ⟨_, _, ⟨T117, L117, k117, n117⟩, -, X117, ⟨Lc117, hQ117, l117, y117, z117⟩, st117⟩ := Jvm.LawKit.callS X0 hx (y := (⟨"com/example/graftwork/graftwork/VerdictIgnoredPinLaw", "text", "(IZ)Ljava/lang/String;"⟩ : MethodName)) hown (mvT hZ (hw _ (List.mem_of_getElem? (i := 0) rfl))) (mvT hZ (hw _ (List.mem_of_getElem? (i := 1) rfl))) (mvT hZ (hw _ (List.mem_of_getElem? (i := 2) rfl))) (mvT hZ (hw _ (List.mem_of_getElem? (i := 3) rfl))) (by decide) (backOf (W := 0) (rm_tx0 l Z aT hw [] x0 g1 h0 n0 Z0 hp3 hg1) hZ (hw _ (List.mem_of_getElem? (i := 3) rfl)) (hw _ (List.mem_of_getElem? (i := 2) rfl)) (by decide) (by decide)) (g := (mkF m 12 #[.val (.int x0), .val (.int x1), .val (.int x2), .unset, .unset, .unset, .unset, .unset, .unset] [(.int (0 : Int32)), (.int x0)])) rfl (by rw [hml]; rfl) (argsL := [(.int x0), (.int (0 : Int32))]) (rest := []) (lenOf pd7 rfl) rfl (by show 2 * 0 + _ ≤ _; exact Nat.le_of_eq rfl) (hb hby at_12) (fun _ _ => ⟨rfl, e0, (by decide : 0 + 3 ≤ _), (by decide : 0 + 6 ≤ _)⟩)
    dsimp only [Pt.U, Pt.locs, Pt.cells, Pt.slots] at X117 l117 y117 z117 st117 hQ117
    subst l117 y117 z117
    obtain ⟨os_117, rfl, N117q, K117, q117_0, q117_1⟩ := hQ117
    have N117 := Fr.app N0 N117q
    have Z117 : n0 ≤ T117.heap.size := Nat.le_trans Z0 K117.1
    have ge118 : n0 ≤ os_117 := Nat.le_trans Z0 q117_0
    refine own_go st117 ?_
    show own_Got p e below _ T117 (mkF m 15 #[.val (.int x0), .val (.int x1), .val (.int x2), .unset, .unset, .unset, .unset, .unset, .unset] [(.ref os_117)])
    refine g_astoreN X117 hx hby #[.val (.int x0), .val (.int x1), .val (.int x2), .val (.ref os_117), .unset, .unset, .unset, .unset, .unset] at_15 rfl rfl (rfl : 15 + 1 = 16) ?_
    refine g_iloadN X117 hx hby at_16 rfl (rfl : 16 + 1 = 17) ?_
    refine g_iloadN X117 hx hby at_17 rfl (rfl : 17 + 1 = 18) ?_
    refine g_iconst X117 hx hby (2 : Int32) at_18 (by decide) (rfl : 18 + 1 = 19) ?_
    refine g_iand X117 hx hby at_19 (rfl : 19 + 1 = 20) ?_
    by_cases c119 : (x2 &&& (2 : Int32)) = (0 : Int32)
    · refine g_ifT X117 hx hby at_20 ((if0 _ _).trans (teq c119).1) (by decide) (pc' := 27) (by decide) ?_
      refine g_iconst X117 hx hby (0 : Int32) at_27 (by decide) (rfl : 27 + 1 = 28) ?_
      have f121 : Sta Z T117.heap "java/lang/String" "COMPACT_STRINGS" "Z" (.int g1) := (own_stakeep0 hp3 K117)
      obtain ⟨_, _, ⟨T120, L120, k120, n120⟩, -, X120, ⟨Lc120, hQ120, l120, y120, z120⟩, st120⟩ := Jvm.LawKit.callS X117 hx (y := (⟨"com/example/graftwork/graftwork/VerdictIgnoredPinLaw", "text", "(IZ)Ljava/lang/String;"⟩ : MethodName)) hown (mvT hZ (hw _ (List.mem_of_getElem? (i := 0) rfl))) (mvT hZ (hw _ (List.mem_of_getElem? (i := 1) rfl))) (mvT hZ (hw _ (List.mem_of_getElem? (i := 2) rfl))) (mvT hZ (hw _ (List.mem_of_getElem? (i := 3) rfl))) (by decide) (backOf (W := 0) (rm_tx0 l Z aT hw [] x1 g1 T117.heap n0 Z117 f121 hg1) hZ (hw _ (List.mem_of_getElem? (i := 3) rfl)) (hw _ (List.mem_of_getElem? (i := 2) rfl)) (by decide) (by decide)) (g := (mkF m 28 #[.val (.int x0), .val (.int x1), .val (.int x2), .val (.ref os_117), .unset, .unset, .unset, .unset, .unset] [(.int (0 : Int32)), (.int x1)])) rfl (by rw [hml]; rfl) (argsL := [(.int x1), (.int (0 : Int32))]) (rest := []) (lenOf pd7 rfl) rfl (by show 2 * 0 + _ ≤ _; exact Nat.le_of_eq rfl) (hb hby at_28) (fun _ _ => ⟨rfl, rfl, (by decide : 3 + 3 ≤ _), (by decide : 6 + 6 ≤ _)⟩)
      dsimp only [Pt.U, Pt.locs, Pt.cells, Pt.slots] at X120 l120 y120 z120 st120 hQ120
      subst l120 y120 z120
      obtain ⟨os_120, rfl, N120q, K120, q120_0, q120_1⟩ := hQ120
      have N120 := Fr.app N117 N120q
      have Z120 : n0 ≤ T120.heap.size := Nat.le_trans Z117 K120.1
      have ne122 : os_117 ≠ os_120 := Nat.ne_of_lt (Nat.lt_of_lt_of_le (q117_1).lt q120_0)
      have ge123 : n0 ≤ os_120 := Nat.le_trans Z117 q120_0
      refine own_go st120 ?_
      show own_Got p e below _ T120 (mkF m 31 #[.val (.int x0), .val (.int x1), .val (.int x2), .val (.ref os_117), .unset, .unset, .unset, .unset, .unset] [(.ref os_120)])
      refine g_astore X120 hx hby #[.val (.int x0), .val (.int x1), .val (.int x2), .val (.ref os_117), .val (.ref os_120), .unset, .unset, .unset, .unset] at_31 rfl rfl (rfl : 31 + 2 = 33) ?_
      refine g_aloadN X120 hx hby at_33 rfl rfl (rfl : 33 + 1 = 34) ?_
      refine g_aload X120 hx hby at_34 rfl rfl (rfl : 34 + 2 = 36) ?_
      have f125 : Sta Z T120.heap "com/example/graftwork/graftwork/Resolution$Verdict$Kind" "IGNORED" "Lcom/example/graftwork/graftwork/Resolution$Verdict$Kind;" (.ref wI) := (own_stakeep0 (own_stakeep0 hp0 K117) K120)
      have f126 : Exa Z T120.heap os_117 "java/lang/String" := (Exa.keep q117_1 K120)
      obtain ⟨_, _, ⟨T124, L124, k124, n124⟩, -, X124, ⟨Lc124, hQ124, l124, y124, z124⟩, st124⟩ := Jvm.LawKit.callS X120 hx (y := (⟨"com/example/graftwork/graftwork/Resolution$Verdict", "ignored", "(Ljava/lang/String;Ljava/lang/String;)Lcom/example/graftwork/graftwork/Resolution$Verdict;"⟩ : MethodName)) hown (mvT hZ (hw _ (List.mem_of_getElem? (i := 34) rfl))) (mvT hZ (hw _ (List.mem_of_getElem? (i := 35) rfl))) (mvT hZ (hw _ (List.mem_of_getElem? (i := 36) rfl))) (mvT hZ (hw _ (List.mem_of_getElem? (i := 37) rfl))) (by decide) (backOf (W := 0) (rm_ign l Z aT hw [] os_117 os_120 wI T120.heap n0 Z120 f125) hZ (hw _ (List.mem_of_getElem? (i := 37) rfl)) (hw _ (List.mem_of_getElem? (i := 36) rfl)) (by decide) (by decide)) (g := (mkF m 36 #[.val (.int x0), .val (.int x1), .val (.int x2), .val (.ref os_117), .val (.ref os_120), .unset, .unset, .unset, .unset] [(.ref os_120), (.ref os_117)])) rfl (by rw [hml]; rfl) (argsL := [(.ref os_117), (.ref os_120)]) (rest := []) (lenOf pd8 rfl) rfl (by show 2 * 0 + _ ≤ _; exact Nat.le_of_eq rfl) (hb hby at_36) (fun _ _ => ⟨rfl, rfl, (by decide : 6 + 1 ≤ _), (by decide : 12 + 3 ≤ _)⟩)
      dsimp only [Pt.U, Pt.locs, Pt.cells, Pt.slots] at X124 l124 y124 z124 st124 hQ124
      subst l124 y124 z124
      obtain ⟨ob_124, rfl, N124q, K124, q124_0, q124_1, q124_2, q124_3, q124_4⟩ := hQ124
      have N124 := Fr.app N120 N124q
      have Z124 : n0 ≤ T124.heap.size := Nat.le_trans Z120 K124.1
      have ne127 : os_117 ≠ ob_124 := Nat.ne_of_lt (Nat.lt_of_lt_of_le (f126).lt q124_0)
      have ne128 : os_120 ≠ ob_124 := Nat.ne_of_lt (Nat.lt_of_lt_of_le (q120_1).lt q124_0)
      have ge129 : n0 ≤ ob_124 := Nat.le_trans Z120 q124_0
      refine own_go st124 ?_
      show own_Got p e below _ T124 (mkF m 39 #[.val (.int x0), .val (.int x1), .val (.int x2), .val (.ref os_117), .val (.ref os_120), .unset, .unset, .unset, .unset] [(.ref ob_124)])
      refine g_astore X124 hx hby #[.val (.int x0), .val (.int x1), .val (.int x2), .val (.ref os_117), .val (.ref os_120), .val (.ref ob_124), .unset, .unset, .unset] at_39 rfl rfl (rfl : 39 + 2 = 41) ?_
      refine g_aload X124 hx hby at_41 rfl rfl (rfl : 41 + 2 = 43) ?_
      refine g_innT X124 hx hby at_43 (by decide) (pc' := 48) (by decide) ?_
      refine g_aload X124 hx hby at_48 rfl rfl (rfl : 48 + 2 = 50) ?_
      obtain ⟨cq130, kq130, q130a, q130b, q130c⟩ := isOf hZ rfl q124_1
      obtain ⟨_, _, ⟨T130, L130, k130, n130⟩, -, X130, ⟨Lc130, hQ130, l130, y130, z130⟩, st130⟩ := X124.virtualBack hx (y := (⟨"com/example/graftwork/graftwork/Resolution$Verdict", "kind", "()Lcom/example/graftwork/graftwork/Resolution$Verdict$Kind;"⟩ : MethodName)) (z := (⟨"com/example/graftwork/graftwork/Resolution$Verdict", "kind", "()Lcom/example/graftwork/graftwork/Resolution$Verdict$Kind;"⟩ : MethodName)) hown (mvT hZ (hw _ (List.mem_of_getElem? (i := 58) rfl))) (mvT hZ (hw _ (List.mem_of_getElem? (i := 59) rfl))) (notFace_of_selects (args := #[]) (mvT hZ (hw _ (List.mem_of_getElem? (i := 61) rfl)))) (mvT hZ (hw _ (List.mem_of_getElem? (i := 61) rfl))) (mvT hZ (hw _ (List.mem_of_getElem? (i := 60) rfl))) (by decide) (backOf (W := 0) (rm_g_kind l Z aT hw [] ob_124 wI T124.heap n0 Z124 q124_2) hZ (hw _ (List.mem_of_getElem? (i := 62) rfl)) (hw _ (List.mem_of_getElem? (i := 36) rfl)) (by decide) (by decide)) q130a q130c (g := (mkF m 50 #[.val (.int x0), .val (.int x1), .val (.int x2), .val (.ref os_117), .val (.ref os_120), .val (.ref ob_124), .unset, .unset, .unset] [(.ref ob_124)])) rfl (by rw [hml]; rfl) (Steps.refl _) (argsL := []) (rest := []) (lenOf pd9 rfl) rfl (by show 2 * 0 + _ ≤ _; exact Nat.le_of_eq rfl) (hb hby at_50) (fun _ _ => ⟨rfl, rfl, (by decide : 7 + 0 ≤ _), (by decide : 15 + 0 ≤ _)⟩)
      dsimp only [Pt.U, Pt.locs, Pt.cells, Pt.slots] at X130 l130 y130 z130 st130 hQ130
      subst l130 y130 z130
      obtain ⟨rfl, N130q, eq130⟩ := hQ130
      have N130 := Fr.app N124 N130q
      refine own_tr st130 ?_
      show own_Got p e below _ T130 (mkF m 53 #[.val (.int x0), .val (.int x1), .val (.int x2), .val (.ref os_117), .val (.ref os_120), .val (.ref ob_124), .unset, .unset, .unset] [(.ref wI)])
      have f131 : Sta Z T124.heap "com/example/graftwork/graftwork/Resolution$Verdict$Kind" "IGNORED" "Lcom/example/graftwork/graftwork/Resolution$Verdict$Kind;" (.ref wI) := (own_stakeep0 f125 K124)
      obtain ⟨T132, X132, e132, st132⟩ := getS2 X130 hx hZ hown (host := "") (Or.inl (hw _ (List.mem_of_getElem? (i := 63) rfl))) Via.refl eq130 f131 (g := (mkF m 53 #[.val (.int x0), .val (.int x1), .val (.int x2), .val (.ref os_117), .val (.ref os_120), .val (.ref ob_124), .unset, .unset, .unset] [(.ref wI)])) rfl (hb hby at_53)
      refine own_go st132 ?_
      show own_Got p e below _ T132 (mkF m 56 #[.val (.int x0), .val (.int x1), .val (.int x2), .val (.ref os_117), .val (.ref os_120), .val (.ref ob_124), .unset, .unset, .unset] [(.ref wI), (.ref wI)])
      refine g_acmp X132 hx hby (pc' := 59) true at_56 rfl rfl (decide_eq_true rfl) (by decide) (by decide) ?_
      refine g_aload X132 hx hby at_59 rfl rfl (rfl : 59 + 2 = 61) ?_
      obtain ⟨cq133, kq133, q133a, q133b, q133c⟩ := isOf hZ e132 q124_1
      obtain ⟨_, _, ⟨T133, L133, k133, n133⟩, -, X133, ⟨Lc133, hQ133, l133, y133, z133⟩, st133⟩ := X132.virtualBack hx (y := (⟨"com/example/graftwork/graftwork/Resolution$Verdict", "kind", "()Lcom/example/graftwork/graftwork/Resolution$Verdict$Kind;"⟩ : MethodName)) (z := (⟨"com/example/graftwork/graftwork/Resolution$Verdict", "kind", "()Lcom/example/graftwork/graftwork/Resolution$Verdict$Kind;"⟩ : MethodName)) hown (mvT hZ (hw _ (List.mem_of_getElem? (i := 58) rfl))) (mvT hZ (hw _ (List.mem_of_getElem? (i := 59) rfl))) (notFace_of_selects (args := #[]) (mvT hZ (hw _ (List.mem_of_getElem? (i := 61) rfl)))) (mvT hZ (hw _ (List.mem_of_getElem? (i := 61) rfl))) (mvT hZ (hw _ (List.mem_of_getElem? (i := 60) rfl))) (by decide) (backOf (W := 0) (rm_g_kind l Z aT hw [] ob_124 wI T124.heap n0 Z124 q124_2) hZ (hw _ (List.mem_of_getElem? (i := 62) rfl)) (hw _ (List.mem_of_getElem? (i := 36) rfl)) (by decide) (by decide)) q133a q133c (g := (mkF m 61 #[.val (.int x0), .val (.int x1), .val (.int x2), .val (.ref os_117), .val (.ref os_120), .val (.ref ob_124), .unset, .unset, .unset] [(.ref ob_124)])) rfl (by rw [hml]; rfl) (Steps.refl _) (argsL := []) (rest := []) (lenOf pd9 rfl) rfl (by show 2 * 0 + _ ≤ _; exact Nat.le_of_eq rfl) (hb hby at_61) (fun _ _ => ⟨rfl, e132, (by decide : 7 + 0 ≤ _), (by decide : 15 + 0 ≤ _)⟩)
      dsimp only [Pt.U, Pt.locs, Pt.cells, Pt.slots] at X133 l133 y133 z133 st133 hQ133
      subst l133 y133 z133
      obtain ⟨rfl, N133q, eq133⟩ := hQ133
      have N133 := Fr.app N130 N133q
      refine own_tr st133 ?_
      show own_Got p e below _ T133 (mkF m 64 #[.val (.int x0), .val (.int x1), .val (.int x2), .val (.ref os_117), .val (.ref os_120), .val (.ref ob_124), .unset, .unset, .unset] [(.ref wI)])
      have f134 : Sta Z T124.heap "com/example/graftwork/graftwork/Resolution$Verdict$Kind" "REFUSED" "Lcom/example/graftwork/graftwork/Resolution$Verdict$Kind;" (.ref wR) := (own_stakeep0 (own_stakeep0 (own_stakeep0 hp1 K117) K120) K124)
      obtain ⟨T135, X135, e135, st135⟩ := getS2 X133 hx hZ hown (host := "") (Or.inl (hw _ (List.mem_of_getElem? (i := 64) rfl))) Via.refl eq133 f134 (g := (mkF m 64 #[.val (.int x0), .val (.int x1), .val (.int x2), .val (.ref os_117), .val (.ref os_120), .val (.ref ob_124), .unset, .unset, .unset] [(.ref wI)])) rfl (hb hby at_64)
      refine own_go st135 ?_
      show own_Got p e below _ T135 (mkF m 67 #[.val (.int x0), .val (.int x1), .val (.int x2), .val (.ref os_117), .val (.ref os_120), .val (.ref ob_124), .unset, .unset, .unset] [(.ref wR), (.ref wI)])
      refine g_acmp X135 hx hby (pc' := 70) false at_67 rfl rfl (decide_eq_false fun q => hp2 (Value.ref.inj q)) (by decide) (by decide) ?_
      refine g_iconst X135 hx hby (1 : Int32) at_70 (by decide) (rfl : 70 + 1 = 71) ?_
      refine g_goto X135 hx hby at_71 (by decide) (pc' := 75) (by decide) ?_
      refine g_istore X135 hx hby #[.val (.int x0), .val (.int x1), .val (.int x2), .val (.ref os_117), .val (.ref os_120), .val (.ref ob_124), .val (.int (1 : Int32)), .unset, .unset] at_75 rfl (rfl : 75 + 2 = 77) ?_
      refine g_aload X135 hx hby at_77 rfl rfl (rfl : 77 + 2 = 79) ?_
      obtain ⟨cq136, kq136, q136a, q136b, q136c⟩ := isOf hZ e135 q124_1
      obtain ⟨_, _, ⟨T136, L136, k136, n136⟩, -, X136, ⟨Lc136, hQ136, l136, y136, z136⟩, st136⟩ := X135.virtualBack hx (y := (⟨"com/example/graftwork/graftwork/Resolution$Verdict", "file", "()Ljava/lang/String;"⟩ : MethodName)) (z := (⟨"com/example/graftwork/graftwork/Resolution$Verdict", "file", "()Ljava/lang/String;"⟩ : MethodName)) hown (mvT hZ (hw _ (List.mem_of_getElem? (i := 66) rfl))) (mvT hZ (hw _ (List.mem_of_getElem? (i := 67) rfl))) (notFace_of_selects (args := #[]) (mvT hZ (hw _ (List.mem_of_getElem? (i := 69) rfl)))) (mvT hZ (hw _ (List.mem_of_getElem? (i := 69) rfl))) (mvT hZ (hw _ (List.mem_of_getElem? (i := 68) rfl))) (by decide) (backOf (W := 0) (rm_g_file l Z aT hw [] ob_124 os_117 T124.heap n0 Z124 q124_3) hZ (hw _ (List.mem_of_getElem? (i := 70) rfl)) (hw _ (List.mem_of_getElem? (i := 36) rfl)) (by decide) (by decide)) q136a q136c (g := (mkF m 79 #[.val (.int x0), .val (.int x1), .val (.int x2), .val (.ref os_117), .val (.ref os_120), .val (.ref ob_124), .val (.int (1 : Int32)), .unset, .unset] [(.ref ob_124)])) rfl (by rw [hml]; rfl) (Steps.refl _) (argsL := []) (rest := []) (lenOf pd10 rfl) rfl (by show 2 * 0 + _ ≤ _; exact Nat.le_of_eq rfl) (hb hby at_79) (fun _ _ => ⟨rfl, e135, (by decide : 7 + 0 ≤ _), (by decide : 15 + 0 ≤ _)⟩)
      dsimp only [Pt.U, Pt.locs, Pt.cells, Pt.slots] at X136 l136 y136 z136 st136 hQ136
      subst l136 y136 z136
      obtain ⟨rfl, N136q, eq136⟩ := hQ136
      have N136 := Fr.app N133 N136q
      refine own_tr st136 ?_
      show own_Got p e below _ T136 (mkF m 82 #[.val (.int x0), .val (.int x1), .val (.int x2), .val (.ref os_117), .val (.ref os_120), .val (.ref ob_124), .val (.int (1 : Int32)), .unset, .unset] [(.ref os_117)])
      refine g_aloadN X136 hx hby at_82 rfl rfl (rfl : 82 + 1 = 83) ?_
      refine g_acmp X136 hx hby (pc' := 86) true at_83 rfl rfl (decide_eq_true rfl) (by decide) (by decide) ?_
      refine g_aload X136 hx hby at_86 rfl rfl (rfl : 86 + 2 = 88) ?_
      obtain ⟨cq137, kq137, q137a, q137b, q137c⟩ := isOf hZ eq136 q124_1
      obtain ⟨_, _, ⟨T137, L137, k137, n137⟩, -, X137, ⟨Lc137, hQ137, l137, y137, z137⟩, st137⟩ := X136.virtualBack hx (y := (⟨"com/example/graftwork/graftwork/Resolution$Verdict", "file", "()Ljava/lang/String;"⟩ : MethodName)) (z := (⟨"com/example/graftwork/graftwork/Resolution$Verdict", "file", "()Ljava/lang/String;"⟩ : MethodName)) hown (mvT hZ (hw _ (List.mem_of_getElem? (i := 66) rfl))) (mvT hZ (hw _ (List.mem_of_getElem? (i := 67) rfl))) (notFace_of_selects (args := #[]) (mvT hZ (hw _ (List.mem_of_getElem? (i := 69) rfl)))) (mvT hZ (hw _ (List.mem_of_getElem? (i := 69) rfl))) (mvT hZ (hw _ (List.mem_of_getElem? (i := 68) rfl))) (by decide) (backOf (W := 0) (rm_g_file l Z aT hw [] ob_124 os_117 T124.heap n0 Z124 q124_3) hZ (hw _ (List.mem_of_getElem? (i := 70) rfl)) (hw _ (List.mem_of_getElem? (i := 36) rfl)) (by decide) (by decide)) q137a q137c (g := (mkF m 88 #[.val (.int x0), .val (.int x1), .val (.int x2), .val (.ref os_117), .val (.ref os_120), .val (.ref ob_124), .val (.int (1 : Int32)), .unset, .unset] [(.ref ob_124)])) rfl (by rw [hml]; rfl) (Steps.refl _) (argsL := []) (rest := []) (lenOf pd10 rfl) rfl (by show 2 * 0 + _ ≤ _; exact Nat.le_of_eq rfl) (hb hby at_88) (fun _ _ => ⟨rfl, eq136, (by decide : 7 + 0 ≤ _), (by decide : 15 + 0 ≤ _)⟩)
      dsimp only [Pt.U, Pt.locs, Pt.cells, Pt.slots] at X137 l137 y137 z137 st137 hQ137
      subst l137 y137 z137
      obtain ⟨rfl, N137q, eq137⟩ := hQ137
      have N137 := Fr.app N136 N137q
      refine own_tr st137 ?_
      show own_Got p e below _ T137 (mkF m 91 #[.val (.int x0), .val (.int x1), .val (.int x2), .val (.ref os_117), .val (.ref os_120), .val (.ref ob_124), .val (.int (1 : Int32)), .unset, .unset] [(.ref os_117)])
      refine g_aloadN X137 hx hby at_91 rfl rfl (rfl : 91 + 1 = 92) ?_
      have f139 : Exa Z T124.heap os_117 "java/lang/String" := (Exa.keep f126 K124)
      obtain ⟨cq138, kq138, q138a, q138b, q138c⟩ := isOf hZ eq137 f139
      obtain ⟨_, _, ⟨T138, L138, k138, n138⟩, -, X138, ⟨Lc138, hQ138, l138, y138, z138⟩, st138⟩ := X137.virtualBack hx (y := (⟨"java/lang/String", "equals", "(Ljava/lang/Object;)Z"⟩ : MethodName)) (z := (⟨"java/lang/String", "equals", "(Ljava/lang/Object;)Z"⟩ : MethodName)) hown (mvT hZ (hw _ (List.mem_of_getElem? (i := 71) rfl))) (mvT hZ (hw _ (List.mem_of_getElem? (i := 72) rfl))) (notFace_of_selects (args := #[]) (mvT hZ (hw _ (List.mem_of_getElem? (i := 74) rfl)))) (mvT hZ (hw _ (List.mem_of_getElem? (i := 74) rfl))) (mvT hZ (hw _ (List.mem_of_getElem? (i := 73) rfl))) (by decide) (backOf (W := 0) (rm_eqS l Z aT hw [] os_117 T124.heap n0 Z124) hZ (hw _ (List.mem_of_getElem? (i := 75) rfl)) (hw _ (List.mem_of_getElem? (i := 6) rfl)) (by decide) (by decide)) q138a q138c (g := (mkF m 92 #[.val (.int x0), .val (.int x1), .val (.int x2), .val (.ref os_117), .val (.ref os_120), .val (.ref ob_124), .val (.int (1 : Int32)), .unset, .unset] [(.ref os_117), (.ref os_117)])) rfl (by rw [hml]; rfl) (Steps.refl _) (argsL := [(.ref os_117)]) (rest := []) (lenOf pd11 rfl) rfl (by show 2 * 0 + _ ≤ _; exact Nat.le_of_eq rfl) (hb hby at_92) (fun _ _ => ⟨rfl, eq137, (by decide : 7 + 0 ≤ _), (by decide : 15 + 0 ≤ _)⟩)
      dsimp only [Pt.U, Pt.locs, Pt.cells, Pt.slots] at X138 l138 y138 z138 st138 hQ138
      subst l138 y138 z138
      obtain ⟨rfl, N138q, eq138⟩ := hQ138
      have N138 := Fr.app N137 N138q
      refine own_tr st138 ?_
      show own_Got p e below _ T138 (mkF m 95 #[.val (.int x0), .val (.int x1), .val (.int x2), .val (.ref os_117), .val (.ref os_120), .val (.ref ob_124), .val (.int (1 : Int32)), .unset, .unset] [(.int (1 : Int32))])
      refine g_ifF X138 hx hby at_95 ((if0 _ _).trans (feq (by decide : ¬ ((1 : Int32) = (0 : Int32)))).1) (rfl : 95 + 3 = 98) ?_
      refine g_iconst X138 hx hby (1 : Int32) at_98 (by decide) (rfl : 98 + 1 = 99) ?_
      refine g_goto X138 hx hby at_99 (by decide) (pc' := 103) (by decide) ?_
      refine g_istore X138 hx hby #[.val (.int x0), .val (.int x1), .val (.int x2), .val (.ref os_117), .val (.ref os_120), .val (.ref ob_124), .val (.int (1 : Int32)), .val (.int (1 : Int32)), .unset] at_103 rfl (rfl : 103 + 2 = 105) ?_
      refine g_aload X138 hx hby at_105 rfl rfl (rfl : 105 + 2 = 107) ?_
      obtain ⟨cq140, kq140, q140a, q140b, q140c⟩ := isOf hZ eq138 q124_1
      obtain ⟨_, _, ⟨T140, L140, k140, n140⟩, -, X140, ⟨Lc140, hQ140, l140, y140, z140⟩, st140⟩ := X138.virtualBack hx (y := (⟨"com/example/graftwork/graftwork/Resolution$Verdict", "reason", "()Ljava/lang/String;"⟩ : MethodName)) (z := (⟨"com/example/graftwork/graftwork/Resolution$Verdict", "reason", "()Ljava/lang/String;"⟩ : MethodName)) hown (mvT hZ (hw _ (List.mem_of_getElem? (i := 76) rfl))) (mvT hZ (hw _ (List.mem_of_getElem? (i := 77) rfl))) (notFace_of_selects (args := #[]) (mvT hZ (hw _ (List.mem_of_getElem? (i := 79) rfl)))) (mvT hZ (hw _ (List.mem_of_getElem? (i := 79) rfl))) (mvT hZ (hw _ (List.mem_of_getElem? (i := 78) rfl))) (by decide) (backOf (W := 0) (rm_g_reason l Z aT hw [] ob_124 os_120 T124.heap n0 Z124 q124_4) hZ (hw _ (List.mem_of_getElem? (i := 80) rfl)) (hw _ (List.mem_of_getElem? (i := 36) rfl)) (by decide) (by decide)) q140a q140c (g := (mkF m 107 #[.val (.int x0), .val (.int x1), .val (.int x2), .val (.ref os_117), .val (.ref os_120), .val (.ref ob_124), .val (.int (1 : Int32)), .val (.int (1 : Int32)), .unset] [(.ref ob_124)])) rfl (by rw [hml]; rfl) (Steps.refl _) (argsL := []) (rest := []) (lenOf pd10 rfl) rfl (by show 2 * 0 + _ ≤ _; exact Nat.le_of_eq rfl) (hb hby at_107) (fun _ _ => ⟨rfl, eq138, (by decide : 7 + 0 ≤ _), (by decide : 15 + 0 ≤ _)⟩)
      dsimp only [Pt.U, Pt.locs, Pt.cells, Pt.slots] at X140 l140 y140 z140 st140 hQ140
      subst l140 y140 z140
      obtain ⟨rfl, N140q, eq140⟩ := hQ140
      have N140 := Fr.app N138 N140q
      refine own_tr st140 ?_
      show own_Got p e below _ T140 (mkF m 110 #[.val (.int x0), .val (.int x1), .val (.int x2), .val (.ref os_117), .val (.ref os_120), .val (.ref ob_124), .val (.int (1 : Int32)), .val (.int (1 : Int32)), .unset] [(.ref os_120)])
      refine g_aload X140 hx hby at_110 rfl rfl (rfl : 110 + 2 = 112) ?_
      refine g_acmp X140 hx hby (pc' := 115) true at_112 rfl rfl (decide_eq_true rfl) (by decide) (by decide) ?_
      refine g_aload X140 hx hby at_115 rfl rfl (rfl : 115 + 2 = 117) ?_
      obtain ⟨cq141, kq141, q141a, q141b, q141c⟩ := isOf hZ eq140 q124_1
      obtain ⟨_, _, ⟨T141, L141, k141, n141⟩, -, X141, ⟨Lc141, hQ141, l141, y141, z141⟩, st141⟩ := X140.virtualBack hx (y := (⟨"com/example/graftwork/graftwork/Resolution$Verdict", "reason", "()Ljava/lang/String;"⟩ : MethodName)) (z := (⟨"com/example/graftwork/graftwork/Resolution$Verdict", "reason", "()Ljava/lang/String;"⟩ : MethodName)) hown (mvT hZ (hw _ (List.mem_of_getElem? (i := 76) rfl))) (mvT hZ (hw _ (List.mem_of_getElem? (i := 77) rfl))) (notFace_of_selects (args := #[]) (mvT hZ (hw _ (List.mem_of_getElem? (i := 79) rfl)))) (mvT hZ (hw _ (List.mem_of_getElem? (i := 79) rfl))) (mvT hZ (hw _ (List.mem_of_getElem? (i := 78) rfl))) (by decide) (backOf (W := 0) (rm_g_reason l Z aT hw [] ob_124 os_120 T124.heap n0 Z124 q124_4) hZ (hw _ (List.mem_of_getElem? (i := 80) rfl)) (hw _ (List.mem_of_getElem? (i := 36) rfl)) (by decide) (by decide)) q141a q141c (g := (mkF m 117 #[.val (.int x0), .val (.int x1), .val (.int x2), .val (.ref os_117), .val (.ref os_120), .val (.ref ob_124), .val (.int (1 : Int32)), .val (.int (1 : Int32)), .unset] [(.ref ob_124)])) rfl (by rw [hml]; rfl) (Steps.refl _) (argsL := []) (rest := []) (lenOf pd10 rfl) rfl (by show 2 * 0 + _ ≤ _; exact Nat.le_of_eq rfl) (hb hby at_117) (fun _ _ => ⟨rfl, eq140, (by decide : 7 + 0 ≤ _), (by decide : 15 + 0 ≤ _)⟩)
      dsimp only [Pt.U, Pt.locs, Pt.cells, Pt.slots] at X141 l141 y141 z141 st141 hQ141
      subst l141 y141 z141
      obtain ⟨rfl, N141q, eq141⟩ := hQ141
      have N141 := Fr.app N140 N141q
      refine own_tr st141 ?_
      show own_Got p e below _ T141 (mkF m 120 #[.val (.int x0), .val (.int x1), .val (.int x2), .val (.ref os_117), .val (.ref os_120), .val (.ref ob_124), .val (.int (1 : Int32)), .val (.int (1 : Int32)), .unset] [(.ref os_120)])
      refine g_aload X141 hx hby at_120 rfl rfl (rfl : 120 + 2 = 122) ?_
      have f143 : Exa Z T124.heap os_120 "java/lang/String" := (Exa.keep q120_1 K124)
      obtain ⟨cq142, kq142, q142a, q142b, q142c⟩ := isOf hZ eq141 f143
      obtain ⟨_, _, ⟨T142, L142, k142, n142⟩, -, X142, ⟨Lc142, hQ142, l142, y142, z142⟩, st142⟩ := X141.virtualBack hx (y := (⟨"java/lang/String", "equals", "(Ljava/lang/Object;)Z"⟩ : MethodName)) (z := (⟨"java/lang/String", "equals", "(Ljava/lang/Object;)Z"⟩ : MethodName)) hown (mvT hZ (hw _ (List.mem_of_getElem? (i := 71) rfl))) (mvT hZ (hw _ (List.mem_of_getElem? (i := 72) rfl))) (notFace_of_selects (args := #[]) (mvT hZ (hw _ (List.mem_of_getElem? (i := 74) rfl)))) (mvT hZ (hw _ (List.mem_of_getElem? (i := 74) rfl))) (mvT hZ (hw _ (List.mem_of_getElem? (i := 73) rfl))) (by decide) (backOf (W := 0) (rm_eqS l Z aT hw [] os_120 T124.heap n0 Z124) hZ (hw _ (List.mem_of_getElem? (i := 75) rfl)) (hw _ (List.mem_of_getElem? (i := 6) rfl)) (by decide) (by decide)) q142a q142c (g := (mkF m 122 #[.val (.int x0), .val (.int x1), .val (.int x2), .val (.ref os_117), .val (.ref os_120), .val (.ref ob_124), .val (.int (1 : Int32)), .val (.int (1 : Int32)), .unset] [(.ref os_120), (.ref os_120)])) rfl (by rw [hml]; rfl) (Steps.refl _) (argsL := [(.ref os_120)]) (rest := []) (lenOf pd11 rfl) rfl (by show 2 * 0 + _ ≤ _; exact Nat.le_of_eq rfl) (hb hby at_122) (fun _ _ => ⟨rfl, eq141, (by decide : 7 + 0 ≤ _), (by decide : 15 + 0 ≤ _)⟩)
      dsimp only [Pt.U, Pt.locs, Pt.cells, Pt.slots] at X142 l142 y142 z142 st142 hQ142
      subst l142 y142 z142
      obtain ⟨rfl, N142q, eq142⟩ := hQ142
      have N142 := Fr.app N141 N142q
      refine own_tr st142 ?_
      show own_Got p e below _ T142 (mkF m 125 #[.val (.int x0), .val (.int x1), .val (.int x2), .val (.ref os_117), .val (.ref os_120), .val (.ref ob_124), .val (.int (1 : Int32)), .val (.int (1 : Int32)), .unset] [(.int (1 : Int32))])
      refine g_ifF X142 hx hby at_125 ((if0 _ _).trans (feq (by decide : ¬ ((1 : Int32) = (0 : Int32)))).1) (rfl : 125 + 3 = 128) ?_
      refine g_iconst X142 hx hby (1 : Int32) at_128 (by decide) (rfl : 128 + 1 = 129) ?_
      refine g_goto X142 hx hby at_129 (by decide) (pc' := 133) (by decide) ?_
      refine g_istore X142 hx hby #[.val (.int x0), .val (.int x1), .val (.int x2), .val (.ref os_117), .val (.ref os_120), .val (.ref ob_124), .val (.int (1 : Int32)), .val (.int (1 : Int32)), .val (.int (1 : Int32))] at_133 rfl (rfl : 133 + 2 = 135) ?_
      refine g_iload X142 hx hby at_135 rfl (rfl : 135 + 2 = 137) ?_
      refine g_ifF X142 hx hby at_137 ((if0 _ _).trans (feq (by decide : ¬ ((1 : Int32) = (0 : Int32)))).1) (rfl : 137 + 3 = 140) ?_
      refine g_iload X142 hx hby at_140 rfl (rfl : 140 + 2 = 142) ?_
      refine g_ifF X142 hx hby at_142 ((if0 _ _).trans (feq (by decide : ¬ ((1 : Int32) = (0 : Int32)))).1) (rfl : 142 + 3 = 145) ?_
      refine g_iload X142 hx hby at_145 rfl (rfl : 145 + 2 = 147) ?_
      refine g_ifF X142 hx hby at_147 ((if0 _ _).trans (feq (by decide : ¬ ((1 : Int32) = (0 : Int32)))).1) (rfl : 147 + 3 = 150) ?_
      refine g_iconst X142 hx hby (1 : Int32) at_150 (by decide) (rfl : 150 + 1 = 151) ?_
      refine g_goto X142 hx hby at_151 (by decide) (pc' := 155) (by decide) ?_
      refine own_retN X142 hx hby hlk (t := .boolean) hrt (by simp) at_155 (by decide) (by decide) ?_
      show Q_law Z x0 x1 x2 wI wR g1 h0 n0 _ T142.heap _
      exact ⟨rfl, N142⟩
    · refine g_ifF X117 hx hby at_20 ((if0 _ _).trans (feq c119).1) (rfl : 20 + 3 = 23) ?_
      refine g_iconst X117 hx hby (1 : Int32) at_23 (by decide) (rfl : 23 + 1 = 24) ?_
      refine g_goto X117 hx hby at_24 (by decide) (pc' := 28) (by decide) ?_
      have f145 : Sta Z T117.heap "java/lang/String" "COMPACT_STRINGS" "Z" (.int g1) := (own_stakeep0 hp3 K117)
      obtain ⟨_, _, ⟨T144, L144, k144, n144⟩, -, X144, ⟨Lc144, hQ144, l144, y144, z144⟩, st144⟩ := Jvm.LawKit.callS X117 hx (y := (⟨"com/example/graftwork/graftwork/VerdictIgnoredPinLaw", "text", "(IZ)Ljava/lang/String;"⟩ : MethodName)) hown (mvT hZ (hw _ (List.mem_of_getElem? (i := 0) rfl))) (mvT hZ (hw _ (List.mem_of_getElem? (i := 1) rfl))) (mvT hZ (hw _ (List.mem_of_getElem? (i := 2) rfl))) (mvT hZ (hw _ (List.mem_of_getElem? (i := 3) rfl))) (by decide) (backOf (W := 0) (rm_tx1 l Z aT hw [] x1 g1 T117.heap n0 Z117 f145 hg1) hZ (hw _ (List.mem_of_getElem? (i := 3) rfl)) (hw _ (List.mem_of_getElem? (i := 2) rfl)) (by decide) (by decide)) (g := (mkF m 28 #[.val (.int x0), .val (.int x1), .val (.int x2), .val (.ref os_117), .unset, .unset, .unset, .unset, .unset] [(.int (1 : Int32)), (.int x1)])) rfl (by rw [hml]; rfl) (argsL := [(.int x1), (.int (1 : Int32))]) (rest := []) (lenOf pd7 rfl) rfl (by show 2 * 0 + _ ≤ _; exact Nat.le_of_eq rfl) (hb hby at_28) (fun _ _ => ⟨rfl, rfl, (by decide : 3 + 3 ≤ _), (by decide : 6 + 8 ≤ _)⟩)
      dsimp only [Pt.U, Pt.locs, Pt.cells, Pt.slots] at X144 l144 y144 z144 st144 hQ144
      subst l144 y144 z144
      obtain ⟨os_144, rfl, N144q, K144, q144_0, q144_1⟩ := hQ144
      have N144 := Fr.app N117 N144q
      have Z144 : n0 ≤ T144.heap.size := Nat.le_trans Z117 K144.1
      have ne146 : os_117 ≠ os_144 := Nat.ne_of_lt (Nat.lt_of_lt_of_le (q117_1).lt q144_0)
      have ge147 : n0 ≤ os_144 := Nat.le_trans Z117 q144_0
      refine own_go st144 ?_
      show own_Got p e below _ T144 (mkF m 31 #[.val (.int x0), .val (.int x1), .val (.int x2), .val (.ref os_117), .unset, .unset, .unset, .unset, .unset] [(.ref os_144)])
      refine g_astore X144 hx hby #[.val (.int x0), .val (.int x1), .val (.int x2), .val (.ref os_117), .val (.ref os_144), .unset, .unset, .unset, .unset] at_31 rfl rfl (rfl : 31 + 2 = 33) ?_
      refine g_aloadN X144 hx hby at_33 rfl rfl (rfl : 33 + 1 = 34) ?_
      refine g_aload X144 hx hby at_34 rfl rfl (rfl : 34 + 2 = 36) ?_
      have f149 : Sta Z T144.heap "com/example/graftwork/graftwork/Resolution$Verdict$Kind" "IGNORED" "Lcom/example/graftwork/graftwork/Resolution$Verdict$Kind;" (.ref wI) := (own_stakeep0 (own_stakeep0 hp0 K117) K144)
      have f150 : Exa Z T144.heap os_117 "java/lang/String" := (Exa.keep q117_1 K144)
      obtain ⟨_, _, ⟨T148, L148, k148, n148⟩, -, X148, ⟨Lc148, hQ148, l148, y148, z148⟩, st148⟩ := Jvm.LawKit.callS X144 hx (y := (⟨"com/example/graftwork/graftwork/Resolution$Verdict", "ignored", "(Ljava/lang/String;Ljava/lang/String;)Lcom/example/graftwork/graftwork/Resolution$Verdict;"⟩ : MethodName)) hown (mvT hZ (hw _ (List.mem_of_getElem? (i := 34) rfl))) (mvT hZ (hw _ (List.mem_of_getElem? (i := 35) rfl))) (mvT hZ (hw _ (List.mem_of_getElem? (i := 36) rfl))) (mvT hZ (hw _ (List.mem_of_getElem? (i := 37) rfl))) (by decide) (backOf (W := 0) (rm_ign l Z aT hw [] os_117 os_144 wI T144.heap n0 Z144 f149) hZ (hw _ (List.mem_of_getElem? (i := 37) rfl)) (hw _ (List.mem_of_getElem? (i := 36) rfl)) (by decide) (by decide)) (g := (mkF m 36 #[.val (.int x0), .val (.int x1), .val (.int x2), .val (.ref os_117), .val (.ref os_144), .unset, .unset, .unset, .unset] [(.ref os_144), (.ref os_117)])) rfl (by rw [hml]; rfl) (argsL := [(.ref os_117), (.ref os_144)]) (rest := []) (lenOf pd8 rfl) rfl (by show 2 * 0 + _ ≤ _; exact Nat.le_of_eq rfl) (hb hby at_36) (fun _ _ => ⟨rfl, rfl, (by decide : 6 + 1 ≤ _), (by decide : 14 + 3 ≤ _)⟩)
      dsimp only [Pt.U, Pt.locs, Pt.cells, Pt.slots] at X148 l148 y148 z148 st148 hQ148
      subst l148 y148 z148
      obtain ⟨ob_148, rfl, N148q, K148, q148_0, q148_1, q148_2, q148_3, q148_4⟩ := hQ148
      have N148 := Fr.app N144 N148q
      have Z148 : n0 ≤ T148.heap.size := Nat.le_trans Z144 K148.1
      have ne151 : os_117 ≠ ob_148 := Nat.ne_of_lt (Nat.lt_of_lt_of_le (f150).lt q148_0)
      have ne152 : os_144 ≠ ob_148 := Nat.ne_of_lt (Nat.lt_of_lt_of_le (q144_1).lt q148_0)
      have ge153 : n0 ≤ ob_148 := Nat.le_trans Z144 q148_0
      refine own_go st148 ?_
      show own_Got p e below _ T148 (mkF m 39 #[.val (.int x0), .val (.int x1), .val (.int x2), .val (.ref os_117), .val (.ref os_144), .unset, .unset, .unset, .unset] [(.ref ob_148)])
      refine g_astore X148 hx hby #[.val (.int x0), .val (.int x1), .val (.int x2), .val (.ref os_117), .val (.ref os_144), .val (.ref ob_148), .unset, .unset, .unset] at_39 rfl rfl (rfl : 39 + 2 = 41) ?_
      refine g_aload X148 hx hby at_41 rfl rfl (rfl : 41 + 2 = 43) ?_
      refine g_innT X148 hx hby at_43 (by decide) (pc' := 48) (by decide) ?_
      refine g_aload X148 hx hby at_48 rfl rfl (rfl : 48 + 2 = 50) ?_
      obtain ⟨cq154, kq154, q154a, q154b, q154c⟩ := isOf hZ rfl q148_1
      obtain ⟨_, _, ⟨T154, L154, k154, n154⟩, -, X154, ⟨Lc154, hQ154, l154, y154, z154⟩, st154⟩ := X148.virtualBack hx (y := (⟨"com/example/graftwork/graftwork/Resolution$Verdict", "kind", "()Lcom/example/graftwork/graftwork/Resolution$Verdict$Kind;"⟩ : MethodName)) (z := (⟨"com/example/graftwork/graftwork/Resolution$Verdict", "kind", "()Lcom/example/graftwork/graftwork/Resolution$Verdict$Kind;"⟩ : MethodName)) hown (mvT hZ (hw _ (List.mem_of_getElem? (i := 58) rfl))) (mvT hZ (hw _ (List.mem_of_getElem? (i := 59) rfl))) (notFace_of_selects (args := #[]) (mvT hZ (hw _ (List.mem_of_getElem? (i := 61) rfl)))) (mvT hZ (hw _ (List.mem_of_getElem? (i := 61) rfl))) (mvT hZ (hw _ (List.mem_of_getElem? (i := 60) rfl))) (by decide) (backOf (W := 0) (rm_g_kind l Z aT hw [] ob_148 wI T148.heap n0 Z148 q148_2) hZ (hw _ (List.mem_of_getElem? (i := 62) rfl)) (hw _ (List.mem_of_getElem? (i := 36) rfl)) (by decide) (by decide)) q154a q154c (g := (mkF m 50 #[.val (.int x0), .val (.int x1), .val (.int x2), .val (.ref os_117), .val (.ref os_144), .val (.ref ob_148), .unset, .unset, .unset] [(.ref ob_148)])) rfl (by rw [hml]; rfl) (Steps.refl _) (argsL := []) (rest := []) (lenOf pd9 rfl) rfl (by show 2 * 0 + _ ≤ _; exact Nat.le_of_eq rfl) (hb hby at_50) (fun _ _ => ⟨rfl, rfl, (by decide : 7 + 0 ≤ _), (by decide : 17 + 0 ≤ _)⟩)
      dsimp only [Pt.U, Pt.locs, Pt.cells, Pt.slots] at X154 l154 y154 z154 st154 hQ154
      subst l154 y154 z154
      obtain ⟨rfl, N154q, eq154⟩ := hQ154
      have N154 := Fr.app N148 N154q
      refine own_tr st154 ?_
      show own_Got p e below _ T154 (mkF m 53 #[.val (.int x0), .val (.int x1), .val (.int x2), .val (.ref os_117), .val (.ref os_144), .val (.ref ob_148), .unset, .unset, .unset] [(.ref wI)])
      have f155 : Sta Z T148.heap "com/example/graftwork/graftwork/Resolution$Verdict$Kind" "IGNORED" "Lcom/example/graftwork/graftwork/Resolution$Verdict$Kind;" (.ref wI) := (own_stakeep0 f149 K148)
      obtain ⟨T156, X156, e156, st156⟩ := getS2 X154 hx hZ hown (host := "") (Or.inl (hw _ (List.mem_of_getElem? (i := 63) rfl))) Via.refl eq154 f155 (g := (mkF m 53 #[.val (.int x0), .val (.int x1), .val (.int x2), .val (.ref os_117), .val (.ref os_144), .val (.ref ob_148), .unset, .unset, .unset] [(.ref wI)])) rfl (hb hby at_53)
      refine own_go st156 ?_
      show own_Got p e below _ T156 (mkF m 56 #[.val (.int x0), .val (.int x1), .val (.int x2), .val (.ref os_117), .val (.ref os_144), .val (.ref ob_148), .unset, .unset, .unset] [(.ref wI), (.ref wI)])
      refine g_acmp X156 hx hby (pc' := 59) true at_56 rfl rfl (decide_eq_true rfl) (by decide) (by decide) ?_
      refine g_aload X156 hx hby at_59 rfl rfl (rfl : 59 + 2 = 61) ?_
      obtain ⟨cq157, kq157, q157a, q157b, q157c⟩ := isOf hZ e156 q148_1
      obtain ⟨_, _, ⟨T157, L157, k157, n157⟩, -, X157, ⟨Lc157, hQ157, l157, y157, z157⟩, st157⟩ := X156.virtualBack hx (y := (⟨"com/example/graftwork/graftwork/Resolution$Verdict", "kind", "()Lcom/example/graftwork/graftwork/Resolution$Verdict$Kind;"⟩ : MethodName)) (z := (⟨"com/example/graftwork/graftwork/Resolution$Verdict", "kind", "()Lcom/example/graftwork/graftwork/Resolution$Verdict$Kind;"⟩ : MethodName)) hown (mvT hZ (hw _ (List.mem_of_getElem? (i := 58) rfl))) (mvT hZ (hw _ (List.mem_of_getElem? (i := 59) rfl))) (notFace_of_selects (args := #[]) (mvT hZ (hw _ (List.mem_of_getElem? (i := 61) rfl)))) (mvT hZ (hw _ (List.mem_of_getElem? (i := 61) rfl))) (mvT hZ (hw _ (List.mem_of_getElem? (i := 60) rfl))) (by decide) (backOf (W := 0) (rm_g_kind l Z aT hw [] ob_148 wI T148.heap n0 Z148 q148_2) hZ (hw _ (List.mem_of_getElem? (i := 62) rfl)) (hw _ (List.mem_of_getElem? (i := 36) rfl)) (by decide) (by decide)) q157a q157c (g := (mkF m 61 #[.val (.int x0), .val (.int x1), .val (.int x2), .val (.ref os_117), .val (.ref os_144), .val (.ref ob_148), .unset, .unset, .unset] [(.ref ob_148)])) rfl (by rw [hml]; rfl) (Steps.refl _) (argsL := []) (rest := []) (lenOf pd9 rfl) rfl (by show 2 * 0 + _ ≤ _; exact Nat.le_of_eq rfl) (hb hby at_61) (fun _ _ => ⟨rfl, e156, (by decide : 7 + 0 ≤ _), (by decide : 17 + 0 ≤ _)⟩)
      dsimp only [Pt.U, Pt.locs, Pt.cells, Pt.slots] at X157 l157 y157 z157 st157 hQ157
      subst l157 y157 z157
      obtain ⟨rfl, N157q, eq157⟩ := hQ157
      have N157 := Fr.app N154 N157q
      refine own_tr st157 ?_
      show own_Got p e below _ T157 (mkF m 64 #[.val (.int x0), .val (.int x1), .val (.int x2), .val (.ref os_117), .val (.ref os_144), .val (.ref ob_148), .unset, .unset, .unset] [(.ref wI)])
      have f158 : Sta Z T148.heap "com/example/graftwork/graftwork/Resolution$Verdict$Kind" "REFUSED" "Lcom/example/graftwork/graftwork/Resolution$Verdict$Kind;" (.ref wR) := (own_stakeep0 (own_stakeep0 (own_stakeep0 hp1 K117) K144) K148)
      obtain ⟨T159, X159, e159, st159⟩ := getS2 X157 hx hZ hown (host := "") (Or.inl (hw _ (List.mem_of_getElem? (i := 64) rfl))) Via.refl eq157 f158 (g := (mkF m 64 #[.val (.int x0), .val (.int x1), .val (.int x2), .val (.ref os_117), .val (.ref os_144), .val (.ref ob_148), .unset, .unset, .unset] [(.ref wI)])) rfl (hb hby at_64)
      refine own_go st159 ?_
      show own_Got p e below _ T159 (mkF m 67 #[.val (.int x0), .val (.int x1), .val (.int x2), .val (.ref os_117), .val (.ref os_144), .val (.ref ob_148), .unset, .unset, .unset] [(.ref wR), (.ref wI)])
      refine g_acmp X159 hx hby (pc' := 70) false at_67 rfl rfl (decide_eq_false fun q => hp2 (Value.ref.inj q)) (by decide) (by decide) ?_
      refine g_iconst X159 hx hby (1 : Int32) at_70 (by decide) (rfl : 70 + 1 = 71) ?_
      refine g_goto X159 hx hby at_71 (by decide) (pc' := 75) (by decide) ?_
      refine g_istore X159 hx hby #[.val (.int x0), .val (.int x1), .val (.int x2), .val (.ref os_117), .val (.ref os_144), .val (.ref ob_148), .val (.int (1 : Int32)), .unset, .unset] at_75 rfl (rfl : 75 + 2 = 77) ?_
      refine g_aload X159 hx hby at_77 rfl rfl (rfl : 77 + 2 = 79) ?_
      obtain ⟨cq160, kq160, q160a, q160b, q160c⟩ := isOf hZ e159 q148_1
      obtain ⟨_, _, ⟨T160, L160, k160, n160⟩, -, X160, ⟨Lc160, hQ160, l160, y160, z160⟩, st160⟩ := X159.virtualBack hx (y := (⟨"com/example/graftwork/graftwork/Resolution$Verdict", "file", "()Ljava/lang/String;"⟩ : MethodName)) (z := (⟨"com/example/graftwork/graftwork/Resolution$Verdict", "file", "()Ljava/lang/String;"⟩ : MethodName)) hown (mvT hZ (hw _ (List.mem_of_getElem? (i := 66) rfl))) (mvT hZ (hw _ (List.mem_of_getElem? (i := 67) rfl))) (notFace_of_selects (args := #[]) (mvT hZ (hw _ (List.mem_of_getElem? (i := 69) rfl)))) (mvT hZ (hw _ (List.mem_of_getElem? (i := 69) rfl))) (mvT hZ (hw _ (List.mem_of_getElem? (i := 68) rfl))) (by decide) (backOf (W := 0) (rm_g_file l Z aT hw [] ob_148 os_117 T148.heap n0 Z148 q148_3) hZ (hw _ (List.mem_of_getElem? (i := 70) rfl)) (hw _ (List.mem_of_getElem? (i := 36) rfl)) (by decide) (by decide)) q160a q160c (g := (mkF m 79 #[.val (.int x0), .val (.int x1), .val (.int x2), .val (.ref os_117), .val (.ref os_144), .val (.ref ob_148), .val (.int (1 : Int32)), .unset, .unset] [(.ref ob_148)])) rfl (by rw [hml]; rfl) (Steps.refl _) (argsL := []) (rest := []) (lenOf pd10 rfl) rfl (by show 2 * 0 + _ ≤ _; exact Nat.le_of_eq rfl) (hb hby at_79) (fun _ _ => ⟨rfl, e159, (by decide : 7 + 0 ≤ _), (by decide : 17 + 0 ≤ _)⟩)
      dsimp only [Pt.U, Pt.locs, Pt.cells, Pt.slots] at X160 l160 y160 z160 st160 hQ160
      subst l160 y160 z160
      obtain ⟨rfl, N160q, eq160⟩ := hQ160
      have N160 := Fr.app N157 N160q
      refine own_tr st160 ?_
      show own_Got p e below _ T160 (mkF m 82 #[.val (.int x0), .val (.int x1), .val (.int x2), .val (.ref os_117), .val (.ref os_144), .val (.ref ob_148), .val (.int (1 : Int32)), .unset, .unset] [(.ref os_117)])
      refine g_aloadN X160 hx hby at_82 rfl rfl (rfl : 82 + 1 = 83) ?_
      refine g_acmp X160 hx hby (pc' := 86) true at_83 rfl rfl (decide_eq_true rfl) (by decide) (by decide) ?_
      refine g_aload X160 hx hby at_86 rfl rfl (rfl : 86 + 2 = 88) ?_
      obtain ⟨cq161, kq161, q161a, q161b, q161c⟩ := isOf hZ eq160 q148_1
      obtain ⟨_, _, ⟨T161, L161, k161, n161⟩, -, X161, ⟨Lc161, hQ161, l161, y161, z161⟩, st161⟩ := X160.virtualBack hx (y := (⟨"com/example/graftwork/graftwork/Resolution$Verdict", "file", "()Ljava/lang/String;"⟩ : MethodName)) (z := (⟨"com/example/graftwork/graftwork/Resolution$Verdict", "file", "()Ljava/lang/String;"⟩ : MethodName)) hown (mvT hZ (hw _ (List.mem_of_getElem? (i := 66) rfl))) (mvT hZ (hw _ (List.mem_of_getElem? (i := 67) rfl))) (notFace_of_selects (args := #[]) (mvT hZ (hw _ (List.mem_of_getElem? (i := 69) rfl)))) (mvT hZ (hw _ (List.mem_of_getElem? (i := 69) rfl))) (mvT hZ (hw _ (List.mem_of_getElem? (i := 68) rfl))) (by decide) (backOf (W := 0) (rm_g_file l Z aT hw [] ob_148 os_117 T148.heap n0 Z148 q148_3) hZ (hw _ (List.mem_of_getElem? (i := 70) rfl)) (hw _ (List.mem_of_getElem? (i := 36) rfl)) (by decide) (by decide)) q161a q161c (g := (mkF m 88 #[.val (.int x0), .val (.int x1), .val (.int x2), .val (.ref os_117), .val (.ref os_144), .val (.ref ob_148), .val (.int (1 : Int32)), .unset, .unset] [(.ref ob_148)])) rfl (by rw [hml]; rfl) (Steps.refl _) (argsL := []) (rest := []) (lenOf pd10 rfl) rfl (by show 2 * 0 + _ ≤ _; exact Nat.le_of_eq rfl) (hb hby at_88) (fun _ _ => ⟨rfl, eq160, (by decide : 7 + 0 ≤ _), (by decide : 17 + 0 ≤ _)⟩)
      dsimp only [Pt.U, Pt.locs, Pt.cells, Pt.slots] at X161 l161 y161 z161 st161 hQ161
      subst l161 y161 z161
      obtain ⟨rfl, N161q, eq161⟩ := hQ161
      have N161 := Fr.app N160 N161q
      refine own_tr st161 ?_
      show own_Got p e below _ T161 (mkF m 91 #[.val (.int x0), .val (.int x1), .val (.int x2), .val (.ref os_117), .val (.ref os_144), .val (.ref ob_148), .val (.int (1 : Int32)), .unset, .unset] [(.ref os_117)])
      refine g_aloadN X161 hx hby at_91 rfl rfl (rfl : 91 + 1 = 92) ?_
      have f163 : Exa Z T148.heap os_117 "java/lang/String" := (Exa.keep f150 K148)
      obtain ⟨cq162, kq162, q162a, q162b, q162c⟩ := isOf hZ eq161 f163
      obtain ⟨_, _, ⟨T162, L162, k162, n162⟩, -, X162, ⟨Lc162, hQ162, l162, y162, z162⟩, st162⟩ := X161.virtualBack hx (y := (⟨"java/lang/String", "equals", "(Ljava/lang/Object;)Z"⟩ : MethodName)) (z := (⟨"java/lang/String", "equals", "(Ljava/lang/Object;)Z"⟩ : MethodName)) hown (mvT hZ (hw _ (List.mem_of_getElem? (i := 71) rfl))) (mvT hZ (hw _ (List.mem_of_getElem? (i := 72) rfl))) (notFace_of_selects (args := #[]) (mvT hZ (hw _ (List.mem_of_getElem? (i := 74) rfl)))) (mvT hZ (hw _ (List.mem_of_getElem? (i := 74) rfl))) (mvT hZ (hw _ (List.mem_of_getElem? (i := 73) rfl))) (by decide) (backOf (W := 0) (rm_eqS l Z aT hw [] os_117 T148.heap n0 Z148) hZ (hw _ (List.mem_of_getElem? (i := 75) rfl)) (hw _ (List.mem_of_getElem? (i := 6) rfl)) (by decide) (by decide)) q162a q162c (g := (mkF m 92 #[.val (.int x0), .val (.int x1), .val (.int x2), .val (.ref os_117), .val (.ref os_144), .val (.ref ob_148), .val (.int (1 : Int32)), .unset, .unset] [(.ref os_117), (.ref os_117)])) rfl (by rw [hml]; rfl) (Steps.refl _) (argsL := [(.ref os_117)]) (rest := []) (lenOf pd11 rfl) rfl (by show 2 * 0 + _ ≤ _; exact Nat.le_of_eq rfl) (hb hby at_92) (fun _ _ => ⟨rfl, eq161, (by decide : 7 + 0 ≤ _), (by decide : 17 + 0 ≤ _)⟩)
      dsimp only [Pt.U, Pt.locs, Pt.cells, Pt.slots] at X162 l162 y162 z162 st162 hQ162
      subst l162 y162 z162
      obtain ⟨rfl, N162q, eq162⟩ := hQ162
      have N162 := Fr.app N161 N162q
      refine own_tr st162 ?_
      show own_Got p e below _ T162 (mkF m 95 #[.val (.int x0), .val (.int x1), .val (.int x2), .val (.ref os_117), .val (.ref os_144), .val (.ref ob_148), .val (.int (1 : Int32)), .unset, .unset] [(.int (1 : Int32))])
      refine g_ifF X162 hx hby at_95 ((if0 _ _).trans (feq (by decide : ¬ ((1 : Int32) = (0 : Int32)))).1) (rfl : 95 + 3 = 98) ?_
      refine g_iconst X162 hx hby (1 : Int32) at_98 (by decide) (rfl : 98 + 1 = 99) ?_
      refine g_goto X162 hx hby at_99 (by decide) (pc' := 103) (by decide) ?_
      refine g_istore X162 hx hby #[.val (.int x0), .val (.int x1), .val (.int x2), .val (.ref os_117), .val (.ref os_144), .val (.ref ob_148), .val (.int (1 : Int32)), .val (.int (1 : Int32)), .unset] at_103 rfl (rfl : 103 + 2 = 105) ?_
      refine g_aload X162 hx hby at_105 rfl rfl (rfl : 105 + 2 = 107) ?_
      obtain ⟨cq164, kq164, q164a, q164b, q164c⟩ := isOf hZ eq162 q148_1
      obtain ⟨_, _, ⟨T164, L164, k164, n164⟩, -, X164, ⟨Lc164, hQ164, l164, y164, z164⟩, st164⟩ := X162.virtualBack hx (y := (⟨"com/example/graftwork/graftwork/Resolution$Verdict", "reason", "()Ljava/lang/String;"⟩ : MethodName)) (z := (⟨"com/example/graftwork/graftwork/Resolution$Verdict", "reason", "()Ljava/lang/String;"⟩ : MethodName)) hown (mvT hZ (hw _ (List.mem_of_getElem? (i := 76) rfl))) (mvT hZ (hw _ (List.mem_of_getElem? (i := 77) rfl))) (notFace_of_selects (args := #[]) (mvT hZ (hw _ (List.mem_of_getElem? (i := 79) rfl)))) (mvT hZ (hw _ (List.mem_of_getElem? (i := 79) rfl))) (mvT hZ (hw _ (List.mem_of_getElem? (i := 78) rfl))) (by decide) (backOf (W := 0) (rm_g_reason l Z aT hw [] ob_148 os_144 T148.heap n0 Z148 q148_4) hZ (hw _ (List.mem_of_getElem? (i := 80) rfl)) (hw _ (List.mem_of_getElem? (i := 36) rfl)) (by decide) (by decide)) q164a q164c (g := (mkF m 107 #[.val (.int x0), .val (.int x1), .val (.int x2), .val (.ref os_117), .val (.ref os_144), .val (.ref ob_148), .val (.int (1 : Int32)), .val (.int (1 : Int32)), .unset] [(.ref ob_148)])) rfl (by rw [hml]; rfl) (Steps.refl _) (argsL := []) (rest := []) (lenOf pd10 rfl) rfl (by show 2 * 0 + _ ≤ _; exact Nat.le_of_eq rfl) (hb hby at_107) (fun _ _ => ⟨rfl, eq162, (by decide : 7 + 0 ≤ _), (by decide : 17 + 0 ≤ _)⟩)
      dsimp only [Pt.U, Pt.locs, Pt.cells, Pt.slots] at X164 l164 y164 z164 st164 hQ164
      subst l164 y164 z164
      obtain ⟨rfl, N164q, eq164⟩ := hQ164
      have N164 := Fr.app N162 N164q
      refine own_tr st164 ?_
      show own_Got p e below _ T164 (mkF m 110 #[.val (.int x0), .val (.int x1), .val (.int x2), .val (.ref os_117), .val (.ref os_144), .val (.ref ob_148), .val (.int (1 : Int32)), .val (.int (1 : Int32)), .unset] [(.ref os_144)])
      refine g_aload X164 hx hby at_110 rfl rfl (rfl : 110 + 2 = 112) ?_
      refine g_acmp X164 hx hby (pc' := 115) true at_112 rfl rfl (decide_eq_true rfl) (by decide) (by decide) ?_
      refine g_aload X164 hx hby at_115 rfl rfl (rfl : 115 + 2 = 117) ?_
      obtain ⟨cq165, kq165, q165a, q165b, q165c⟩ := isOf hZ eq164 q148_1
      obtain ⟨_, _, ⟨T165, L165, k165, n165⟩, -, X165, ⟨Lc165, hQ165, l165, y165, z165⟩, st165⟩ := X164.virtualBack hx (y := (⟨"com/example/graftwork/graftwork/Resolution$Verdict", "reason", "()Ljava/lang/String;"⟩ : MethodName)) (z := (⟨"com/example/graftwork/graftwork/Resolution$Verdict", "reason", "()Ljava/lang/String;"⟩ : MethodName)) hown (mvT hZ (hw _ (List.mem_of_getElem? (i := 76) rfl))) (mvT hZ (hw _ (List.mem_of_getElem? (i := 77) rfl))) (notFace_of_selects (args := #[]) (mvT hZ (hw _ (List.mem_of_getElem? (i := 79) rfl)))) (mvT hZ (hw _ (List.mem_of_getElem? (i := 79) rfl))) (mvT hZ (hw _ (List.mem_of_getElem? (i := 78) rfl))) (by decide) (backOf (W := 0) (rm_g_reason l Z aT hw [] ob_148 os_144 T148.heap n0 Z148 q148_4) hZ (hw _ (List.mem_of_getElem? (i := 80) rfl)) (hw _ (List.mem_of_getElem? (i := 36) rfl)) (by decide) (by decide)) q165a q165c (g := (mkF m 117 #[.val (.int x0), .val (.int x1), .val (.int x2), .val (.ref os_117), .val (.ref os_144), .val (.ref ob_148), .val (.int (1 : Int32)), .val (.int (1 : Int32)), .unset] [(.ref ob_148)])) rfl (by rw [hml]; rfl) (Steps.refl _) (argsL := []) (rest := []) (lenOf pd10 rfl) rfl (by show 2 * 0 + _ ≤ _; exact Nat.le_of_eq rfl) (hb hby at_117) (fun _ _ => ⟨rfl, eq164, (by decide : 7 + 0 ≤ _), (by decide : 17 + 0 ≤ _)⟩)
      dsimp only [Pt.U, Pt.locs, Pt.cells, Pt.slots] at X165 l165 y165 z165 st165 hQ165
      subst l165 y165 z165
      obtain ⟨rfl, N165q, eq165⟩ := hQ165
      have N165 := Fr.app N164 N165q
      refine own_tr st165 ?_
      show own_Got p e below _ T165 (mkF m 120 #[.val (.int x0), .val (.int x1), .val (.int x2), .val (.ref os_117), .val (.ref os_144), .val (.ref ob_148), .val (.int (1 : Int32)), .val (.int (1 : Int32)), .unset] [(.ref os_144)])
      refine g_aload X165 hx hby at_120 rfl rfl (rfl : 120 + 2 = 122) ?_
      have f167 : Exa Z T148.heap os_144 "java/lang/String" := (Exa.keep q144_1 K148)
      obtain ⟨cq166, kq166, q166a, q166b, q166c⟩ := isOf hZ eq165 f167
      obtain ⟨_, _, ⟨T166, L166, k166, n166⟩, -, X166, ⟨Lc166, hQ166, l166, y166, z166⟩, st166⟩ := X165.virtualBack hx (y := (⟨"java/lang/String", "equals", "(Ljava/lang/Object;)Z"⟩ : MethodName)) (z := (⟨"java/lang/String", "equals", "(Ljava/lang/Object;)Z"⟩ : MethodName)) hown (mvT hZ (hw _ (List.mem_of_getElem? (i := 71) rfl))) (mvT hZ (hw _ (List.mem_of_getElem? (i := 72) rfl))) (notFace_of_selects (args := #[]) (mvT hZ (hw _ (List.mem_of_getElem? (i := 74) rfl)))) (mvT hZ (hw _ (List.mem_of_getElem? (i := 74) rfl))) (mvT hZ (hw _ (List.mem_of_getElem? (i := 73) rfl))) (by decide) (backOf (W := 0) (rm_eqS l Z aT hw [] os_144 T148.heap n0 Z148) hZ (hw _ (List.mem_of_getElem? (i := 75) rfl)) (hw _ (List.mem_of_getElem? (i := 6) rfl)) (by decide) (by decide)) q166a q166c (g := (mkF m 122 #[.val (.int x0), .val (.int x1), .val (.int x2), .val (.ref os_117), .val (.ref os_144), .val (.ref ob_148), .val (.int (1 : Int32)), .val (.int (1 : Int32)), .unset] [(.ref os_144), (.ref os_144)])) rfl (by rw [hml]; rfl) (Steps.refl _) (argsL := [(.ref os_144)]) (rest := []) (lenOf pd11 rfl) rfl (by show 2 * 0 + _ ≤ _; exact Nat.le_of_eq rfl) (hb hby at_122) (fun _ _ => ⟨rfl, eq165, (by decide : 7 + 0 ≤ _), (by decide : 17 + 0 ≤ _)⟩)
      dsimp only [Pt.U, Pt.locs, Pt.cells, Pt.slots] at X166 l166 y166 z166 st166 hQ166
      subst l166 y166 z166
      obtain ⟨rfl, N166q, eq166⟩ := hQ166
      have N166 := Fr.app N165 N166q
      refine own_tr st166 ?_
      show own_Got p e below _ T166 (mkF m 125 #[.val (.int x0), .val (.int x1), .val (.int x2), .val (.ref os_117), .val (.ref os_144), .val (.ref ob_148), .val (.int (1 : Int32)), .val (.int (1 : Int32)), .unset] [(.int (1 : Int32))])
      refine g_ifF X166 hx hby at_125 ((if0 _ _).trans (feq (by decide : ¬ ((1 : Int32) = (0 : Int32)))).1) (rfl : 125 + 3 = 128) ?_
      refine g_iconst X166 hx hby (1 : Int32) at_128 (by decide) (rfl : 128 + 1 = 129) ?_
      refine g_goto X166 hx hby at_129 (by decide) (pc' := 133) (by decide) ?_
      refine g_istore X166 hx hby #[.val (.int x0), .val (.int x1), .val (.int x2), .val (.ref os_117), .val (.ref os_144), .val (.ref ob_148), .val (.int (1 : Int32)), .val (.int (1 : Int32)), .val (.int (1 : Int32))] at_133 rfl (rfl : 133 + 2 = 135) ?_
      refine g_iload X166 hx hby at_135 rfl (rfl : 135 + 2 = 137) ?_
      refine g_ifF X166 hx hby at_137 ((if0 _ _).trans (feq (by decide : ¬ ((1 : Int32) = (0 : Int32)))).1) (rfl : 137 + 3 = 140) ?_
      refine g_iload X166 hx hby at_140 rfl (rfl : 140 + 2 = 142) ?_
      refine g_ifF X166 hx hby at_142 ((if0 _ _).trans (feq (by decide : ¬ ((1 : Int32) = (0 : Int32)))).1) (rfl : 142 + 3 = 145) ?_
      refine g_iload X166 hx hby at_145 rfl (rfl : 145 + 2 = 147) ?_
      refine g_ifF X166 hx hby at_147 ((if0 _ _).trans (feq (by decide : ¬ ((1 : Int32) = (0 : Int32)))).1) (rfl : 147 + 3 = 150) ?_
      refine g_iconst X166 hx hby (1 : Int32) at_150 (by decide) (rfl : 150 + 1 = 151) ?_
      refine g_goto X166 hx hby at_151 (by decide) (pc' := 155) (by decide) ?_
      refine own_retN X166 hx hby hlk (t := .boolean) hrt (by simp) at_155 (by decide) (by decide) ?_
      show Q_law Z x0 x1 x2 wI wR g1 h0 n0 _ T166.heap _
      exact ⟨rfl, N166⟩
  · refine g_ifF X0 hx hby at_4 ((if0 _ _).trans (feq c116).1) (rfl : 4 + 3 = 7) ?_
    refine g_iconst X0 hx hby (1 : Int32) at_7 (by decide) (rfl : 7 + 1 = 8) ?_
    refine g_goto X0 hx hby at_8 (by decide) (pc' := 12) (by decide) ?_
    obtain ⟨_, _, ⟨T168, L168, k168, n168⟩, -, X168, ⟨Lc168, hQ168, l168, y168, z168⟩, st168⟩ := Jvm.LawKit.callS X0 hx (y := (⟨"com/example/graftwork/graftwork/VerdictIgnoredPinLaw", "text", "(IZ)Ljava/lang/String;"⟩ : MethodName)) hown (mvT hZ (hw _ (List.mem_of_getElem? (i := 0) rfl))) (mvT hZ (hw _ (List.mem_of_getElem? (i := 1) rfl))) (mvT hZ (hw _ (List.mem_of_getElem? (i := 2) rfl))) (mvT hZ (hw _ (List.mem_of_getElem? (i := 3) rfl))) (by decide) (backOf (W := 0) (rm_tx1 l Z aT hw [] x0 g1 h0 n0 Z0 hp3 hg1) hZ (hw _ (List.mem_of_getElem? (i := 3) rfl)) (hw _ (List.mem_of_getElem? (i := 2) rfl)) (by decide) (by decide)) (g := (mkF m 12 #[.val (.int x0), .val (.int x1), .val (.int x2), .unset, .unset, .unset, .unset, .unset, .unset] [(.int (1 : Int32)), (.int x0)])) rfl (by rw [hml]; rfl) (argsL := [(.int x0), (.int (1 : Int32))]) (rest := []) (lenOf pd7 rfl) rfl (by show 2 * 0 + _ ≤ _; exact Nat.le_of_eq rfl) (hb hby at_12) (fun _ _ => ⟨rfl, e0, (by decide : 0 + 3 ≤ _), (by decide : 0 + 8 ≤ _)⟩)
    dsimp only [Pt.U, Pt.locs, Pt.cells, Pt.slots] at X168 l168 y168 z168 st168 hQ168
    subst l168 y168 z168
    obtain ⟨os_168, rfl, N168q, K168, q168_0, q168_1⟩ := hQ168
    have N168 := Fr.app N0 N168q
    have Z168 : n0 ≤ T168.heap.size := Nat.le_trans Z0 K168.1
    have ge169 : n0 ≤ os_168 := Nat.le_trans Z0 q168_0
    refine own_go st168 ?_
    show own_Got p e below _ T168 (mkF m 15 #[.val (.int x0), .val (.int x1), .val (.int x2), .unset, .unset, .unset, .unset, .unset, .unset] [(.ref os_168)])
    refine g_astoreN X168 hx hby #[.val (.int x0), .val (.int x1), .val (.int x2), .val (.ref os_168), .unset, .unset, .unset, .unset, .unset] at_15 rfl rfl (rfl : 15 + 1 = 16) ?_
    refine g_iloadN X168 hx hby at_16 rfl (rfl : 16 + 1 = 17) ?_
    refine g_iloadN X168 hx hby at_17 rfl (rfl : 17 + 1 = 18) ?_
    refine g_iconst X168 hx hby (2 : Int32) at_18 (by decide) (rfl : 18 + 1 = 19) ?_
    refine g_iand X168 hx hby at_19 (rfl : 19 + 1 = 20) ?_
    by_cases c170 : (x2 &&& (2 : Int32)) = (0 : Int32)
    · refine g_ifT X168 hx hby at_20 ((if0 _ _).trans (teq c170).1) (by decide) (pc' := 27) (by decide) ?_
      refine g_iconst X168 hx hby (0 : Int32) at_27 (by decide) (rfl : 27 + 1 = 28) ?_
      have f172 : Sta Z T168.heap "java/lang/String" "COMPACT_STRINGS" "Z" (.int g1) := (own_stakeep0 hp3 K168)
      obtain ⟨_, _, ⟨T171, L171, k171, n171⟩, -, X171, ⟨Lc171, hQ171, l171, y171, z171⟩, st171⟩ := Jvm.LawKit.callS X168 hx (y := (⟨"com/example/graftwork/graftwork/VerdictIgnoredPinLaw", "text", "(IZ)Ljava/lang/String;"⟩ : MethodName)) hown (mvT hZ (hw _ (List.mem_of_getElem? (i := 0) rfl))) (mvT hZ (hw _ (List.mem_of_getElem? (i := 1) rfl))) (mvT hZ (hw _ (List.mem_of_getElem? (i := 2) rfl))) (mvT hZ (hw _ (List.mem_of_getElem? (i := 3) rfl))) (by decide) (backOf (W := 0) (rm_tx0 l Z aT hw [] x1 g1 T168.heap n0 Z168 f172 hg1) hZ (hw _ (List.mem_of_getElem? (i := 3) rfl)) (hw _ (List.mem_of_getElem? (i := 2) rfl)) (by decide) (by decide)) (g := (mkF m 28 #[.val (.int x0), .val (.int x1), .val (.int x2), .val (.ref os_168), .unset, .unset, .unset, .unset, .unset] [(.int (0 : Int32)), (.int x1)])) rfl (by rw [hml]; rfl) (argsL := [(.int x1), (.int (0 : Int32))]) (rest := []) (lenOf pd7 rfl) rfl (by show 2 * 0 + _ ≤ _; exact Nat.le_of_eq rfl) (hb hby at_28) (fun _ _ => ⟨rfl, rfl, (by decide : 3 + 3 ≤ _), (by decide : 8 + 6 ≤ _)⟩)
      dsimp only [Pt.U, Pt.locs, Pt.cells, Pt.slots] at X171 l171 y171 z171 st171 hQ171
      subst l171 y171 z171
      obtain ⟨os_171, rfl, N171q, K171, q171_0, q171_1⟩ := hQ171
      have N171 := Fr.app N168 N171q
      have Z171 : n0 ≤ T171.heap.size := Nat.le_trans Z168 K171.1
      have ne173 : os_168 ≠ os_171 := Nat.ne_of_lt (Nat.lt_of_lt_of_le (q168_1).lt q171_0)
      have ge174 : n0 ≤ os_171 := Nat.le_trans Z168 q171_0
      refine own_go st171 ?_
      show own_Got p e below _ T171 (mkF m 31 #[.val (.int x0), .val (.int x1), .val (.int x2), .val (.ref os_168), .unset, .unset, .unset, .unset, .unset] [(.ref os_171)])
      refine g_astore X171 hx hby #[.val (.int x0), .val (.int x1), .val (.int x2), .val (.ref os_168), .val (.ref os_171), .unset, .unset, .unset, .unset] at_31 rfl rfl (rfl : 31 + 2 = 33) ?_
      refine g_aloadN X171 hx hby at_33 rfl rfl (rfl : 33 + 1 = 34) ?_
      refine g_aload X171 hx hby at_34 rfl rfl (rfl : 34 + 2 = 36) ?_
      have f176 : Sta Z T171.heap "com/example/graftwork/graftwork/Resolution$Verdict$Kind" "IGNORED" "Lcom/example/graftwork/graftwork/Resolution$Verdict$Kind;" (.ref wI) := (own_stakeep0 (own_stakeep0 hp0 K168) K171)
      have f177 : Exa Z T171.heap os_168 "java/lang/String" := (Exa.keep q168_1 K171)
      obtain ⟨_, _, ⟨T175, L175, k175, n175⟩, -, X175, ⟨Lc175, hQ175, l175, y175, z175⟩, st175⟩ := Jvm.LawKit.callS X171 hx (y := (⟨"com/example/graftwork/graftwork/Resolution$Verdict", "ignored", "(Ljava/lang/String;Ljava/lang/String;)Lcom/example/graftwork/graftwork/Resolution$Verdict;"⟩ : MethodName)) hown (mvT hZ (hw _ (List.mem_of_getElem? (i := 34) rfl))) (mvT hZ (hw _ (List.mem_of_getElem? (i := 35) rfl))) (mvT hZ (hw _ (List.mem_of_getElem? (i := 36) rfl))) (mvT hZ (hw _ (List.mem_of_getElem? (i := 37) rfl))) (by decide) (backOf (W := 0) (rm_ign l Z aT hw [] os_168 os_171 wI T171.heap n0 Z171 f176) hZ (hw _ (List.mem_of_getElem? (i := 37) rfl)) (hw _ (List.mem_of_getElem? (i := 36) rfl)) (by decide) (by decide)) (g := (mkF m 36 #[.val (.int x0), .val (.int x1), .val (.int x2), .val (.ref os_168), .val (.ref os_171), .unset, .unset, .unset, .unset] [(.ref os_171), (.ref os_168)])) rfl (by rw [hml]; rfl) (argsL := [(.ref os_168), (.ref os_171)]) (rest := []) (lenOf pd8 rfl) rfl (by show 2 * 0 + _ ≤ _; exact Nat.le_of_eq rfl) (hb hby at_36) (fun _ _ => ⟨rfl, rfl, (by decide : 6 + 1 ≤ _), (by decide : 14 + 3 ≤ _)⟩)
      dsimp only [Pt.U, Pt.locs, Pt.cells, Pt.slots] at X175 l175 y175 z175 st175 hQ175
      subst l175 y175 z175
      obtain ⟨ob_175, rfl, N175q, K175, q175_0, q175_1, q175_2, q175_3, q175_4⟩ := hQ175
      have N175 := Fr.app N171 N175q
      have Z175 : n0 ≤ T175.heap.size := Nat.le_trans Z171 K175.1
      have ne178 : os_168 ≠ ob_175 := Nat.ne_of_lt (Nat.lt_of_lt_of_le (f177).lt q175_0)
      have ne179 : os_171 ≠ ob_175 := Nat.ne_of_lt (Nat.lt_of_lt_of_le (q171_1).lt q175_0)
      have ge180 : n0 ≤ ob_175 := Nat.le_trans Z171 q175_0
      refine own_go st175 ?_
      show own_Got p e below _ T175 (mkF m 39 #[.val (.int x0), .val (.int x1), .val (.int x2), .val (.ref os_168), .val (.ref os_171), .unset, .unset, .unset, .unset] [(.ref ob_175)])
      refine g_astore X175 hx hby #[.val (.int x0), .val (.int x1), .val (.int x2), .val (.ref os_168), .val (.ref os_171), .val (.ref ob_175), .unset, .unset, .unset] at_39 rfl rfl (rfl : 39 + 2 = 41) ?_
      refine g_aload X175 hx hby at_41 rfl rfl (rfl : 41 + 2 = 43) ?_
      refine g_innT X175 hx hby at_43 (by decide) (pc' := 48) (by decide) ?_
      refine g_aload X175 hx hby at_48 rfl rfl (rfl : 48 + 2 = 50) ?_
      obtain ⟨cq181, kq181, q181a, q181b, q181c⟩ := isOf hZ rfl q175_1
      obtain ⟨_, _, ⟨T181, L181, k181, n181⟩, -, X181, ⟨Lc181, hQ181, l181, y181, z181⟩, st181⟩ := X175.virtualBack hx (y := (⟨"com/example/graftwork/graftwork/Resolution$Verdict", "kind", "()Lcom/example/graftwork/graftwork/Resolution$Verdict$Kind;"⟩ : MethodName)) (z := (⟨"com/example/graftwork/graftwork/Resolution$Verdict", "kind", "()Lcom/example/graftwork/graftwork/Resolution$Verdict$Kind;"⟩ : MethodName)) hown (mvT hZ (hw _ (List.mem_of_getElem? (i := 58) rfl))) (mvT hZ (hw _ (List.mem_of_getElem? (i := 59) rfl))) (notFace_of_selects (args := #[]) (mvT hZ (hw _ (List.mem_of_getElem? (i := 61) rfl)))) (mvT hZ (hw _ (List.mem_of_getElem? (i := 61) rfl))) (mvT hZ (hw _ (List.mem_of_getElem? (i := 60) rfl))) (by decide) (backOf (W := 0) (rm_g_kind l Z aT hw [] ob_175 wI T175.heap n0 Z175 q175_2) hZ (hw _ (List.mem_of_getElem? (i := 62) rfl)) (hw _ (List.mem_of_getElem? (i := 36) rfl)) (by decide) (by decide)) q181a q181c (g := (mkF m 50 #[.val (.int x0), .val (.int x1), .val (.int x2), .val (.ref os_168), .val (.ref os_171), .val (.ref ob_175), .unset, .unset, .unset] [(.ref ob_175)])) rfl (by rw [hml]; rfl) (Steps.refl _) (argsL := []) (rest := []) (lenOf pd9 rfl) rfl (by show 2 * 0 + _ ≤ _; exact Nat.le_of_eq rfl) (hb hby at_50) (fun _ _ => ⟨rfl, rfl, (by decide : 7 + 0 ≤ _), (by decide : 17 + 0 ≤ _)⟩)
      dsimp only [Pt.U, Pt.locs, Pt.cells, Pt.slots] at X181 l181 y181 z181 st181 hQ181
      subst l181 y181 z181
      obtain ⟨rfl, N181q, eq181⟩ := hQ181
      have N181 := Fr.app N175 N181q
      refine own_tr st181 ?_
      show own_Got p e below _ T181 (mkF m 53 #[.val (.int x0), .val (.int x1), .val (.int x2), .val (.ref os_168), .val (.ref os_171), .val (.ref ob_175), .unset, .unset, .unset] [(.ref wI)])
      have f182 : Sta Z T175.heap "com/example/graftwork/graftwork/Resolution$Verdict$Kind" "IGNORED" "Lcom/example/graftwork/graftwork/Resolution$Verdict$Kind;" (.ref wI) := (own_stakeep0 f176 K175)
      obtain ⟨T183, X183, e183, st183⟩ := getS2 X181 hx hZ hown (host := "") (Or.inl (hw _ (List.mem_of_getElem? (i := 63) rfl))) Via.refl eq181 f182 (g := (mkF m 53 #[.val (.int x0), .val (.int x1), .val (.int x2), .val (.ref os_168), .val (.ref os_171), .val (.ref ob_175), .unset, .unset, .unset] [(.ref wI)])) rfl (hb hby at_53)
      refine own_go st183 ?_
      show own_Got p e below _ T183 (mkF m 56 #[.val (.int x0), .val (.int x1), .val (.int x2), .val (.ref os_168), .val (.ref os_171), .val (.ref ob_175), .unset, .unset, .unset] [(.ref wI), (.ref wI)])
      refine g_acmp X183 hx hby (pc' := 59) true at_56 rfl rfl (decide_eq_true rfl) (by decide) (by decide) ?_
      refine g_aload X183 hx hby at_59 rfl rfl (rfl : 59 + 2 = 61) ?_
      obtain ⟨cq184, kq184, q184a, q184b, q184c⟩ := isOf hZ e183 q175_1
      obtain ⟨_, _, ⟨T184, L184, k184, n184⟩, -, X184, ⟨Lc184, hQ184, l184, y184, z184⟩, st184⟩ := X183.virtualBack hx (y := (⟨"com/example/graftwork/graftwork/Resolution$Verdict", "kind", "()Lcom/example/graftwork/graftwork/Resolution$Verdict$Kind;"⟩ : MethodName)) (z := (⟨"com/example/graftwork/graftwork/Resolution$Verdict", "kind", "()Lcom/example/graftwork/graftwork/Resolution$Verdict$Kind;"⟩ : MethodName)) hown (mvT hZ (hw _ (List.mem_of_getElem? (i := 58) rfl))) (mvT hZ (hw _ (List.mem_of_getElem? (i := 59) rfl))) (notFace_of_selects (args := #[]) (mvT hZ (hw _ (List.mem_of_getElem? (i := 61) rfl)))) (mvT hZ (hw _ (List.mem_of_getElem? (i := 61) rfl))) (mvT hZ (hw _ (List.mem_of_getElem? (i := 60) rfl))) (by decide) (backOf (W := 0) (rm_g_kind l Z aT hw [] ob_175 wI T175.heap n0 Z175 q175_2) hZ (hw _ (List.mem_of_getElem? (i := 62) rfl)) (hw _ (List.mem_of_getElem? (i := 36) rfl)) (by decide) (by decide)) q184a q184c (g := (mkF m 61 #[.val (.int x0), .val (.int x1), .val (.int x2), .val (.ref os_168), .val (.ref os_171), .val (.ref ob_175), .unset, .unset, .unset] [(.ref ob_175)])) rfl (by rw [hml]; rfl) (Steps.refl _) (argsL := []) (rest := []) (lenOf pd9 rfl) rfl (by show 2 * 0 + _ ≤ _; exact Nat.le_of_eq rfl) (hb hby at_61) (fun _ _ => ⟨rfl, e183, (by decide : 7 + 0 ≤ _), (by decide : 17 + 0 ≤ _)⟩)
      dsimp only [Pt.U, Pt.locs, Pt.cells, Pt.slots] at X184 l184 y184 z184 st184 hQ184
      subst l184 y184 z184
      obtain ⟨rfl, N184q, eq184⟩ := hQ184
      have N184 := Fr.app N181 N184q
      refine own_tr st184 ?_
      show own_Got p e below _ T184 (mkF m 64 #[.val (.int x0), .val (.int x1), .val (.int x2), .val (.ref os_168), .val (.ref os_171), .val (.ref ob_175), .unset, .unset, .unset] [(.ref wI)])
      have f185 : Sta Z T175.heap "com/example/graftwork/graftwork/Resolution$Verdict$Kind" "REFUSED" "Lcom/example/graftwork/graftwork/Resolution$Verdict$Kind;" (.ref wR) := (own_stakeep0 (own_stakeep0 (own_stakeep0 hp1 K168) K171) K175)
      obtain ⟨T186, X186, e186, st186⟩ := getS2 X184 hx hZ hown (host := "") (Or.inl (hw _ (List.mem_of_getElem? (i := 64) rfl))) Via.refl eq184 f185 (g := (mkF m 64 #[.val (.int x0), .val (.int x1), .val (.int x2), .val (.ref os_168), .val (.ref os_171), .val (.ref ob_175), .unset, .unset, .unset] [(.ref wI)])) rfl (hb hby at_64)
      refine own_go st186 ?_
      show own_Got p e below _ T186 (mkF m 67 #[.val (.int x0), .val (.int x1), .val (.int x2), .val (.ref os_168), .val (.ref os_171), .val (.ref ob_175), .unset, .unset, .unset] [(.ref wR), (.ref wI)])
      refine g_acmp X186 hx hby (pc' := 70) false at_67 rfl rfl (decide_eq_false fun q => hp2 (Value.ref.inj q)) (by decide) (by decide) ?_
      refine g_iconst X186 hx hby (1 : Int32) at_70 (by decide) (rfl : 70 + 1 = 71) ?_
      refine g_goto X186 hx hby at_71 (by decide) (pc' := 75) (by decide) ?_
      refine g_istore X186 hx hby #[.val (.int x0), .val (.int x1), .val (.int x2), .val (.ref os_168), .val (.ref os_171), .val (.ref ob_175), .val (.int (1 : Int32)), .unset, .unset] at_75 rfl (rfl : 75 + 2 = 77) ?_
      refine g_aload X186 hx hby at_77 rfl rfl (rfl : 77 + 2 = 79) ?_
      obtain ⟨cq187, kq187, q187a, q187b, q187c⟩ := isOf hZ e186 q175_1
      obtain ⟨_, _, ⟨T187, L187, k187, n187⟩, -, X187, ⟨Lc187, hQ187, l187, y187, z187⟩, st187⟩ := X186.virtualBack hx (y := (⟨"com/example/graftwork/graftwork/Resolution$Verdict", "file", "()Ljava/lang/String;"⟩ : MethodName)) (z := (⟨"com/example/graftwork/graftwork/Resolution$Verdict", "file", "()Ljava/lang/String;"⟩ : MethodName)) hown (mvT hZ (hw _ (List.mem_of_getElem? (i := 66) rfl))) (mvT hZ (hw _ (List.mem_of_getElem? (i := 67) rfl))) (notFace_of_selects (args := #[]) (mvT hZ (hw _ (List.mem_of_getElem? (i := 69) rfl)))) (mvT hZ (hw _ (List.mem_of_getElem? (i := 69) rfl))) (mvT hZ (hw _ (List.mem_of_getElem? (i := 68) rfl))) (by decide) (backOf (W := 0) (rm_g_file l Z aT hw [] ob_175 os_168 T175.heap n0 Z175 q175_3) hZ (hw _ (List.mem_of_getElem? (i := 70) rfl)) (hw _ (List.mem_of_getElem? (i := 36) rfl)) (by decide) (by decide)) q187a q187c (g := (mkF m 79 #[.val (.int x0), .val (.int x1), .val (.int x2), .val (.ref os_168), .val (.ref os_171), .val (.ref ob_175), .val (.int (1 : Int32)), .unset, .unset] [(.ref ob_175)])) rfl (by rw [hml]; rfl) (Steps.refl _) (argsL := []) (rest := []) (lenOf pd10 rfl) rfl (by show 2 * 0 + _ ≤ _; exact Nat.le_of_eq rfl) (hb hby at_79) (fun _ _ => ⟨rfl, e186, (by decide : 7 + 0 ≤ _), (by decide : 17 + 0 ≤ _)⟩)
      dsimp only [Pt.U, Pt.locs, Pt.cells, Pt.slots] at X187 l187 y187 z187 st187 hQ187
      subst l187 y187 z187
      obtain ⟨rfl, N187q, eq187⟩ := hQ187
      have N187 := Fr.app N184 N187q
      refine own_tr st187 ?_
      show own_Got p e below _ T187 (mkF m 82 #[.val (.int x0), .val (.int x1), .val (.int x2), .val (.ref os_168), .val (.ref os_171), .val (.ref ob_175), .val (.int (1 : Int32)), .unset, .unset] [(.ref os_168)])
      refine g_aloadN X187 hx hby at_82 rfl rfl (rfl : 82 + 1 = 83) ?_
      refine g_acmp X187 hx hby (pc' := 86) true at_83 rfl rfl (decide_eq_true rfl) (by decide) (by decide) ?_
      refine g_aload X187 hx hby at_86 rfl rfl (rfl : 86 + 2 = 88) ?_
      obtain ⟨cq188, kq188, q188a, q188b, q188c⟩ := isOf hZ eq187 q175_1
      obtain ⟨_, _, ⟨T188, L188, k188, n188⟩, -, X188, ⟨Lc188, hQ188, l188, y188, z188⟩, st188⟩ := X187.virtualBack hx (y := (⟨"com/example/graftwork/graftwork/Resolution$Verdict", "file", "()Ljava/lang/String;"⟩ : MethodName)) (z := (⟨"com/example/graftwork/graftwork/Resolution$Verdict", "file", "()Ljava/lang/String;"⟩ : MethodName)) hown (mvT hZ (hw _ (List.mem_of_getElem? (i := 66) rfl))) (mvT hZ (hw _ (List.mem_of_getElem? (i := 67) rfl))) (notFace_of_selects (args := #[]) (mvT hZ (hw _ (List.mem_of_getElem? (i := 69) rfl)))) (mvT hZ (hw _ (List.mem_of_getElem? (i := 69) rfl))) (mvT hZ (hw _ (List.mem_of_getElem? (i := 68) rfl))) (by decide) (backOf (W := 0) (rm_g_file l Z aT hw [] ob_175 os_168 T175.heap n0 Z175 q175_3) hZ (hw _ (List.mem_of_getElem? (i := 70) rfl)) (hw _ (List.mem_of_getElem? (i := 36) rfl)) (by decide) (by decide)) q188a q188c (g := (mkF m 88 #[.val (.int x0), .val (.int x1), .val (.int x2), .val (.ref os_168), .val (.ref os_171), .val (.ref ob_175), .val (.int (1 : Int32)), .unset, .unset] [(.ref ob_175)])) rfl (by rw [hml]; rfl) (Steps.refl _) (argsL := []) (rest := []) (lenOf pd10 rfl) rfl (by show 2 * 0 + _ ≤ _; exact Nat.le_of_eq rfl) (hb hby at_88) (fun _ _ => ⟨rfl, eq187, (by decide : 7 + 0 ≤ _), (by decide : 17 + 0 ≤ _)⟩)
      dsimp only [Pt.U, Pt.locs, Pt.cells, Pt.slots] at X188 l188 y188 z188 st188 hQ188
      subst l188 y188 z188
      obtain ⟨rfl, N188q, eq188⟩ := hQ188
      have N188 := Fr.app N187 N188q
      refine own_tr st188 ?_
      show own_Got p e below _ T188 (mkF m 91 #[.val (.int x0), .val (.int x1), .val (.int x2), .val (.ref os_168), .val (.ref os_171), .val (.ref ob_175), .val (.int (1 : Int32)), .unset, .unset] [(.ref os_168)])
      refine g_aloadN X188 hx hby at_91 rfl rfl (rfl : 91 + 1 = 92) ?_
      have f190 : Exa Z T175.heap os_168 "java/lang/String" := (Exa.keep f177 K175)
      obtain ⟨cq189, kq189, q189a, q189b, q189c⟩ := isOf hZ eq188 f190
      obtain ⟨_, _, ⟨T189, L189, k189, n189⟩, -, X189, ⟨Lc189, hQ189, l189, y189, z189⟩, st189⟩ := X188.virtualBack hx (y := (⟨"java/lang/String", "equals", "(Ljava/lang/Object;)Z"⟩ : MethodName)) (z := (⟨"java/lang/String", "equals", "(Ljava/lang/Object;)Z"⟩ : MethodName)) hown (mvT hZ (hw _ (List.mem_of_getElem? (i := 71) rfl))) (mvT hZ (hw _ (List.mem_of_getElem? (i := 72) rfl))) (notFace_of_selects (args := #[]) (mvT hZ (hw _ (List.mem_of_getElem? (i := 74) rfl)))) (mvT hZ (hw _ (List.mem_of_getElem? (i := 74) rfl))) (mvT hZ (hw _ (List.mem_of_getElem? (i := 73) rfl))) (by decide) (backOf (W := 0) (rm_eqS l Z aT hw [] os_168 T175.heap n0 Z175) hZ (hw _ (List.mem_of_getElem? (i := 75) rfl)) (hw _ (List.mem_of_getElem? (i := 6) rfl)) (by decide) (by decide)) q189a q189c (g := (mkF m 92 #[.val (.int x0), .val (.int x1), .val (.int x2), .val (.ref os_168), .val (.ref os_171), .val (.ref ob_175), .val (.int (1 : Int32)), .unset, .unset] [(.ref os_168), (.ref os_168)])) rfl (by rw [hml]; rfl) (Steps.refl _) (argsL := [(.ref os_168)]) (rest := []) (lenOf pd11 rfl) rfl (by show 2 * 0 + _ ≤ _; exact Nat.le_of_eq rfl) (hb hby at_92) (fun _ _ => ⟨rfl, eq188, (by decide : 7 + 0 ≤ _), (by decide : 17 + 0 ≤ _)⟩)
      dsimp only [Pt.U, Pt.locs, Pt.cells, Pt.slots] at X189 l189 y189 z189 st189 hQ189
      subst l189 y189 z189
      obtain ⟨rfl, N189q, eq189⟩ := hQ189
      have N189 := Fr.app N188 N189q
      refine own_tr st189 ?_
      show own_Got p e below _ T189 (mkF m 95 #[.val (.int x0), .val (.int x1), .val (.int x2), .val (.ref os_168), .val (.ref os_171), .val (.ref ob_175), .val (.int (1 : Int32)), .unset, .unset] [(.int (1 : Int32))])
      refine g_ifF X189 hx hby at_95 ((if0 _ _).trans (feq (by decide : ¬ ((1 : Int32) = (0 : Int32)))).1) (rfl : 95 + 3 = 98) ?_
      refine g_iconst X189 hx hby (1 : Int32) at_98 (by decide) (rfl : 98 + 1 = 99) ?_
      refine g_goto X189 hx hby at_99 (by decide) (pc' := 103) (by decide) ?_
      refine g_istore X189 hx hby #[.val (.int x0), .val (.int x1), .val (.int x2), .val (.ref os_168), .val (.ref os_171), .val (.ref ob_175), .val (.int (1 : Int32)), .val (.int (1 : Int32)), .unset] at_103 rfl (rfl : 103 + 2 = 105) ?_
      refine g_aload X189 hx hby at_105 rfl rfl (rfl : 105 + 2 = 107) ?_
      obtain ⟨cq191, kq191, q191a, q191b, q191c⟩ := isOf hZ eq189 q175_1
      obtain ⟨_, _, ⟨T191, L191, k191, n191⟩, -, X191, ⟨Lc191, hQ191, l191, y191, z191⟩, st191⟩ := X189.virtualBack hx (y := (⟨"com/example/graftwork/graftwork/Resolution$Verdict", "reason", "()Ljava/lang/String;"⟩ : MethodName)) (z := (⟨"com/example/graftwork/graftwork/Resolution$Verdict", "reason", "()Ljava/lang/String;"⟩ : MethodName)) hown (mvT hZ (hw _ (List.mem_of_getElem? (i := 76) rfl))) (mvT hZ (hw _ (List.mem_of_getElem? (i := 77) rfl))) (notFace_of_selects (args := #[]) (mvT hZ (hw _ (List.mem_of_getElem? (i := 79) rfl)))) (mvT hZ (hw _ (List.mem_of_getElem? (i := 79) rfl))) (mvT hZ (hw _ (List.mem_of_getElem? (i := 78) rfl))) (by decide) (backOf (W := 0) (rm_g_reason l Z aT hw [] ob_175 os_171 T175.heap n0 Z175 q175_4) hZ (hw _ (List.mem_of_getElem? (i := 80) rfl)) (hw _ (List.mem_of_getElem? (i := 36) rfl)) (by decide) (by decide)) q191a q191c (g := (mkF m 107 #[.val (.int x0), .val (.int x1), .val (.int x2), .val (.ref os_168), .val (.ref os_171), .val (.ref ob_175), .val (.int (1 : Int32)), .val (.int (1 : Int32)), .unset] [(.ref ob_175)])) rfl (by rw [hml]; rfl) (Steps.refl _) (argsL := []) (rest := []) (lenOf pd10 rfl) rfl (by show 2 * 0 + _ ≤ _; exact Nat.le_of_eq rfl) (hb hby at_107) (fun _ _ => ⟨rfl, eq189, (by decide : 7 + 0 ≤ _), (by decide : 17 + 0 ≤ _)⟩)
      dsimp only [Pt.U, Pt.locs, Pt.cells, Pt.slots] at X191 l191 y191 z191 st191 hQ191
      subst l191 y191 z191
      obtain ⟨rfl, N191q, eq191⟩ := hQ191
      have N191 := Fr.app N189 N191q
      refine own_tr st191 ?_
      show own_Got p e below _ T191 (mkF m 110 #[.val (.int x0), .val (.int x1), .val (.int x2), .val (.ref os_168), .val (.ref os_171), .val (.ref ob_175), .val (.int (1 : Int32)), .val (.int (1 : Int32)), .unset] [(.ref os_171)])
      refine g_aload X191 hx hby at_110 rfl rfl (rfl : 110 + 2 = 112) ?_
      refine g_acmp X191 hx hby (pc' := 115) true at_112 rfl rfl (decide_eq_true rfl) (by decide) (by decide) ?_
      refine g_aload X191 hx hby at_115 rfl rfl (rfl : 115 + 2 = 117) ?_
      obtain ⟨cq192, kq192, q192a, q192b, q192c⟩ := isOf hZ eq191 q175_1
      obtain ⟨_, _, ⟨T192, L192, k192, n192⟩, -, X192, ⟨Lc192, hQ192, l192, y192, z192⟩, st192⟩ := X191.virtualBack hx (y := (⟨"com/example/graftwork/graftwork/Resolution$Verdict", "reason", "()Ljava/lang/String;"⟩ : MethodName)) (z := (⟨"com/example/graftwork/graftwork/Resolution$Verdict", "reason", "()Ljava/lang/String;"⟩ : MethodName)) hown (mvT hZ (hw _ (List.mem_of_getElem? (i := 76) rfl))) (mvT hZ (hw _ (List.mem_of_getElem? (i := 77) rfl))) (notFace_of_selects (args := #[]) (mvT hZ (hw _ (List.mem_of_getElem? (i := 79) rfl)))) (mvT hZ (hw _ (List.mem_of_getElem? (i := 79) rfl))) (mvT hZ (hw _ (List.mem_of_getElem? (i := 78) rfl))) (by decide) (backOf (W := 0) (rm_g_reason l Z aT hw [] ob_175 os_171 T175.heap n0 Z175 q175_4) hZ (hw _ (List.mem_of_getElem? (i := 80) rfl)) (hw _ (List.mem_of_getElem? (i := 36) rfl)) (by decide) (by decide)) q192a q192c (g := (mkF m 117 #[.val (.int x0), .val (.int x1), .val (.int x2), .val (.ref os_168), .val (.ref os_171), .val (.ref ob_175), .val (.int (1 : Int32)), .val (.int (1 : Int32)), .unset] [(.ref ob_175)])) rfl (by rw [hml]; rfl) (Steps.refl _) (argsL := []) (rest := []) (lenOf pd10 rfl) rfl (by show 2 * 0 + _ ≤ _; exact Nat.le_of_eq rfl) (hb hby at_117) (fun _ _ => ⟨rfl, eq191, (by decide : 7 + 0 ≤ _), (by decide : 17 + 0 ≤ _)⟩)
      dsimp only [Pt.U, Pt.locs, Pt.cells, Pt.slots] at X192 l192 y192 z192 st192 hQ192
      subst l192 y192 z192
      obtain ⟨rfl, N192q, eq192⟩ := hQ192
      have N192 := Fr.app N191 N192q
      refine own_tr st192 ?_
      show own_Got p e below _ T192 (mkF m 120 #[.val (.int x0), .val (.int x1), .val (.int x2), .val (.ref os_168), .val (.ref os_171), .val (.ref ob_175), .val (.int (1 : Int32)), .val (.int (1 : Int32)), .unset] [(.ref os_171)])
      refine g_aload X192 hx hby at_120 rfl rfl (rfl : 120 + 2 = 122) ?_
      have f194 : Exa Z T175.heap os_171 "java/lang/String" := (Exa.keep q171_1 K175)
      obtain ⟨cq193, kq193, q193a, q193b, q193c⟩ := isOf hZ eq192 f194
      obtain ⟨_, _, ⟨T193, L193, k193, n193⟩, -, X193, ⟨Lc193, hQ193, l193, y193, z193⟩, st193⟩ := X192.virtualBack hx (y := (⟨"java/lang/String", "equals", "(Ljava/lang/Object;)Z"⟩ : MethodName)) (z := (⟨"java/lang/String", "equals", "(Ljava/lang/Object;)Z"⟩ : MethodName)) hown (mvT hZ (hw _ (List.mem_of_getElem? (i := 71) rfl))) (mvT hZ (hw _ (List.mem_of_getElem? (i := 72) rfl))) (notFace_of_selects (args := #[]) (mvT hZ (hw _ (List.mem_of_getElem? (i := 74) rfl)))) (mvT hZ (hw _ (List.mem_of_getElem? (i := 74) rfl))) (mvT hZ (hw _ (List.mem_of_getElem? (i := 73) rfl))) (by decide) (backOf (W := 0) (rm_eqS l Z aT hw [] os_171 T175.heap n0 Z175) hZ (hw _ (List.mem_of_getElem? (i := 75) rfl)) (hw _ (List.mem_of_getElem? (i := 6) rfl)) (by decide) (by decide)) q193a q193c (g := (mkF m 122 #[.val (.int x0), .val (.int x1), .val (.int x2), .val (.ref os_168), .val (.ref os_171), .val (.ref ob_175), .val (.int (1 : Int32)), .val (.int (1 : Int32)), .unset] [(.ref os_171), (.ref os_171)])) rfl (by rw [hml]; rfl) (Steps.refl _) (argsL := [(.ref os_171)]) (rest := []) (lenOf pd11 rfl) rfl (by show 2 * 0 + _ ≤ _; exact Nat.le_of_eq rfl) (hb hby at_122) (fun _ _ => ⟨rfl, eq192, (by decide : 7 + 0 ≤ _), (by decide : 17 + 0 ≤ _)⟩)
      dsimp only [Pt.U, Pt.locs, Pt.cells, Pt.slots] at X193 l193 y193 z193 st193 hQ193
      subst l193 y193 z193
      obtain ⟨rfl, N193q, eq193⟩ := hQ193
      have N193 := Fr.app N192 N193q
      refine own_tr st193 ?_
      show own_Got p e below _ T193 (mkF m 125 #[.val (.int x0), .val (.int x1), .val (.int x2), .val (.ref os_168), .val (.ref os_171), .val (.ref ob_175), .val (.int (1 : Int32)), .val (.int (1 : Int32)), .unset] [(.int (1 : Int32))])
      refine g_ifF X193 hx hby at_125 ((if0 _ _).trans (feq (by decide : ¬ ((1 : Int32) = (0 : Int32)))).1) (rfl : 125 + 3 = 128) ?_
      refine g_iconst X193 hx hby (1 : Int32) at_128 (by decide) (rfl : 128 + 1 = 129) ?_
      refine g_goto X193 hx hby at_129 (by decide) (pc' := 133) (by decide) ?_
      refine g_istore X193 hx hby #[.val (.int x0), .val (.int x1), .val (.int x2), .val (.ref os_168), .val (.ref os_171), .val (.ref ob_175), .val (.int (1 : Int32)), .val (.int (1 : Int32)), .val (.int (1 : Int32))] at_133 rfl (rfl : 133 + 2 = 135) ?_
      refine g_iload X193 hx hby at_135 rfl (rfl : 135 + 2 = 137) ?_
      refine g_ifF X193 hx hby at_137 ((if0 _ _).trans (feq (by decide : ¬ ((1 : Int32) = (0 : Int32)))).1) (rfl : 137 + 3 = 140) ?_
      refine g_iload X193 hx hby at_140 rfl (rfl : 140 + 2 = 142) ?_
      refine g_ifF X193 hx hby at_142 ((if0 _ _).trans (feq (by decide : ¬ ((1 : Int32) = (0 : Int32)))).1) (rfl : 142 + 3 = 145) ?_
      refine g_iload X193 hx hby at_145 rfl (rfl : 145 + 2 = 147) ?_
      refine g_ifF X193 hx hby at_147 ((if0 _ _).trans (feq (by decide : ¬ ((1 : Int32) = (0 : Int32)))).1) (rfl : 147 + 3 = 150) ?_
      refine g_iconst X193 hx hby (1 : Int32) at_150 (by decide) (rfl : 150 + 1 = 151) ?_
      refine g_goto X193 hx hby at_151 (by decide) (pc' := 155) (by decide) ?_
      refine own_retN X193 hx hby hlk (t := .boolean) hrt (by simp) at_155 (by decide) (by decide) ?_
      show Q_law Z x0 x1 x2 wI wR g1 h0 n0 _ T193.heap _
      exact ⟨rfl, N193⟩
    · refine g_ifF X168 hx hby at_20 ((if0 _ _).trans (feq c170).1) (rfl : 20 + 3 = 23) ?_
      refine g_iconst X168 hx hby (1 : Int32) at_23 (by decide) (rfl : 23 + 1 = 24) ?_
      refine g_goto X168 hx hby at_24 (by decide) (pc' := 28) (by decide) ?_
      have f196 : Sta Z T168.heap "java/lang/String" "COMPACT_STRINGS" "Z" (.int g1) := (own_stakeep0 hp3 K168)
      obtain ⟨_, _, ⟨T195, L195, k195, n195⟩, -, X195, ⟨Lc195, hQ195, l195, y195, z195⟩, st195⟩ := Jvm.LawKit.callS X168 hx (y := (⟨"com/example/graftwork/graftwork/VerdictIgnoredPinLaw", "text", "(IZ)Ljava/lang/String;"⟩ : MethodName)) hown (mvT hZ (hw _ (List.mem_of_getElem? (i := 0) rfl))) (mvT hZ (hw _ (List.mem_of_getElem? (i := 1) rfl))) (mvT hZ (hw _ (List.mem_of_getElem? (i := 2) rfl))) (mvT hZ (hw _ (List.mem_of_getElem? (i := 3) rfl))) (by decide) (backOf (W := 0) (rm_tx1 l Z aT hw [] x1 g1 T168.heap n0 Z168 f196 hg1) hZ (hw _ (List.mem_of_getElem? (i := 3) rfl)) (hw _ (List.mem_of_getElem? (i := 2) rfl)) (by decide) (by decide)) (g := (mkF m 28 #[.val (.int x0), .val (.int x1), .val (.int x2), .val (.ref os_168), .unset, .unset, .unset, .unset, .unset] [(.int (1 : Int32)), (.int x1)])) rfl (by rw [hml]; rfl) (argsL := [(.int x1), (.int (1 : Int32))]) (rest := []) (lenOf pd7 rfl) rfl (by show 2 * 0 + _ ≤ _; exact Nat.le_of_eq rfl) (hb hby at_28) (fun _ _ => ⟨rfl, rfl, (by decide : 3 + 3 ≤ _), (by decide : 8 + 8 ≤ _)⟩)
      dsimp only [Pt.U, Pt.locs, Pt.cells, Pt.slots] at X195 l195 y195 z195 st195 hQ195
      subst l195 y195 z195
      obtain ⟨os_195, rfl, N195q, K195, q195_0, q195_1⟩ := hQ195
      have N195 := Fr.app N168 N195q
      have Z195 : n0 ≤ T195.heap.size := Nat.le_trans Z168 K195.1
      have ne197 : os_168 ≠ os_195 := Nat.ne_of_lt (Nat.lt_of_lt_of_le (q168_1).lt q195_0)
      have ge198 : n0 ≤ os_195 := Nat.le_trans Z168 q195_0
      refine own_go st195 ?_
      show own_Got p e below _ T195 (mkF m 31 #[.val (.int x0), .val (.int x1), .val (.int x2), .val (.ref os_168), .unset, .unset, .unset, .unset, .unset] [(.ref os_195)])
      refine g_astore X195 hx hby #[.val (.int x0), .val (.int x1), .val (.int x2), .val (.ref os_168), .val (.ref os_195), .unset, .unset, .unset, .unset] at_31 rfl rfl (rfl : 31 + 2 = 33) ?_
      refine g_aloadN X195 hx hby at_33 rfl rfl (rfl : 33 + 1 = 34) ?_
      refine g_aload X195 hx hby at_34 rfl rfl (rfl : 34 + 2 = 36) ?_
      have f200 : Sta Z T195.heap "com/example/graftwork/graftwork/Resolution$Verdict$Kind" "IGNORED" "Lcom/example/graftwork/graftwork/Resolution$Verdict$Kind;" (.ref wI) := (own_stakeep0 (own_stakeep0 hp0 K168) K195)
      have f201 : Exa Z T195.heap os_168 "java/lang/String" := (Exa.keep q168_1 K195)
      obtain ⟨_, _, ⟨T199, L199, k199, n199⟩, -, X199, ⟨Lc199, hQ199, l199, y199, z199⟩, st199⟩ := Jvm.LawKit.callS X195 hx (y := (⟨"com/example/graftwork/graftwork/Resolution$Verdict", "ignored", "(Ljava/lang/String;Ljava/lang/String;)Lcom/example/graftwork/graftwork/Resolution$Verdict;"⟩ : MethodName)) hown (mvT hZ (hw _ (List.mem_of_getElem? (i := 34) rfl))) (mvT hZ (hw _ (List.mem_of_getElem? (i := 35) rfl))) (mvT hZ (hw _ (List.mem_of_getElem? (i := 36) rfl))) (mvT hZ (hw _ (List.mem_of_getElem? (i := 37) rfl))) (by decide) (backOf (W := 0) (rm_ign l Z aT hw [] os_168 os_195 wI T195.heap n0 Z195 f200) hZ (hw _ (List.mem_of_getElem? (i := 37) rfl)) (hw _ (List.mem_of_getElem? (i := 36) rfl)) (by decide) (by decide)) (g := (mkF m 36 #[.val (.int x0), .val (.int x1), .val (.int x2), .val (.ref os_168), .val (.ref os_195), .unset, .unset, .unset, .unset] [(.ref os_195), (.ref os_168)])) rfl (by rw [hml]; rfl) (argsL := [(.ref os_168), (.ref os_195)]) (rest := []) (lenOf pd8 rfl) rfl (by show 2 * 0 + _ ≤ _; exact Nat.le_of_eq rfl) (hb hby at_36) (fun _ _ => ⟨rfl, rfl, (by decide : 6 + 1 ≤ _), (by decide : 16 + 3 ≤ _)⟩)
      dsimp only [Pt.U, Pt.locs, Pt.cells, Pt.slots] at X199 l199 y199 z199 st199 hQ199
      subst l199 y199 z199
      obtain ⟨ob_199, rfl, N199q, K199, q199_0, q199_1, q199_2, q199_3, q199_4⟩ := hQ199
      have N199 := Fr.app N195 N199q
      have Z199 : n0 ≤ T199.heap.size := Nat.le_trans Z195 K199.1
      have ne202 : os_168 ≠ ob_199 := Nat.ne_of_lt (Nat.lt_of_lt_of_le (f201).lt q199_0)
      have ne203 : os_195 ≠ ob_199 := Nat.ne_of_lt (Nat.lt_of_lt_of_le (q195_1).lt q199_0)
      have ge204 : n0 ≤ ob_199 := Nat.le_trans Z195 q199_0
      refine own_go st199 ?_
      show own_Got p e below _ T199 (mkF m 39 #[.val (.int x0), .val (.int x1), .val (.int x2), .val (.ref os_168), .val (.ref os_195), .unset, .unset, .unset, .unset] [(.ref ob_199)])
      refine g_astore X199 hx hby #[.val (.int x0), .val (.int x1), .val (.int x2), .val (.ref os_168), .val (.ref os_195), .val (.ref ob_199), .unset, .unset, .unset] at_39 rfl rfl (rfl : 39 + 2 = 41) ?_
      refine g_aload X199 hx hby at_41 rfl rfl (rfl : 41 + 2 = 43) ?_
      refine g_innT X199 hx hby at_43 (by decide) (pc' := 48) (by decide) ?_
      refine g_aload X199 hx hby at_48 rfl rfl (rfl : 48 + 2 = 50) ?_
      obtain ⟨cq205, kq205, q205a, q205b, q205c⟩ := isOf hZ rfl q199_1
      obtain ⟨_, _, ⟨T205, L205, k205, n205⟩, -, X205, ⟨Lc205, hQ205, l205, y205, z205⟩, st205⟩ := X199.virtualBack hx (y := (⟨"com/example/graftwork/graftwork/Resolution$Verdict", "kind", "()Lcom/example/graftwork/graftwork/Resolution$Verdict$Kind;"⟩ : MethodName)) (z := (⟨"com/example/graftwork/graftwork/Resolution$Verdict", "kind", "()Lcom/example/graftwork/graftwork/Resolution$Verdict$Kind;"⟩ : MethodName)) hown (mvT hZ (hw _ (List.mem_of_getElem? (i := 58) rfl))) (mvT hZ (hw _ (List.mem_of_getElem? (i := 59) rfl))) (notFace_of_selects (args := #[]) (mvT hZ (hw _ (List.mem_of_getElem? (i := 61) rfl)))) (mvT hZ (hw _ (List.mem_of_getElem? (i := 61) rfl))) (mvT hZ (hw _ (List.mem_of_getElem? (i := 60) rfl))) (by decide) (backOf (W := 0) (rm_g_kind l Z aT hw [] ob_199 wI T199.heap n0 Z199 q199_2) hZ (hw _ (List.mem_of_getElem? (i := 62) rfl)) (hw _ (List.mem_of_getElem? (i := 36) rfl)) (by decide) (by decide)) q205a q205c (g := (mkF m 50 #[.val (.int x0), .val (.int x1), .val (.int x2), .val (.ref os_168), .val (.ref os_195), .val (.ref ob_199), .unset, .unset, .unset] [(.ref ob_199)])) rfl (by rw [hml]; rfl) (Steps.refl _) (argsL := []) (rest := []) (lenOf pd9 rfl) rfl (by show 2 * 0 + _ ≤ _; exact Nat.le_of_eq rfl) (hb hby at_50) (fun _ _ => ⟨rfl, rfl, (by decide : 7 + 0 ≤ _), (by decide : 19 + 0 ≤ _)⟩)
      dsimp only [Pt.U, Pt.locs, Pt.cells, Pt.slots] at X205 l205 y205 z205 st205 hQ205
      subst l205 y205 z205
      obtain ⟨rfl, N205q, eq205⟩ := hQ205
      have N205 := Fr.app N199 N205q
      refine own_tr st205 ?_
      show own_Got p e below _ T205 (mkF m 53 #[.val (.int x0), .val (.int x1), .val (.int x2), .val (.ref os_168), .val (.ref os_195), .val (.ref ob_199), .unset, .unset, .unset] [(.ref wI)])
      have f206 : Sta Z T199.heap "com/example/graftwork/graftwork/Resolution$Verdict$Kind" "IGNORED" "Lcom/example/graftwork/graftwork/Resolution$Verdict$Kind;" (.ref wI) := (own_stakeep0 f200 K199)
      obtain ⟨T207, X207, e207, st207⟩ := getS2 X205 hx hZ hown (host := "") (Or.inl (hw _ (List.mem_of_getElem? (i := 63) rfl))) Via.refl eq205 f206 (g := (mkF m 53 #[.val (.int x0), .val (.int x1), .val (.int x2), .val (.ref os_168), .val (.ref os_195), .val (.ref ob_199), .unset, .unset, .unset] [(.ref wI)])) rfl (hb hby at_53)
      refine own_go st207 ?_
      show own_Got p e below _ T207 (mkF m 56 #[.val (.int x0), .val (.int x1), .val (.int x2), .val (.ref os_168), .val (.ref os_195), .val (.ref ob_199), .unset, .unset, .unset] [(.ref wI), (.ref wI)])
      refine g_acmp X207 hx hby (pc' := 59) true at_56 rfl rfl (decide_eq_true rfl) (by decide) (by decide) ?_
      refine g_aload X207 hx hby at_59 rfl rfl (rfl : 59 + 2 = 61) ?_
      obtain ⟨cq208, kq208, q208a, q208b, q208c⟩ := isOf hZ e207 q199_1
      obtain ⟨_, _, ⟨T208, L208, k208, n208⟩, -, X208, ⟨Lc208, hQ208, l208, y208, z208⟩, st208⟩ := X207.virtualBack hx (y := (⟨"com/example/graftwork/graftwork/Resolution$Verdict", "kind", "()Lcom/example/graftwork/graftwork/Resolution$Verdict$Kind;"⟩ : MethodName)) (z := (⟨"com/example/graftwork/graftwork/Resolution$Verdict", "kind", "()Lcom/example/graftwork/graftwork/Resolution$Verdict$Kind;"⟩ : MethodName)) hown (mvT hZ (hw _ (List.mem_of_getElem? (i := 58) rfl))) (mvT hZ (hw _ (List.mem_of_getElem? (i := 59) rfl))) (notFace_of_selects (args := #[]) (mvT hZ (hw _ (List.mem_of_getElem? (i := 61) rfl)))) (mvT hZ (hw _ (List.mem_of_getElem? (i := 61) rfl))) (mvT hZ (hw _ (List.mem_of_getElem? (i := 60) rfl))) (by decide) (backOf (W := 0) (rm_g_kind l Z aT hw [] ob_199 wI T199.heap n0 Z199 q199_2) hZ (hw _ (List.mem_of_getElem? (i := 62) rfl)) (hw _ (List.mem_of_getElem? (i := 36) rfl)) (by decide) (by decide)) q208a q208c (g := (mkF m 61 #[.val (.int x0), .val (.int x1), .val (.int x2), .val (.ref os_168), .val (.ref os_195), .val (.ref ob_199), .unset, .unset, .unset] [(.ref ob_199)])) rfl (by rw [hml]; rfl) (Steps.refl _) (argsL := []) (rest := []) (lenOf pd9 rfl) rfl (by show 2 * 0 + _ ≤ _; exact Nat.le_of_eq rfl) (hb hby at_61) (fun _ _ => ⟨rfl, e207, (by decide : 7 + 0 ≤ _), (by decide : 19 + 0 ≤ _)⟩)
      dsimp only [Pt.U, Pt.locs, Pt.cells, Pt.slots] at X208 l208 y208 z208 st208 hQ208
      subst l208 y208 z208
      obtain ⟨rfl, N208q, eq208⟩ := hQ208
      have N208 := Fr.app N205 N208q
      refine own_tr st208 ?_
      show own_Got p e below _ T208 (mkF m 64 #[.val (.int x0), .val (.int x1), .val (.int x2), .val (.ref os_168), .val (.ref os_195), .val (.ref ob_199), .unset, .unset, .unset] [(.ref wI)])
      have f209 : Sta Z T199.heap "com/example/graftwork/graftwork/Resolution$Verdict$Kind" "REFUSED" "Lcom/example/graftwork/graftwork/Resolution$Verdict$Kind;" (.ref wR) := (own_stakeep0 (own_stakeep0 (own_stakeep0 hp1 K168) K195) K199)
      obtain ⟨T210, X210, e210, st210⟩ := getS2 X208 hx hZ hown (host := "") (Or.inl (hw _ (List.mem_of_getElem? (i := 64) rfl))) Via.refl eq208 f209 (g := (mkF m 64 #[.val (.int x0), .val (.int x1), .val (.int x2), .val (.ref os_168), .val (.ref os_195), .val (.ref ob_199), .unset, .unset, .unset] [(.ref wI)])) rfl (hb hby at_64)
      refine own_go st210 ?_
      show own_Got p e below _ T210 (mkF m 67 #[.val (.int x0), .val (.int x1), .val (.int x2), .val (.ref os_168), .val (.ref os_195), .val (.ref ob_199), .unset, .unset, .unset] [(.ref wR), (.ref wI)])
      refine g_acmp X210 hx hby (pc' := 70) false at_67 rfl rfl (decide_eq_false fun q => hp2 (Value.ref.inj q)) (by decide) (by decide) ?_
      refine g_iconst X210 hx hby (1 : Int32) at_70 (by decide) (rfl : 70 + 1 = 71) ?_
      refine g_goto X210 hx hby at_71 (by decide) (pc' := 75) (by decide) ?_
      refine g_istore X210 hx hby #[.val (.int x0), .val (.int x1), .val (.int x2), .val (.ref os_168), .val (.ref os_195), .val (.ref ob_199), .val (.int (1 : Int32)), .unset, .unset] at_75 rfl (rfl : 75 + 2 = 77) ?_
      refine g_aload X210 hx hby at_77 rfl rfl (rfl : 77 + 2 = 79) ?_
      obtain ⟨cq211, kq211, q211a, q211b, q211c⟩ := isOf hZ e210 q199_1
      obtain ⟨_, _, ⟨T211, L211, k211, n211⟩, -, X211, ⟨Lc211, hQ211, l211, y211, z211⟩, st211⟩ := X210.virtualBack hx (y := (⟨"com/example/graftwork/graftwork/Resolution$Verdict", "file", "()Ljava/lang/String;"⟩ : MethodName)) (z := (⟨"com/example/graftwork/graftwork/Resolution$Verdict", "file", "()Ljava/lang/String;"⟩ : MethodName)) hown (mvT hZ (hw _ (List.mem_of_getElem? (i := 66) rfl))) (mvT hZ (hw _ (List.mem_of_getElem? (i := 67) rfl))) (notFace_of_selects (args := #[]) (mvT hZ (hw _ (List.mem_of_getElem? (i := 69) rfl)))) (mvT hZ (hw _ (List.mem_of_getElem? (i := 69) rfl))) (mvT hZ (hw _ (List.mem_of_getElem? (i := 68) rfl))) (by decide) (backOf (W := 0) (rm_g_file l Z aT hw [] ob_199 os_168 T199.heap n0 Z199 q199_3) hZ (hw _ (List.mem_of_getElem? (i := 70) rfl)) (hw _ (List.mem_of_getElem? (i := 36) rfl)) (by decide) (by decide)) q211a q211c (g := (mkF m 79 #[.val (.int x0), .val (.int x1), .val (.int x2), .val (.ref os_168), .val (.ref os_195), .val (.ref ob_199), .val (.int (1 : Int32)), .unset, .unset] [(.ref ob_199)])) rfl (by rw [hml]; rfl) (Steps.refl _) (argsL := []) (rest := []) (lenOf pd10 rfl) rfl (by show 2 * 0 + _ ≤ _; exact Nat.le_of_eq rfl) (hb hby at_79) (fun _ _ => ⟨rfl, e210, (by decide : 7 + 0 ≤ _), (by decide : 19 + 0 ≤ _)⟩)
      dsimp only [Pt.U, Pt.locs, Pt.cells, Pt.slots] at X211 l211 y211 z211 st211 hQ211
      subst l211 y211 z211
      obtain ⟨rfl, N211q, eq211⟩ := hQ211
      have N211 := Fr.app N208 N211q
      refine own_tr st211 ?_
      show own_Got p e below _ T211 (mkF m 82 #[.val (.int x0), .val (.int x1), .val (.int x2), .val (.ref os_168), .val (.ref os_195), .val (.ref ob_199), .val (.int (1 : Int32)), .unset, .unset] [(.ref os_168)])
      refine g_aloadN X211 hx hby at_82 rfl rfl (rfl : 82 + 1 = 83) ?_
      refine g_acmp X211 hx hby (pc' := 86) true at_83 rfl rfl (decide_eq_true rfl) (by decide) (by decide) ?_
      refine g_aload X211 hx hby at_86 rfl rfl (rfl : 86 + 2 = 88) ?_
      obtain ⟨cq212, kq212, q212a, q212b, q212c⟩ := isOf hZ eq211 q199_1
      obtain ⟨_, _, ⟨T212, L212, k212, n212⟩, -, X212, ⟨Lc212, hQ212, l212, y212, z212⟩, st212⟩ := X211.virtualBack hx (y := (⟨"com/example/graftwork/graftwork/Resolution$Verdict", "file", "()Ljava/lang/String;"⟩ : MethodName)) (z := (⟨"com/example/graftwork/graftwork/Resolution$Verdict", "file", "()Ljava/lang/String;"⟩ : MethodName)) hown (mvT hZ (hw _ (List.mem_of_getElem? (i := 66) rfl))) (mvT hZ (hw _ (List.mem_of_getElem? (i := 67) rfl))) (notFace_of_selects (args := #[]) (mvT hZ (hw _ (List.mem_of_getElem? (i := 69) rfl)))) (mvT hZ (hw _ (List.mem_of_getElem? (i := 69) rfl))) (mvT hZ (hw _ (List.mem_of_getElem? (i := 68) rfl))) (by decide) (backOf (W := 0) (rm_g_file l Z aT hw [] ob_199 os_168 T199.heap n0 Z199 q199_3) hZ (hw _ (List.mem_of_getElem? (i := 70) rfl)) (hw _ (List.mem_of_getElem? (i := 36) rfl)) (by decide) (by decide)) q212a q212c (g := (mkF m 88 #[.val (.int x0), .val (.int x1), .val (.int x2), .val (.ref os_168), .val (.ref os_195), .val (.ref ob_199), .val (.int (1 : Int32)), .unset, .unset] [(.ref ob_199)])) rfl (by rw [hml]; rfl) (Steps.refl _) (argsL := []) (rest := []) (lenOf pd10 rfl) rfl (by show 2 * 0 + _ ≤ _; exact Nat.le_of_eq rfl) (hb hby at_88) (fun _ _ => ⟨rfl, eq211, (by decide : 7 + 0 ≤ _), (by decide : 19 + 0 ≤ _)⟩)
      dsimp only [Pt.U, Pt.locs, Pt.cells, Pt.slots] at X212 l212 y212 z212 st212 hQ212
      subst l212 y212 z212
      obtain ⟨rfl, N212q, eq212⟩ := hQ212
      have N212 := Fr.app N211 N212q
      refine own_tr st212 ?_
      show own_Got p e below _ T212 (mkF m 91 #[.val (.int x0), .val (.int x1), .val (.int x2), .val (.ref os_168), .val (.ref os_195), .val (.ref ob_199), .val (.int (1 : Int32)), .unset, .unset] [(.ref os_168)])
      refine g_aloadN X212 hx hby at_91 rfl rfl (rfl : 91 + 1 = 92) ?_
      have f214 : Exa Z T199.heap os_168 "java/lang/String" := (Exa.keep f201 K199)
      obtain ⟨cq213, kq213, q213a, q213b, q213c⟩ := isOf hZ eq212 f214
      obtain ⟨_, _, ⟨T213, L213, k213, n213⟩, -, X213, ⟨Lc213, hQ213, l213, y213, z213⟩, st213⟩ := X212.virtualBack hx (y := (⟨"java/lang/String", "equals", "(Ljava/lang/Object;)Z"⟩ : MethodName)) (z := (⟨"java/lang/String", "equals", "(Ljava/lang/Object;)Z"⟩ : MethodName)) hown (mvT hZ (hw _ (List.mem_of_getElem? (i := 71) rfl))) (mvT hZ (hw _ (List.mem_of_getElem? (i := 72) rfl))) (notFace_of_selects (args := #[]) (mvT hZ (hw _ (List.mem_of_getElem? (i := 74) rfl)))) (mvT hZ (hw _ (List.mem_of_getElem? (i := 74) rfl))) (mvT hZ (hw _ (List.mem_of_getElem? (i := 73) rfl))) (by decide) (backOf (W := 0) (rm_eqS l Z aT hw [] os_168 T199.heap n0 Z199) hZ (hw _ (List.mem_of_getElem? (i := 75) rfl)) (hw _ (List.mem_of_getElem? (i := 6) rfl)) (by decide) (by decide)) q213a q213c (g := (mkF m 92 #[.val (.int x0), .val (.int x1), .val (.int x2), .val (.ref os_168), .val (.ref os_195), .val (.ref ob_199), .val (.int (1 : Int32)), .unset, .unset] [(.ref os_168), (.ref os_168)])) rfl (by rw [hml]; rfl) (Steps.refl _) (argsL := [(.ref os_168)]) (rest := []) (lenOf pd11 rfl) rfl (by show 2 * 0 + _ ≤ _; exact Nat.le_of_eq rfl) (hb hby at_92) (fun _ _ => ⟨rfl, eq212, (by decide : 7 + 0 ≤ _), (by decide : 19 + 0 ≤ _)⟩)
      dsimp only [Pt.U, Pt.locs, Pt.cells, Pt.slots] at X213 l213 y213 z213 st213 hQ213
      subst l213 y213 z213
      obtain ⟨rfl, N213q, eq213⟩ := hQ213
      have N213 := Fr.app N212 N213q
      refine own_tr st213 ?_
      show own_Got p e below _ T213 (mkF m 95 #[.val (.int x0), .val (.int x1), .val (.int x2), .val (.ref os_168), .val (.ref os_195), .val (.ref ob_199), .val (.int (1 : Int32)), .unset, .unset] [(.int (1 : Int32))])
      refine g_ifF X213 hx hby at_95 ((if0 _ _).trans (feq (by decide : ¬ ((1 : Int32) = (0 : Int32)))).1) (rfl : 95 + 3 = 98) ?_
      refine g_iconst X213 hx hby (1 : Int32) at_98 (by decide) (rfl : 98 + 1 = 99) ?_
      refine g_goto X213 hx hby at_99 (by decide) (pc' := 103) (by decide) ?_
      refine g_istore X213 hx hby #[.val (.int x0), .val (.int x1), .val (.int x2), .val (.ref os_168), .val (.ref os_195), .val (.ref ob_199), .val (.int (1 : Int32)), .val (.int (1 : Int32)), .unset] at_103 rfl (rfl : 103 + 2 = 105) ?_
      refine g_aload X213 hx hby at_105 rfl rfl (rfl : 105 + 2 = 107) ?_
      obtain ⟨cq215, kq215, q215a, q215b, q215c⟩ := isOf hZ eq213 q199_1
      obtain ⟨_, _, ⟨T215, L215, k215, n215⟩, -, X215, ⟨Lc215, hQ215, l215, y215, z215⟩, st215⟩ := X213.virtualBack hx (y := (⟨"com/example/graftwork/graftwork/Resolution$Verdict", "reason", "()Ljava/lang/String;"⟩ : MethodName)) (z := (⟨"com/example/graftwork/graftwork/Resolution$Verdict", "reason", "()Ljava/lang/String;"⟩ : MethodName)) hown (mvT hZ (hw _ (List.mem_of_getElem? (i := 76) rfl))) (mvT hZ (hw _ (List.mem_of_getElem? (i := 77) rfl))) (notFace_of_selects (args := #[]) (mvT hZ (hw _ (List.mem_of_getElem? (i := 79) rfl)))) (mvT hZ (hw _ (List.mem_of_getElem? (i := 79) rfl))) (mvT hZ (hw _ (List.mem_of_getElem? (i := 78) rfl))) (by decide) (backOf (W := 0) (rm_g_reason l Z aT hw [] ob_199 os_195 T199.heap n0 Z199 q199_4) hZ (hw _ (List.mem_of_getElem? (i := 80) rfl)) (hw _ (List.mem_of_getElem? (i := 36) rfl)) (by decide) (by decide)) q215a q215c (g := (mkF m 107 #[.val (.int x0), .val (.int x1), .val (.int x2), .val (.ref os_168), .val (.ref os_195), .val (.ref ob_199), .val (.int (1 : Int32)), .val (.int (1 : Int32)), .unset] [(.ref ob_199)])) rfl (by rw [hml]; rfl) (Steps.refl _) (argsL := []) (rest := []) (lenOf pd10 rfl) rfl (by show 2 * 0 + _ ≤ _; exact Nat.le_of_eq rfl) (hb hby at_107) (fun _ _ => ⟨rfl, eq213, (by decide : 7 + 0 ≤ _), (by decide : 19 + 0 ≤ _)⟩)
      dsimp only [Pt.U, Pt.locs, Pt.cells, Pt.slots] at X215 l215 y215 z215 st215 hQ215
      subst l215 y215 z215
      obtain ⟨rfl, N215q, eq215⟩ := hQ215
      have N215 := Fr.app N213 N215q
      refine own_tr st215 ?_
      show own_Got p e below _ T215 (mkF m 110 #[.val (.int x0), .val (.int x1), .val (.int x2), .val (.ref os_168), .val (.ref os_195), .val (.ref ob_199), .val (.int (1 : Int32)), .val (.int (1 : Int32)), .unset] [(.ref os_195)])
      refine g_aload X215 hx hby at_110 rfl rfl (rfl : 110 + 2 = 112) ?_
      refine g_acmp X215 hx hby (pc' := 115) true at_112 rfl rfl (decide_eq_true rfl) (by decide) (by decide) ?_
      refine g_aload X215 hx hby at_115 rfl rfl (rfl : 115 + 2 = 117) ?_
      obtain ⟨cq216, kq216, q216a, q216b, q216c⟩ := isOf hZ eq215 q199_1
      obtain ⟨_, _, ⟨T216, L216, k216, n216⟩, -, X216, ⟨Lc216, hQ216, l216, y216, z216⟩, st216⟩ := X215.virtualBack hx (y := (⟨"com/example/graftwork/graftwork/Resolution$Verdict", "reason", "()Ljava/lang/String;"⟩ : MethodName)) (z := (⟨"com/example/graftwork/graftwork/Resolution$Verdict", "reason", "()Ljava/lang/String;"⟩ : MethodName)) hown (mvT hZ (hw _ (List.mem_of_getElem? (i := 76) rfl))) (mvT hZ (hw _ (List.mem_of_getElem? (i := 77) rfl))) (notFace_of_selects (args := #[]) (mvT hZ (hw _ (List.mem_of_getElem? (i := 79) rfl)))) (mvT hZ (hw _ (List.mem_of_getElem? (i := 79) rfl))) (mvT hZ (hw _ (List.mem_of_getElem? (i := 78) rfl))) (by decide) (backOf (W := 0) (rm_g_reason l Z aT hw [] ob_199 os_195 T199.heap n0 Z199 q199_4) hZ (hw _ (List.mem_of_getElem? (i := 80) rfl)) (hw _ (List.mem_of_getElem? (i := 36) rfl)) (by decide) (by decide)) q216a q216c (g := (mkF m 117 #[.val (.int x0), .val (.int x1), .val (.int x2), .val (.ref os_168), .val (.ref os_195), .val (.ref ob_199), .val (.int (1 : Int32)), .val (.int (1 : Int32)), .unset] [(.ref ob_199)])) rfl (by rw [hml]; rfl) (Steps.refl _) (argsL := []) (rest := []) (lenOf pd10 rfl) rfl (by show 2 * 0 + _ ≤ _; exact Nat.le_of_eq rfl) (hb hby at_117) (fun _ _ => ⟨rfl, eq215, (by decide : 7 + 0 ≤ _), (by decide : 19 + 0 ≤ _)⟩)
      dsimp only [Pt.U, Pt.locs, Pt.cells, Pt.slots] at X216 l216 y216 z216 st216 hQ216
      subst l216 y216 z216
      obtain ⟨rfl, N216q, eq216⟩ := hQ216
      have N216 := Fr.app N215 N216q
      refine own_tr st216 ?_
      show own_Got p e below _ T216 (mkF m 120 #[.val (.int x0), .val (.int x1), .val (.int x2), .val (.ref os_168), .val (.ref os_195), .val (.ref ob_199), .val (.int (1 : Int32)), .val (.int (1 : Int32)), .unset] [(.ref os_195)])
      refine g_aload X216 hx hby at_120 rfl rfl (rfl : 120 + 2 = 122) ?_
      have f218 : Exa Z T199.heap os_195 "java/lang/String" := (Exa.keep q195_1 K199)
      obtain ⟨cq217, kq217, q217a, q217b, q217c⟩ := isOf hZ eq216 f218
      obtain ⟨_, _, ⟨T217, L217, k217, n217⟩, -, X217, ⟨Lc217, hQ217, l217, y217, z217⟩, st217⟩ := X216.virtualBack hx (y := (⟨"java/lang/String", "equals", "(Ljava/lang/Object;)Z"⟩ : MethodName)) (z := (⟨"java/lang/String", "equals", "(Ljava/lang/Object;)Z"⟩ : MethodName)) hown (mvT hZ (hw _ (List.mem_of_getElem? (i := 71) rfl))) (mvT hZ (hw _ (List.mem_of_getElem? (i := 72) rfl))) (notFace_of_selects (args := #[]) (mvT hZ (hw _ (List.mem_of_getElem? (i := 74) rfl)))) (mvT hZ (hw _ (List.mem_of_getElem? (i := 74) rfl))) (mvT hZ (hw _ (List.mem_of_getElem? (i := 73) rfl))) (by decide) (backOf (W := 0) (rm_eqS l Z aT hw [] os_195 T199.heap n0 Z199) hZ (hw _ (List.mem_of_getElem? (i := 75) rfl)) (hw _ (List.mem_of_getElem? (i := 6) rfl)) (by decide) (by decide)) q217a q217c (g := (mkF m 122 #[.val (.int x0), .val (.int x1), .val (.int x2), .val (.ref os_168), .val (.ref os_195), .val (.ref ob_199), .val (.int (1 : Int32)), .val (.int (1 : Int32)), .unset] [(.ref os_195), (.ref os_195)])) rfl (by rw [hml]; rfl) (Steps.refl _) (argsL := [(.ref os_195)]) (rest := []) (lenOf pd11 rfl) rfl (by show 2 * 0 + _ ≤ _; exact Nat.le_of_eq rfl) (hb hby at_122) (fun _ _ => ⟨rfl, eq216, (by decide : 7 + 0 ≤ _), (by decide : 19 + 0 ≤ _)⟩)
      dsimp only [Pt.U, Pt.locs, Pt.cells, Pt.slots] at X217 l217 y217 z217 st217 hQ217
      subst l217 y217 z217
      obtain ⟨rfl, N217q, eq217⟩ := hQ217
      have N217 := Fr.app N216 N217q
      refine own_tr st217 ?_
      show own_Got p e below _ T217 (mkF m 125 #[.val (.int x0), .val (.int x1), .val (.int x2), .val (.ref os_168), .val (.ref os_195), .val (.ref ob_199), .val (.int (1 : Int32)), .val (.int (1 : Int32)), .unset] [(.int (1 : Int32))])
      refine g_ifF X217 hx hby at_125 ((if0 _ _).trans (feq (by decide : ¬ ((1 : Int32) = (0 : Int32)))).1) (rfl : 125 + 3 = 128) ?_
      refine g_iconst X217 hx hby (1 : Int32) at_128 (by decide) (rfl : 128 + 1 = 129) ?_
      refine g_goto X217 hx hby at_129 (by decide) (pc' := 133) (by decide) ?_
      refine g_istore X217 hx hby #[.val (.int x0), .val (.int x1), .val (.int x2), .val (.ref os_168), .val (.ref os_195), .val (.ref ob_199), .val (.int (1 : Int32)), .val (.int (1 : Int32)), .val (.int (1 : Int32))] at_133 rfl (rfl : 133 + 2 = 135) ?_
      refine g_iload X217 hx hby at_135 rfl (rfl : 135 + 2 = 137) ?_
      refine g_ifF X217 hx hby at_137 ((if0 _ _).trans (feq (by decide : ¬ ((1 : Int32) = (0 : Int32)))).1) (rfl : 137 + 3 = 140) ?_
      refine g_iload X217 hx hby at_140 rfl (rfl : 140 + 2 = 142) ?_
      refine g_ifF X217 hx hby at_142 ((if0 _ _).trans (feq (by decide : ¬ ((1 : Int32) = (0 : Int32)))).1) (rfl : 142 + 3 = 145) ?_
      refine g_iload X217 hx hby at_145 rfl (rfl : 145 + 2 = 147) ?_
      refine g_ifF X217 hx hby at_147 ((if0 _ _).trans (feq (by decide : ¬ ((1 : Int32) = (0 : Int32)))).1) (rfl : 147 + 3 = 150) ?_
      refine g_iconst X217 hx hby (1 : Int32) at_150 (by decide) (rfl : 150 + 1 = 151) ?_
      refine g_goto X217 hx hby at_151 (by decide) (pc' := 155) (by decide) ?_
      refine own_retN X217 hx hby hlk (t := .boolean) hrt (by simp) at_155 (by decide) (by decide) ?_
      show Q_law Z x0 x1 x2 wI wR g1 h0 n0 _ T217.heap _
      exact ⟨rfl, N217⟩
set_option maxRecDepth 65536 in
set_option maxHeartbeats 40000000 in
theorem comes_1 {Post : Tables → Env → Array Value → State → Outcome → State → Prop} (hpost : ∀ tb e args s v u, (limb_1_1.after args s (.returned v) u = true ∧ limb_1_2.after args s (.returned v) u = true ∧ True) → FrameEnd s (.returned v) u (Jvm.fieldLocs frame_1_writes args s ++ Jvm.arrayLocs frame_1_arrays args s ++ Jvm.staticLocs frame_1_statics s) 24 128 → Post tb e args s (.returned v) u) :
    ArmFor flags0 classFile x code maxLocals ret World_1 tables_1 room_1 Calls_1 rest_1 Pre_1 Post := by
  intro l hfl _ _ p e ha hc hk s m args below hf hA hF happ hP
  obtain ⟨hcalls, hrest, hpre⟩ := hP
  obtain ⟨-, -, -, hnamed, -, -, -, hat⟩ := (Spec.applies_iff hf).mp happ
  obtain ⟨hg, hn⟩ := and_e (Cond.before_iff.mp (show (Jvm.Cond.and given_1 narrow_1).before args s = true from hpre))
  obtain ⟨hcnt, hg0⟩ := and_e hg
  obtain ⟨ha0, hg1⟩ := and_e hg0
  obtain ⟨ha1, hg2⟩ := and_e hg1
  obtain ⟨w0, w1, w2, rfl⟩ : ∃ w0 w1 w2 : Value, args = #[w0, w1, w2] := by
    have hs : args.size = 3 := by simpa [Cond.value, given_1] using hcnt
    obtain ⟨L⟩ := args
    match L, hs with
    | [w0, w1, w2], _ => exact ⟨w0, w1, w2, rfl⟩
  have hw := fun d (hd : d ∈ tables_1) => atoms_spec (ws := Jvm.Cond.code x code maxLocals ret :: tables_1) hat d (List.mem_cons_of_mem _ hd)
  have hfit : Fit s := fun {y c} hc i hi => by
    obtain ⟨ha, rfl⟩ := Array.getElem?_eq_some_iff.mp hc
    have q := List.all_eq_true.mp ((Array.all_eq_true_iff_forall_mem.mp hF) _ (Array.getElem_mem ha)) i (List.mem_range.mpr hi)
    simpa [Array.getElem?_eq_getElem hi] using q
  obtain ⟨i0, ei0⟩ := is_v ha0
  obtain rfl : w0 = (.int i0) := Option.some.inj ei0
  obtain ⟨i1, ei1⟩ := is_v ha1
  obtain rfl : w1 = (.int i1) := Option.some.inj ei1
  obtain ⟨i2, ei2⟩ := is_v hg2
  obtain rfl : w2 = (.int i2) := Option.some.inj ei2
  obtain ⟨nn0, nr0⟩ := and_e hn
  obtain ⟨nn1, nr1⟩ := and_e nr0
  obtain ⟨nn2, nr2⟩ := and_e nr1
  obtain ⟨r_Kind_IGNORED, ev_Kind_IGNORED⟩ := exa_v nn0
  have S_Kind_IGNORED := Sta.start ev_Kind_IGNORED (Or.inr ⟨hw _ (List.mem_of_getElem? (i := 41) rfl), hw _ (List.mem_of_getElem? (i := 42) rfl)⟩)
  have A_Kind_IGNORED := Exa.start ev_Kind_IGNORED nn0
  obtain ⟨r_Kind_REFUSED, ev_Kind_REFUSED⟩ := exa_v nn1
  have S_Kind_REFUSED := Sta.start ev_Kind_REFUSED (Or.inr ⟨hw _ (List.mem_of_getElem? (i := 41) rfl), hw _ (List.mem_of_getElem? (i := 65) rfl)⟩)
  have A_Kind_REFUSED := Exa.start ev_Kind_REFUSED nn1
  have F_Kind_IGNORED_ordinal := Fld.start ((fld_at ev_Kind_IGNORED).symm.trans (own_eqI nn2))
  have F_Kind_REFUSED_ordinal := Fld.start ((fld_at ev_Kind_REFUSED).symm.trans (own_eqI nr2))
  obtain ⟨hsets, hown0⟩ := atoms_of _ (rest_1_c_eq ▸ (show rest_1_c.before _ s = true from hrest))
  obtain ⟨G1, evG1⟩ := is_v (Cond.before_iff.mp (hsets _ (List.mem_of_getElem? (i := 1) rfl)))
  have SG1 := Sta.start evG1 (Or.inl (hsets _ (List.mem_of_getElem? (i := 0) rfl)))
  have NG1 : ¬ (G1 = (0 : Int32)) := gotF (Cond.eq_ints evG1 rfl) (not_v (Cond.before_iff.mp (hsets _ (List.mem_of_getElem? (i := 2) rfl))))
  obtain ⟨n, o, h1, h2, h3, _, L, rfl, ⟨hv, N⟩, hq⟩ := rm_law l s _ hw tables_1 i0 i1 i2 r_Kind_IGNORED r_Kind_REFUSED G1 s.heap s.heap.size (Nat.le_refl _) S_Kind_IGNORED S_Kind_REFUSED (Fld.ne F_Kind_IGNORED_ordinal F_Kind_REFUSED_ordinal (by decide)) SG1 NG1 p e ha hc hk s m _ below hf ((Spec.applies_iff_loose hf).mp happ).1 ⟨rfl, State.Warmed39.refl s, rfl⟩ trivial
  subst hv
  refine ⟨n, _, h1, h2, h3, hpost _ _ _ _ _ _ ⟨Cond.after_iff.mpr rfl, Cond.after_iff.mpr (eq_i res_at (Term.int_eval (1)) rfl), trivial⟩ ⟨hq.1, hq.2.1, (hq.2.2.sift fun y hy => Or.inr (N y hy)).mono (by decide) (by decide)⟩⟩
theorem main_1_1 : Claimed_1_1 := comes_1 fun _ _ _ _ _ _ h hF => ⟨h.1, hF⟩
theorem main_1_2 : Claimed_1_2 := comes_1 fun _ _ _ _ _ _ h hF => ⟨h.2.1, hF⟩
end Jvm.Pilot.@@N@@
namespace Jvm.Pilot.@@N@@
open Jvm Jvm.ClassFile Sem Op Lib Jvm.Free Jvm.Stand Jvm.Pilot.@@N@@.Jvm.D
/-! MADE BY PROGRAM (witnessworld.py) out of the Statement's table words and the real class files: 23 classes; the members and pool entries that the words name. The judged class is class 1, her method 2. -/
namespace start1
open Jvm.ClassFile
def u (s : String) : CpInfo := .utf8 (stringToUtf16 s)
/-- a pool by its gaps: so many unusable entries, then the entry; so many at the end -/
def gap : Nat → List CpInfo → List CpInfo
  | 0, r => r
  | n + 1, r => .unusable :: gap n r
def poolList (es : List (Nat × CpInfo)) (last : Nat) : List CpInfo := es.foldr (fun e r => gap e.1 (e.2 :: r)) (gap last [])
def pool (es : List (Nat × CpInfo)) (last : Nat) : Array CpInfo := ⟨poolList es last⟩
def fileOf (pool : Array CpInfo) (this : Nat) (attrs : Array Attribute := #[]) (ms : Array MethodInfo := #[]) (fl : Nat := 33) (sup : Nat := 0) (ifs : Array Nat := #[]) (fds : Array FieldInfo := #[]) : ClassFile where
  minorVersion := 0
  majorVersion := 65
  constantPool := pool
  accessFlags := fl
  thisClass := this
  superClass := sup
  interfaces := ifs
  fields := fds
  methods := ms
  attributes := attrs
def plain (name : String) (sup : Option ClassId) : Class where
  name := name
  kind := .ordinary
  loader := none
  accessFlags := 33
  super := sup
  interfaces := #[]
  cf := none
  fields := #[]
  methods := #[]
  instanceTypes := #[]
  staticTypes := #[]
  resolved := #[]
  callSites := []
  init := .initialized
  statics := none
  mirror := none

def pool0 : Array CpInfo := pool [(5, u "<init>"), (0, u "()V"), (1, .class_ 10), (1, u "java/lang/Object")] 113

def k0c0 : Code := { maxStack := 0, maxLocals := 1, code := object_method_1_code, exceptionTable := #[], attributes := #[] }
def k0m0 : Method := { name := "<init>", desc := "()V", sig := { parameters := [], returnType := none }, accessFlags := 1, code := some k0c0 }
/-- java/lang/Object -/
def k0 : Class := { plain "java/lang/Object" none with
  accessFlags := 33
  interfaces := #[]
  cf := some (fileOf pool0 8 #[] #[{ accessFlags := 1, nameIndex := 5, descriptorIndex := 6, attributes := #[] }] 33 0 #[] #[])
  fields := #[]
  methods := #[k0m0]
  instanceTypes := #[]
  staticTypes := #[]
  resolved := Array.replicate 124 none
  statics := none }

def pool1 : Array CpInfo := pool [(2, .class_ 4), (1, u "java/lang/Object"), (0, u "<init>"), (0, u "()V"), (0, .class_ 8), (0, u "java/lang/String"), (0, .methodref 7 10), (0, .nameAndType 5 11), (0, u "([C)V"), (0, .methodref 13 14), (0, .class_ 15), (0, .nameAndType 16 17), (0, u "com/example/graftwork/graftwork/VerdictIgnoredPinLaw"), (0, u "text"), (0, u "(IZ)Ljava/lang/String;"), (0, .methodref 19 20), (0, .class_ 21), (0, .nameAndType 22 23), (0, u "com/example/graftwork/graftwork/Resolution$Verdict"), (0, u "ignored"), (0, u "(Ljava/lang/String;Ljava/lang/String;)Lcom/example/graftwork/graftwork/Resolution$Verdict;"), (0, .methodref 19 25), (0, .nameAndType 26 27), (0, u "kind"), (0, u "()Lcom/example/graftwork/graftwork/Resolution$Verdict$Kind;"), (0, .fieldref 29 30), (0, .class_ 31), (0, .nameAndType 32 33), (0, u "com/example/graftwork/graftwork/Resolution$Verdict$Kind"), (0, u "IGNORED"), (0, u "Lcom/example/graftwork/graftwork/Resolution$Verdict$Kind;"), (0, .fieldref 29 35), (0, .nameAndType 36 33), (0, u "REFUSED"), (0, .methodref 19 38), (0, .nameAndType 39 40), (0, u "file"), (0, u "()Ljava/lang/String;"), (0, .methodref 7 42), (0, .nameAndType 43 44), (0, u "equals"), (0, u "(Ljava/lang/Object;)Z"), (0, .methodref 19 46), (0, .nameAndType 47 40), (0, u "reason"), (3, u "law"), (0, u "(III)Z")] 7

def k1m0 : Method := { name := "<init>", desc := "()V", sig := { parameters := [], returnType := none }, accessFlags := 2, code := none }
def k1c1 : Code := { maxStack := 6, maxLocals := 4, code := method_2_code, exceptionTable := #[], attributes := #[] }
def k1m1 : Method := { name := "text", desc := "(IZ)Ljava/lang/String;", sig := { parameters := [.int, .boolean], returnType := some (.object "java/lang/String") }, accessFlags := 10, code := some k1c1 }
def k1c2 : Code := { maxStack := 3, maxLocals := 9, code := code, exceptionTable := #[], attributes := #[] }
def k1m2 : Method := { name := "law", desc := "(III)Z", sig := { parameters := [.int, .int, .int], returnType := some .boolean }, accessFlags := 9, code := some k1c2 }
/-- com/example/graftwork/graftwork/VerdictIgnoredPinLaw -/
def k1 : Class := { plain "com/example/graftwork/graftwork/VerdictIgnoredPinLaw" (some 0) with
  accessFlags := 49
  interfaces := #[]
  cf := some (fileOf pool1 13 #[] #[{ accessFlags := 2, nameIndex := 5, descriptorIndex := 6, attributes := #[] }, { accessFlags := 10, nameIndex := 16, descriptorIndex := 17, attributes := #[] }, { accessFlags := 9, nameIndex := 51, descriptorIndex := 52, attributes := #[] }] 49 2 #[] #[])
  fields := #[]
  methods := #[k1m0, k1m1, k1m2]
  instanceTypes := #[]
  staticTypes := #[]
  resolved := Array.replicate 60 none
  statics := none }

def pool2 : Array CpInfo := pool [(1, .class_ 2), (0, u "java/io/Serializable"), (0, .class_ 4), (0, u "java/lang/Object")] 2

/-- java/io/Serializable -/
def k2 : Class := { plain "java/io/Serializable" (some 0) with
  accessFlags := 1537
  interfaces := #[]
  cf := some (fileOf pool2 1 #[] #[] 1537 3 #[] #[])
  fields := #[]
  methods := #[]
  instanceTypes := #[]
  staticTypes := #[]
  resolved := Array.replicate 7 none
  statics := none }

def pool3 : Array CpInfo := pool [(1, .class_ 2), (0, u "java/lang/Comparable"), (0, .class_ 4), (0, u "java/lang/Object")] 7

/-- java/lang/Comparable -/
def k3 : Class := { plain "java/lang/Comparable" (some 0) with
  accessFlags := 1537
  interfaces := #[]
  cf := some (fileOf pool3 1 #[] #[] 1537 3 #[] #[])
  fields := #[]
  methods := #[]
  instanceTypes := #[]
  staticTypes := #[]
  resolved := Array.replicate 12 none
  statics := none }

def pool4 : Array CpInfo := pool [(2, .class_ 4), (1, u "java/lang/CharSequence"), (42, .class_ 48), (0, u "java/lang/CharSequence$1CodePointIterator"), (10, .class_ 60), (0, u "java/lang/CharSequence$1CharIterator"), (5, .class_ 67), (0, u "java/lang/Object")] 63

/-- java/lang/CharSequence -/
def k4 : Class := { plain "java/lang/CharSequence" (some 0) with
  accessFlags := 1537
  interfaces := #[]
  cf := some (fileOf pool4 2 #[.nestMembers #[47, 59]] #[] 1537 66 #[] #[])
  fields := #[]
  methods := #[]
  instanceTypes := #[]
  staticTypes := #[]
  resolved := Array.replicate 131 none
  statics := none }

def pool5 : Array CpInfo := pool [(1, .class_ 2), (0, u "java/lang/constant/Constable"), (0, .class_ 4), (0, u "java/lang/Object")] 6

/-- java/lang/constant/Constable -/
def k5 : Class := { plain "java/lang/constant/Constable" (some 0) with
  accessFlags := 1537
  interfaces := #[]
  cf := some (fileOf pool5 1 #[] #[] 1537 3 #[] #[])
  fields := #[]
  methods := #[]
  instanceTypes := #[]
  staticTypes := #[]
  resolved := Array.replicate 11 none
  statics := none }

def pool6 : Array CpInfo := pool [(1, .class_ 2), (0, u "java/lang/constant/ConstantDesc"), (0, .class_ 4), (0, u "java/lang/Object")] 32

/-- java/lang/constant/ConstantDesc -/
def k6 : Class := { plain "java/lang/constant/ConstantDesc" (some 0) with
  accessFlags := 1537
  interfaces := #[]
  cf := some (fileOf pool6 1 #[] #[] 1537 3 #[] #[])
  fields := #[]
  methods := #[]
  instanceTypes := #[]
  staticTypes := #[]
  resolved := Array.replicate 37 none
  statics := none }

def pool7 : Array CpInfo := pool [(1, .methodref 2 3), (0, .class_ 4), (0, .nameAndType 5 6), (0, u "java/lang/Object"), (0, u "<init>"), (0, u "()V"), (2, .fieldref 10 11), (0, .class_ 12), (0, .nameAndType 13 14), (0, u "java/lang/String"), (0, u "value"), (0, u "[B"), (0, .fieldref 10 16), (0, .nameAndType 17 18), (0, u "coder"), (0, u "B"), (2, u "hash"), (0, u "I"), (2, u "hashIsZero"), (0, u "Z"), (0, .methodref 10 28), (0, .nameAndType 5 29), (0, u "([CIILjava/lang/Void;)V"), (8, .fieldref 10 39), (0, .nameAndType 40 26), (0, u "COMPACT_STRINGS"), (1, .class_ 44), (1, u "java/lang/StringUTF16"), (0, u "compress"), (1, .methodref 42 48), (0, .nameAndType 49 50), (0, u "coderFromArrayLen"), (0, u "([BI)B"), (126, .methodref 42 178), (0, .nameAndType 45 179), (0, u "([CII)[B"), (363, u "equals"), (29, u "(Ljava/lang/Object;)Z"), (1, .class_ 576), (0, u "java/lang/CharSequence"), (22, u "CASE_INSENSITIVE_ORDER"), (0, u "Ljava/util/Comparator;"), (409, u "([C)V"), (90, u "serialPersistentFields"), (0, u "[Ljava/io/ObjectStreamField;"), (0, .class_ 1104), (0, u "java/lang/String$CaseInsensitiveComparator"), (1, .class_ 1107), (0, u "java/io/Serializable"), (0, .class_ 1109), (0, u "java/lang/Comparable"), (0, .class_ 1111), (0, u "java/lang/constant/Constable"), (0, .class_ 1113), (0, u "java/lang/constant/ConstantDesc"), (2, u "serialVersionUID"), (0, u "J"), (3, u "REPL"), (0, u "C"), (2, u "LATIN1"), (1, u "UTF16")] 323

def k7m0 : Method := { name := "<init>", desc := "()V", sig := { parameters := [], returnType := none }, accessFlags := 1, code := none }
def k7c1 : Code := { maxStack := 5, maxLocals := 2, code := jdk_42_method_3_code, exceptionTable := #[], attributes := #[] }
def k7m1 : Method := { name := "<init>", desc := "([C)V", sig := { parameters := [(.array .char)], returnType := none }, accessFlags := 1, code := some k7c1 }
def k7c2 : Code := { maxStack := 2, maxLocals := 3, code := jdk_42_method_66_code, exceptionTable := #[], attributes := #[] }
def k7m2 : Method := { name := "equals", desc := "(Ljava/lang/Object;)Z", sig := { parameters := [(.object "java/lang/Object")], returnType := some .boolean }, accessFlags := 1, code := some k7c2 }
def k7c3 : Code := { maxStack := 4, maxLocals := 6, code := jdk_42_method_149_code, exceptionTable := #[], attributes := #[] }
def k7m3 : Method := { name := "<init>", desc := "([CIILjava/lang/Void;)V", sig := { parameters := [(.array .char), .int, .int, (.object "java/lang/Void")], returnType := none }, accessFlags := 2, code := some k7c3 }
/-- java/lang/String -/
def k7 : Class := { plain "java/lang/String" (some 0) with
  accessFlags := 49
  interfaces := #[2, 3, 4, 5, 6]
  cf := some (fileOf pool7 10 #[.nestMembers #[1103]] #[{ accessFlags := 1, nameIndex := 5, descriptorIndex := 6, attributes := #[] }, { accessFlags := 1, nameIndex := 5, descriptorIndex := 1010, attributes := #[] }, { accessFlags := 1, nameIndex := 543, descriptorIndex := 573, attributes := #[] }, { accessFlags := 2, nameIndex := 5, descriptorIndex := 29, attributes := #[] }] 49 2 #[1106, 1108, 575, 1110, 1112] #[{ accessFlags := 18, nameIndex := 13, descriptorIndex := 14, attributes := #[] }, { accessFlags := 18, nameIndex := 17, descriptorIndex := 18, attributes := #[] }, { accessFlags := 2, nameIndex := 21, descriptorIndex := 22, attributes := #[] }, { accessFlags := 2, nameIndex := 25, descriptorIndex := 26, attributes := #[] }, { accessFlags := 26, nameIndex := 1116, descriptorIndex := 1117, attributes := #[] }, { accessFlags := 24, nameIndex := 40, descriptorIndex := 26, attributes := #[] }, { accessFlags := 26, nameIndex := 1101, descriptorIndex := 1102, attributes := #[] }, { accessFlags := 26, nameIndex := 1121, descriptorIndex := 1122, attributes := #[] }, { accessFlags := 25, nameIndex := 599, descriptorIndex := 600, attributes := #[] }, { accessFlags := 24, nameIndex := 1125, descriptorIndex := 18, attributes := #[] }, { accessFlags := 24, nameIndex := 1127, descriptorIndex := 18, attributes := #[] }])
  fields := #[{ name := "value", type := (.array .byte), accessFlags := 18, slot := 0, constantValue := 0 }, { name := "coder", type := .byte, accessFlags := 18, slot := 1, constantValue := 0 }, { name := "hash", type := .int, accessFlags := 2, slot := 2, constantValue := 0 }, { name := "hashIsZero", type := .boolean, accessFlags := 2, slot := 3, constantValue := 0 }, { name := "serialVersionUID", type := .long, accessFlags := 26, slot := 0, constantValue := 0 }, { name := "COMPACT_STRINGS", type := .boolean, accessFlags := 24, slot := 1, constantValue := 0 }, { name := "serialPersistentFields", type := (.array (.object "java/io/ObjectStreamField")), accessFlags := 26, slot := 2, constantValue := 0 }, { name := "REPL", type := .char, accessFlags := 26, slot := 3, constantValue := 0 }, { name := "CASE_INSENSITIVE_ORDER", type := (.object "java/util/Comparator"), accessFlags := 25, slot := 4, constantValue := 0 }, { name := "LATIN1", type := .byte, accessFlags := 24, slot := 5, constantValue := 0 }, { name := "UTF16", type := .byte, accessFlags := 24, slot := 6, constantValue := 0 }]
  methods := #[k7m0, k7m1, k7m2, k7m3]
  instanceTypes := #[(.array .byte), .byte, .int, .boolean]
  staticTypes := #[.long, .boolean, (.array (.object "java/io/ObjectStreamField")), .char, (.object "java/util/Comparator"), .byte, .byte]
  resolved := Array.replicate 1451 none
  statics := some 0 }

def pool8 : Array CpInfo := pool [(6, .class_ 8), (1, u "java/lang/Object"), (0, u "<init>"), (0, u "()V"), (1, .class_ 14), (1, u "java/lang/StringUTF16"), (31, u "$assertionsDisabled"), (0, u "Z"), (13, u "HI_BYTE_SHIFT"), (0, u "I"), (2, u "LO_BYTE_SHIFT"), (49, .methodref 12 116), (0, .nameAndType 117 118), (0, u "compress"), (0, u "([CI[BII)I"), (3, u "([CII)[B"), (138, u "coderFromArrayLen"), (0, u "([BI)B"), (106, .class_ 371), (1, u "java/lang/StringUTF16$LinesSpliterator"), (58, u "MAX_LENGTH"), (196, .class_ 628), (0, u "java/lang/StringUTF16$CodePointsSpliterator"), (0, .class_ 630), (0, u "java/lang/StringUTF16$CharsSpliterator")] 4

def k8m0 : Method := { name := "<init>", desc := "()V", sig := { parameters := [], returnType := none }, accessFlags := 0, code := none }
def k8c1 : Code := { maxStack := 2, maxLocals := 2, code := jdk_52_method_15_code, exceptionTable := #[], attributes := #[] }
def k8m1 : Method := { name := "coderFromArrayLen", desc := "([BI)B", sig := { parameters := [(.array .byte), .int], returnType := some .byte }, accessFlags := 8, code := some k8c1 }
def k8c2 : Code := { maxStack := 5, maxLocals := 6, code := jdk_52_method_16_code, exceptionTable := #[], attributes := #[] }
def k8m2 : Method := { name := "compress", desc := "([CII)[B", sig := { parameters := [(.array .char), .int, .int], returnType := some (.array .byte) }, accessFlags := 9, code := some k8c2 }
def k8c3 : Code := { maxStack := 3, maxLocals := 7, code := jdk_52_method_21_code, exceptionTable := #[], attributes := #[] }
def k8m3 : Method := { name := "compress", desc := "([CI[BII)I", sig := { parameters := [(.array .char), .int, (.array .byte), .int, .int], returnType := some .int }, accessFlags := 9, code := some k8c3 }
/-- java/lang/StringUTF16 -/
def k8 : Class := { plain "java/lang/StringUTF16" (some 0) with
  accessFlags := 48
  interfaces := #[]
  cf := some (fileOf pool8 12 #[.nestMembers #[627, 629, 369]] #[{ accessFlags := 0, nameIndex := 9, descriptorIndex := 10, attributes := #[] }, { accessFlags := 8, nameIndex := 261, descriptorIndex := 262, attributes := #[] }, { accessFlags := 9, nameIndex := 117, descriptorIndex := 122, attributes := #[] }, { accessFlags := 9, nameIndex := 117, descriptorIndex := 118, attributes := #[] }] 48 6 #[] #[{ accessFlags := 26, nameIndex := 61, descriptorIndex := 62, attributes := #[] }, { accessFlags := 26, nameIndex := 65, descriptorIndex := 62, attributes := #[] }, { accessFlags := 24, nameIndex := 430, descriptorIndex := 62, attributes := #[] }, { accessFlags := 4120, nameIndex := 46, descriptorIndex := 47, attributes := #[] }])
  fields := #[{ name := "HI_BYTE_SHIFT", type := .int, accessFlags := 26, slot := 0, constantValue := 0 }, { name := "LO_BYTE_SHIFT", type := .int, accessFlags := 26, slot := 1, constantValue := 0 }, { name := "MAX_LENGTH", type := .int, accessFlags := 24, slot := 2, constantValue := 0 }, { name := "$assertionsDisabled", type := .boolean, accessFlags := 4120, slot := 3, constantValue := 0 }]
  methods := #[k8m0, k8m1, k8m2, k8m3]
  instanceTypes := #[]
  staticTypes := #[.int, .int, .int, .boolean]
  resolved := Array.replicate 635 none
  statics := none }

def pool9 : Array CpInfo := pool [(1, .methodref 2 3), (0, .class_ 4), (0, .nameAndType 5 6), (0, u "java/lang/Object"), (0, u "<init>"), (0, u "()V"), (0, .class_ 8), (0, u "java/lang/Record")] 13

def k9c0 : Code := { maxStack := 1, maxLocals := 1, code := jdk_30_method_1_code, exceptionTable := #[], attributes := #[] }
def k9m0 : Method := { name := "<init>", desc := "()V", sig := { parameters := [], returnType := none }, accessFlags := 4, code := some k9c0 }
/-- java/lang/Record -/
def k9 : Class := { plain "java/lang/Record" (some 0) with
  accessFlags := 1057
  interfaces := #[]
  cf := some (fileOf pool9 7 #[] #[{ accessFlags := 4, nameIndex := 5, descriptorIndex := 6, attributes := #[] }] 1057 2 #[] #[])
  fields := #[]
  methods := #[k9m0]
  instanceTypes := #[]
  staticTypes := #[]
  resolved := Array.replicate 22 none
  statics := none }

def pool10 : Array CpInfo := pool [(1, .methodref 2 3), (0, .class_ 4), (0, .nameAndType 5 6), (0, u "java/lang/Record"), (0, u "<init>"), (0, u "()V"), (0, .fieldref 8 9), (0, .class_ 10), (0, .nameAndType 11 12), (0, u "com/example/graftwork/graftwork/Resolution$Verdict"), (0, u "kind"), (0, u "Lcom/example/graftwork/graftwork/Resolution$Verdict$Kind;"), (0, .fieldref 8 14), (0, .nameAndType 15 16), (0, u "file"), (0, u "Ljava/lang/String;"), (0, .fieldref 8 18), (0, .nameAndType 19 16), (0, u "reason"), (1, .class_ 23), (1, u "com/example/graftwork/graftwork/Resolution$Verdict$Kind"), (1, .methodref 8 26), (0, .nameAndType 5 27), (0, u "(Lcom/example/graftwork/graftwork/Resolution$Verdict$Kind;Ljava/lang/String;Ljava/lang/String;)V"), (4, u "()Ljava/lang/String;"), (3, u "(Ljava/lang/String;Ljava/lang/String;)Lcom/example/graftwork/graftwork/Resolution$Verdict;"), (0, .fieldref 21 38), (0, .nameAndType 39 12), (0, u "IGNORED"), (20, .class_ 62), (1, u "com/example/graftwork/graftwork/Resolution"), (23, u "ignored"), (3, u "()Lcom/example/graftwork/graftwork/Resolution$Verdict$Kind;")] 25

def k10c0 : Code := { maxStack := 2, maxLocals := 4, code := prog_48_method_1_code, exceptionTable := #[], attributes := #[] }
def k10m0 : Method := { name := "<init>", desc := "(Lcom/example/graftwork/graftwork/Resolution$Verdict$Kind;Ljava/lang/String;Ljava/lang/String;)V", sig := { parameters := [(.object "com/example/graftwork/graftwork/Resolution$Verdict$Kind"), (.object "java/lang/String"), (.object "java/lang/String")], returnType := none }, accessFlags := 0, code := some k10c0 }
def k10c1 : Code := { maxStack := 5, maxLocals := 2, code := prog_48_method_4_code, exceptionTable := #[], attributes := #[] }
def k10m1 : Method := { name := "ignored", desc := "(Ljava/lang/String;Ljava/lang/String;)Lcom/example/graftwork/graftwork/Resolution$Verdict;", sig := { parameters := [(.object "java/lang/String"), (.object "java/lang/String")], returnType := some (.object "com/example/graftwork/graftwork/Resolution$Verdict") }, accessFlags := 8, code := some k10c1 }
def k10c2 : Code := { maxStack := 1, maxLocals := 1, code := prog_48_method_9_code, exceptionTable := #[], attributes := #[] }
def k10m2 : Method := { name := "kind", desc := "()Lcom/example/graftwork/graftwork/Resolution$Verdict$Kind;", sig := { parameters := [], returnType := some (.object "com/example/graftwork/graftwork/Resolution$Verdict$Kind") }, accessFlags := 1, code := some k10c2 }
def k10c3 : Code := { maxStack := 1, maxLocals := 1, code := prog_48_method_10_code, exceptionTable := #[], attributes := #[] }
def k10m3 : Method := { name := "file", desc := "()Ljava/lang/String;", sig := { parameters := [], returnType := some (.object "java/lang/String") }, accessFlags := 1, code := some k10c3 }
def k10c4 : Code := { maxStack := 1, maxLocals := 1, code := prog_48_method_11_code, exceptionTable := #[], attributes := #[] }
def k10m4 : Method := { name := "reason", desc := "()Ljava/lang/String;", sig := { parameters := [], returnType := some (.object "java/lang/String") }, accessFlags := 1, code := some k10c4 }
/-- com/example/graftwork/graftwork/Resolution$Verdict -/
def k10 : Class := { plain "com/example/graftwork/graftwork/Resolution$Verdict" (some 9) with
  accessFlags := 48
  interfaces := #[]
  cf := some (fileOf pool10 8 #[.nestHost 60] #[{ accessFlags := 0, nameIndex := 5, descriptorIndex := 27, attributes := #[] }, { accessFlags := 8, nameIndex := 86, descriptorIndex := 36, attributes := #[] }, { accessFlags := 1, nameIndex := 11, descriptorIndex := 90, attributes := #[] }, { accessFlags := 1, nameIndex := 15, descriptorIndex := 32, attributes := #[] }, { accessFlags := 1, nameIndex := 19, descriptorIndex := 32, attributes := #[] }] 48 2 #[] #[{ accessFlags := 18, nameIndex := 11, descriptorIndex := 12, attributes := #[] }, { accessFlags := 18, nameIndex := 15, descriptorIndex := 16, attributes := #[] }, { accessFlags := 18, nameIndex := 19, descriptorIndex := 16, attributes := #[] }])
  fields := #[{ name := "kind", type := (.object "com/example/graftwork/graftwork/Resolution$Verdict$Kind"), accessFlags := 18, slot := 0, constantValue := 0 }, { name := "file", type := (.object "java/lang/String"), accessFlags := 18, slot := 1, constantValue := 0 }, { name := "reason", type := (.object "java/lang/String"), accessFlags := 18, slot := 2, constantValue := 0 }]
  methods := #[k10m0, k10m1, k10m2, k10m3, k10m4]
  instanceTypes := #[(.object "com/example/graftwork/graftwork/Resolution$Verdict$Kind"), (.object "java/lang/String"), (.object "java/lang/String")]
  staticTypes := #[]
  resolved := Array.replicate 116 none
  statics := none }

def pool11 : Array CpInfo := pool [(2, .class_ 4), (1, u "java/lang/Enum"), (0, u "name"), (0, u "Ljava/lang/String;"), (2, u "ordinal"), (0, u "I"), (1, .class_ 14), (1, u "java/lang/Object"), (4, u "hash"), (86, .class_ 108), (1, u "java/lang/Enum$EnumDesc"), (2, .class_ 112), (0, u "java/lang/constant/Constable"), (0, .class_ 114), (0, u "java/lang/Comparable"), (0, .class_ 116), (0, u "java/io/Serializable")] 87

/-- java/lang/Enum -/
def k11 : Class := { plain "java/lang/Enum" (some 0) with
  accessFlags := 1057
  interfaces := #[5, 3, 2]
  cf := some (fileOf pool11 2 #[.nestMembers #[106]] #[] 1057 12 #[111, 113, 115] #[{ accessFlags := 18, nameIndex := 5, descriptorIndex := 6, attributes := #[] }, { accessFlags := 18, nameIndex := 9, descriptorIndex := 10, attributes := #[] }, { accessFlags := 2, nameIndex := 19, descriptorIndex := 10, attributes := #[] }])
  fields := #[{ name := "name", type := (.object "java/lang/String"), accessFlags := 18, slot := 0, constantValue := 0 }, { name := "ordinal", type := .int, accessFlags := 18, slot := 1, constantValue := 0 }, { name := "hash", type := .int, accessFlags := 2, slot := 2, constantValue := 0 }]
  methods := #[]
  instanceTypes := #[(.object "java/lang/String"), .int, .int]
  staticTypes := #[]
  resolved := Array.replicate 204 none
  statics := none }

def pool12 : Array CpInfo := pool [(1, .class_ 2), (0, u "com/example/graftwork/graftwork/Resolution$Verdict$Kind"), (2, u "REFUSED"), (0, u "Lcom/example/graftwork/graftwork/Resolution$Verdict$Kind;"), (2, u "IGNORED"), (2, u "$VALUES"), (0, u "[Lcom/example/graftwork/graftwork/Resolution$Verdict$Kind;"), (6, .class_ 22), (1, u "java/lang/Enum"), (25, .class_ 49), (0, u "com/example/graftwork/graftwork/Resolution")] 5

/-- com/example/graftwork/graftwork/Resolution$Verdict$Kind -/
def k12 : Class := { plain "com/example/graftwork/graftwork/Resolution$Verdict$Kind" (some 11) with
  accessFlags := 16432
  interfaces := #[]
  cf := some (fileOf pool12 1 #[.nestHost 48] #[] 16432 20 #[] #[{ accessFlags := 16409, nameIndex := 5, descriptorIndex := 6, attributes := #[] }, { accessFlags := 16409, nameIndex := 9, descriptorIndex := 6, attributes := #[] }, { accessFlags := 4122, nameIndex := 12, descriptorIndex := 13, attributes := #[] }])
  fields := #[{ name := "REFUSED", type := (.object "com/example/graftwork/graftwork/Resolution$Verdict$Kind"), accessFlags := 16409, slot := 0, constantValue := 0 }, { name := "IGNORED", type := (.object "com/example/graftwork/graftwork/Resolution$Verdict$Kind"), accessFlags := 16409, slot := 1, constantValue := 0 }, { name := "$VALUES", type := (.array (.object "com/example/graftwork/graftwork/Resolution$Verdict$Kind")), accessFlags := 4122, slot := 2, constantValue := 0 }]
  methods := #[]
  instanceTypes := #[(.object "java/lang/String"), .int, .int]
  staticTypes := #[(.object "com/example/graftwork/graftwork/Resolution$Verdict$Kind"), (.object "com/example/graftwork/graftwork/Resolution$Verdict$Kind"), (.array (.object "com/example/graftwork/graftwork/Resolution$Verdict$Kind"))]
  resolved := Array.replicate 55 none
  statics := some 1 }

def pool13 : Array CpInfo := pool [(4, .class_ 6), (1, u "java/lang/Object"), (0, u "<init>"), (0, u "()V"), (5, .class_ 16), (1, u "java/lang/StringLatin1"), (104, u "$assertionsDisabled"), (0, u "Z"), (98, .class_ 223), (1, u "java/lang/StringLatin1$LinesSpliterator"), (166, .class_ 391), (0, u "java/lang/StringLatin1$CharsSpliterator")] 3

def k13m0 : Method := { name := "<init>", desc := "()V", sig := { parameters := [], returnType := none }, accessFlags := 0, code := none }
/-- java/lang/StringLatin1 -/
def k13 : Class := { plain "java/lang/StringLatin1" (some 0) with
  accessFlags := 48
  interfaces := #[]
  cf := some (fileOf pool13 14 #[.nestMembers #[390, 221]] #[{ accessFlags := 0, nameIndex := 7, descriptorIndex := 8, attributes := #[] }] 48 4 #[] #[{ accessFlags := 4120, nameIndex := 121, descriptorIndex := 122, attributes := #[] }])
  fields := #[{ name := "$assertionsDisabled", type := .boolean, accessFlags := 4120, slot := 0, constantValue := 0 }]
  methods := #[k13m0]
  instanceTypes := #[]
  staticTypes := #[.boolean]
  resolved := Array.replicate 395 none
  statics := none }

def pool14 : Array CpInfo := pool [(2, .class_ 4), (1, u "java/lang/Object"), (0, u "<init>"), (0, u "()V"), (17, .class_ 26), (1, u "jdk/internal/util/Preconditions"), (28, .class_ 56), (0, u "jdk/internal/util/Preconditions$4"), (57, .class_ 115), (0, u "jdk/internal/util/Preconditions$1"), (7, u "SIOOBE_FORMATTER"), (0, u "Ljava/util/function/BiFunction;"), (0, .class_ 126), (0, u "jdk/internal/util/Preconditions$2"), (3, u "AIOOBE_FORMATTER"), (0, .class_ 132), (0, u "jdk/internal/util/Preconditions$3"), (3, u "IOOBE_FORMATTER")] 57

def k14m0 : Method := { name := "<init>", desc := "()V", sig := { parameters := [], returnType := none }, accessFlags := 1, code := none }
/-- jdk/internal/util/Preconditions -/
def k14 : Class := { plain "jdk/internal/util/Preconditions" (some 0) with
  accessFlags := 33
  interfaces := #[]
  cf := some (fileOf pool14 24 #[.nestMembers #[55, 131, 125, 114]] #[{ accessFlags := 1, nameIndex := 5, descriptorIndex := 6, attributes := #[] }] 33 2 #[] #[{ accessFlags := 25, nameIndex := 123, descriptorIndex := 124, attributes := #[] }, { accessFlags := 25, nameIndex := 130, descriptorIndex := 124, attributes := #[] }, { accessFlags := 25, nameIndex := 136, descriptorIndex := 124, attributes := #[] }])
  fields := #[{ name := "SIOOBE_FORMATTER", type := (.object "java/util/function/BiFunction"), accessFlags := 25, slot := 0, constantValue := 0 }, { name := "AIOOBE_FORMATTER", type := (.object "java/util/function/BiFunction"), accessFlags := 25, slot := 1, constantValue := 0 }, { name := "IOOBE_FORMATTER", type := (.object "java/util/function/BiFunction"), accessFlags := 25, slot := 2, constantValue := 0 }]
  methods := #[k14m0]
  instanceTypes := #[]
  staticTypes := #[(.object "java/util/function/BiFunction"), (.object "java/util/function/BiFunction"), (.object "java/util/function/BiFunction")]
  resolved := Array.replicate 194 none
  statics := some 2 }

def pool15 : Array CpInfo := pool [(9, u "<init>"), (6, .class_ 18), (1, u "java/lang/Object"), (0, u "()V"), (1, .class_ 23), (1, u "jdk/internal/util/ArraysSupport"), (0, u "LOG2_ARRAY_LONG_INDEX_SCALE"), (0, u "I"), (2, u "U"), (0, u "Ljdk/internal/misc/Unsafe;"), (8, u "BIG_ENDIAN"), (0, u "Z"), (8, u "LOG2_BYTE_BIT_SIZE"), (4, u "LOG2_ARRAY_INT_INDEX_SCALE"), (54, u "JLA"), (0, u "Ljdk/internal/access/JavaLangAccess;"), (11, u "LOG2_ARRAY_BOOLEAN_INDEX_SCALE"), (9, u "LOG2_ARRAY_BYTE_INDEX_SCALE"), (5, u "LOG2_ARRAY_CHAR_INDEX_SCALE"), (5, u "LOG2_ARRAY_SHORT_INDEX_SCALE"), (18, u "LOG2_ARRAY_FLOAT_INDEX_SCALE"), (24, u "LOG2_ARRAY_DOUBLE_INDEX_SCALE"), (89, u "T_BOOLEAN"), (2, u "T_CHAR"), (1, u "T_FLOAT"), (1, u "T_DOUBLE"), (1, u "T_BYTE"), (1, u "T_SHORT"), (1, u "T_INT"), (1, u "T_LONG"), (1, u "SOFT_MAX_ARRAY_LENGTH")] 83

def k15m0 : Method := { name := "<init>", desc := "()V", sig := { parameters := [], returnType := none }, accessFlags := 2, code := none }
/-- jdk/internal/util/ArraysSupport -/
def k15 : Class := { plain "jdk/internal/util/ArraysSupport" (some 0) with
  accessFlags := 33
  interfaces := #[]
  cf := some (fileOf pool15 21 #[] #[{ accessFlags := 2, nameIndex := 9, descriptorIndex := 19, attributes := #[] }] 33 16 #[] #[{ accessFlags := 24, nameIndex := 28, descriptorIndex := 29, attributes := #[] }, { accessFlags := 26, nameIndex := 38, descriptorIndex := 39, attributes := #[] }, { accessFlags := 25, nameIndex := 121, descriptorIndex := 25, attributes := #[] }, { accessFlags := 25, nameIndex := 131, descriptorIndex := 25, attributes := #[] }, { accessFlags := 25, nameIndex := 137, descriptorIndex := 25, attributes := #[] }, { accessFlags := 25, nameIndex := 143, descriptorIndex := 25, attributes := #[] }, { accessFlags := 25, nameIndex := 53, descriptorIndex := 25, attributes := #[] }, { accessFlags := 25, nameIndex := 24, descriptorIndex := 25, attributes := #[] }, { accessFlags := 25, nameIndex := 162, descriptorIndex := 25, attributes := #[] }, { accessFlags := 25, nameIndex := 187, descriptorIndex := 25, attributes := #[] }, { accessFlags := 26, nameIndex := 48, descriptorIndex := 25, attributes := #[] }, { accessFlags := 25, nameIndex := 277, descriptorIndex := 25, attributes := #[] }, { accessFlags := 25, nameIndex := 280, descriptorIndex := 25, attributes := #[] }, { accessFlags := 25, nameIndex := 282, descriptorIndex := 25, attributes := #[] }, { accessFlags := 25, nameIndex := 284, descriptorIndex := 25, attributes := #[] }, { accessFlags := 25, nameIndex := 286, descriptorIndex := 25, attributes := #[] }, { accessFlags := 25, nameIndex := 288, descriptorIndex := 25, attributes := #[] }, { accessFlags := 25, nameIndex := 290, descriptorIndex := 25, attributes := #[] }, { accessFlags := 25, nameIndex := 292, descriptorIndex := 25, attributes := #[] }, { accessFlags := 26, nameIndex := 108, descriptorIndex := 109, attributes := #[] }, { accessFlags := 25, nameIndex := 294, descriptorIndex := 25, attributes := #[] }])
  fields := #[{ name := "U", type := (.object "jdk/internal/misc/Unsafe"), accessFlags := 24, slot := 0, constantValue := 0 }, { name := "BIG_ENDIAN", type := .boolean, accessFlags := 26, slot := 1, constantValue := 0 }, { name := "LOG2_ARRAY_BOOLEAN_INDEX_SCALE", type := .int, accessFlags := 25, slot := 2, constantValue := 0 }, { name := "LOG2_ARRAY_BYTE_INDEX_SCALE", type := .int, accessFlags := 25, slot := 3, constantValue := 0 }, { name := "LOG2_ARRAY_CHAR_INDEX_SCALE", type := .int, accessFlags := 25, slot := 4, constantValue := 0 }, { name := "LOG2_ARRAY_SHORT_INDEX_SCALE", type := .int, accessFlags := 25, slot := 5, constantValue := 0 }, { name := "LOG2_ARRAY_INT_INDEX_SCALE", type := .int, accessFlags := 25, slot := 6, constantValue := 0 }, { name := "LOG2_ARRAY_LONG_INDEX_SCALE", type := .int, accessFlags := 25, slot := 7, constantValue := 0 }, { name := "LOG2_ARRAY_FLOAT_INDEX_SCALE", type := .int, accessFlags := 25, slot := 8, constantValue := 0 }, { name := "LOG2_ARRAY_DOUBLE_INDEX_SCALE", type := .int, accessFlags := 25, slot := 9, constantValue := 0 }, { name := "LOG2_BYTE_BIT_SIZE", type := .int, accessFlags := 26, slot := 10, constantValue := 0 }, { name := "T_BOOLEAN", type := .int, accessFlags := 25, slot := 11, constantValue := 0 }, { name := "T_CHAR", type := .int, accessFlags := 25, slot := 12, constantValue := 0 }, { name := "T_FLOAT", type := .int, accessFlags := 25, slot := 13, constantValue := 0 }, { name := "T_DOUBLE", type := .int, accessFlags := 25, slot := 14, constantValue := 0 }, { name := "T_BYTE", type := .int, accessFlags := 25, slot := 15, constantValue := 0 }, { name := "T_SHORT", type := .int, accessFlags := 25, slot := 16, constantValue := 0 }, { name := "T_INT", type := .int, accessFlags := 25, slot := 17, constantValue := 0 }, { name := "T_LONG", type := .int, accessFlags := 25, slot := 18, constantValue := 0 }, { name := "JLA", type := (.object "jdk/internal/access/JavaLangAccess"), accessFlags := 26, slot := 19, constantValue := 0 }, { name := "SOFT_MAX_ARRAY_LENGTH", type := .int, accessFlags := 25, slot := 20, constantValue := 0 }]
  methods := #[k15m0]
  instanceTypes := #[]
  staticTypes := #[(.object "jdk/internal/misc/Unsafe"), .boolean, .int, .int, .int, .int, .int, .int, .int, .int, .int, .int, .int, .int, .int, .int, .int, .int, .int, (.object "jdk/internal/access/JavaLangAccess"), .int]
  resolved := Array.replicate 378 none
  statics := none }

def pool16 : Array CpInfo := pool [(1, u "java/lang/Cloneable"), (0, .class_ 1), (0, u "java/lang/Object"), (0, .class_ 3)] 3

/-- java/lang/Cloneable -/
def k16 : Class := { plain "java/lang/Cloneable" (some 0) with
  accessFlags := 1537
  interfaces := #[]
  cf := some (fileOf pool16 2 #[] #[] 1537 4 #[] #[])
  fields := #[]
  methods := #[]
  instanceTypes := #[]
  staticTypes := #[]
  resolved := Array.replicate 8 none
  statics := none }

/-- the primitive byte -/
def k17 : Class := { plain "byte" none with kind := .primitive 'B', accessFlags := 0x411 }
/-- [B -/
def k18 : Class := { plain "[B" (some 0) with kind := .array 17 .byte, interfaces := #[16, 2], accessFlags := 1041 }

/-- the primitive char -/
def k19 : Class := { plain "char" none with kind := .primitive 'C', accessFlags := 0x411 }
/-- [C -/
def k20 : Class := { plain "[C" (some 0) with kind := .array 19 .char, interfaces := #[16, 2], accessFlags := 1041 }

/-- the primitive int -/
def k21 : Class := { plain "int" none with kind := .primitive 'I', accessFlags := 0x411 }
/-- [I -/
def k22 : Class := { plain "[I" (some 0) with kind := .array 21 .int, interfaces := #[16, 2], accessFlags := 1041 }

def heap : Heap := #[{ cls := 7, slots := #[.long 0, .int 1, .null, .int 0, .null, .int 0, .int 0], vm := .statics 7 },
  { cls := 12, slots := #[.ref 3, .ref 4, .null], vm := .statics 12 },
  { cls := 14, slots := #[.null, .null, .null], vm := .statics 14 },
  { cls := 12, slots := #[.null, .int 0, .int 0], vm := .none },
  { cls := 12, slots := #[.null, .int 1, .int 0], vm := .none }]
def classes : Array Class := #[k0, k1, k2, k3, k4, k5, k6, k7, k8, k9, k10, k11, k12, k13, k14, k15, k16, k17, k18, k19, k20, k21, k22]
def interned : List (Array UInt16 × Addr) := []
def slotsUsed : Nat := 19
def theMethod : MethodId := ⟨1, 2⟩
def args0 : Array Value := #[.int 5, .int 3, .int 9]
def aboutOver (below : List Frame) : State where
  vm := { classes := classes, interned := interned.toArray }
  heap := heap
  slotsUsed := slotsUsed
  threads := #[{ frames := .invoking theMethod args0 :: below }]
def below0 : List Frame := [.native { method := ⟨0, 0⟩, args := #[] }]
def about1 : State := aboutOver below0
def p0 : Program := .bare "" "" ""
def e0 : Env := launch0.env 0 0 0
theorem w_frames : about1.frames = Frame.invoking theMethod args0 :: below0 := rfl
set_option maxRecDepth 65536 in
theorem w_args : argsFit about1.vm theMethod args0 = true := by decide +kernel
set_option maxRecDepth 65536 in
theorem w_heap : heapFits about1 = true := by decide +kernel
set_option maxRecDepth 65536 in
theorem w_runnable : about1.curStatus? = some .runnable := by decide +kernel
set_option maxRecDepth 65536 in
theorem w_alone : about1.alone = true := by decide +kernel
set_option maxRecDepth 65536 in
theorem w_named : about1.methodNamed? x = some theMethod := by decide +kernel
set_option maxRecDepth 65536 in
theorem w_hears : about1.hears theMethod below0 = true := by decide +kernel
set_option maxRecDepth 65536 in
theorem w_ripe : about1.ripe theMethod args0 below0 = true := by decide +kernel
theorem w_running : about1.status = .running := rfl
set_option maxRecDepth 65536 in
theorem w_room : about1.hasRoom e0.platform room_1 = true :=
  launch0.hasRoom_least _ room_1 (by decide +kernel) (by decide +kernel) (by decide +kernel) (by decide +kernel) (by decide +kernel) (by decide +kernel)
theorem allAtoms_all (ts : List Jvm.Cond) (a : Array Jvm.Value) (st : Jvm.State) : (allAtoms ts).before a st = ts.all (fun c => c.before a st) := by
  induction ts with
  | nil => rfl
  | cons c t ih =>
    show (Jvm.Cond.and c (allAtoms t)).before a st = _
    rw [Jvm.Cond.before_and, ih, List.all_cons]
def words1 : List Jvm.Cond := Jvm.Cond.code x code maxLocals ret :: tables_1
/-- a 'code' word, met by the world's own term for the bytes: nothing is compared byte by byte -/
theorem code_word {y : MethodName} {bytes : ByteArray} {mx : Nat} {rt : Option FieldType} {a : Array Value} {s : State} {m : MethodId} {meth : Method} {c : Code} (h1 : s.methodNamed? y = some m) (h2 : s.vm.method? m = some meth) (h3 : meth.code = some c) (h4 : c.code = bytes)
    (h5 : (c.maxLocals == mx && c.exceptionTable.isEmpty && decide (c.maxStack ≤ mostOperands) && decide (meth.sig.returnType = rt) && !meth.locks && decide (parseMethodDescriptor y.desc = some meth.sig)) = true) : (Jvm.Cond.code y bytes mx rt).before a s = true := by
  simp only [Bool.and_eq_true, beq_iff_eq, Bool.not_eq_true', decide_eq_true_eq] at h5
  obtain ⟨⟨⟨⟨⟨g1, g2⟩, g3⟩, g4⟩, g5⟩, g6⟩ := h5
  simp [Cond.before, Cond.holds, Cond.value, h1, h2, h3, h4, g1, g2, g3, g4, g5, g6]
def isCode : Jvm.Cond → Bool
  | .code _ _ _ _ => true
  | _ => false
theorem all_split {L : List Jvm.Cond} {P : Jvm.Cond → Bool} (h1 : L.all (fun c => isCode c || P c) = true) (h2 : ∀ c ∈ L.filter isCode, P c = true) : L.all P = true := by
  refine List.all_eq_true.mpr fun c hc => ?_
  have h := List.all_eq_true.mp h1 c hc
  rcases Bool.eq_false_or_eq_true (isCode c) with hi | hi
  · exact h2 c (List.mem_filter.mpr ⟨hc, hi⟩)
  · simpa [hi] using h
set_option maxRecDepth 65536 in
theorem w_c0 : (Jvm.Cond.code x code maxLocals ret).before args0 about1 = true := code_word (m := ⟨1, 2⟩) (meth := k1m2) (c := k1c2) (by decide +kernel) rfl rfl rfl (by decide +kernel)
set_option maxRecDepth 65536 in
theorem w_c1 : (Jvm.Cond.code ({ cls := "com/example/graftwork/graftwork/VerdictIgnoredPinLaw", name := "text", desc := "(IZ)Ljava/lang/String;" } : Jvm.MethodName) method_2_code (4 : Nat) (Option.some (Jvm.ClassFile.FieldType.object "java/lang/String"))).before args0 about1 = true := code_word (m := ⟨1, 1⟩) (meth := k1m1) (c := k1c1) (by decide +kernel) rfl rfl rfl (by decide +kernel)
set_option maxRecDepth 65536 in
theorem w_c2 : (Jvm.Cond.code ({ cls := "java/lang/String", name := "<init>", desc := "([C)V" } : Jvm.MethodName) jdk_42_method_3_code (2 : Nat) (Option.none : Option Jvm.ClassFile.FieldType)).before args0 about1 = true := code_word (m := ⟨7, 1⟩) (meth := k7m1) (c := k7c1) (by decide +kernel) rfl rfl rfl (by decide +kernel)
set_option maxRecDepth 65536 in
theorem w_c3 : (Jvm.Cond.code ({ cls := "java/lang/String", name := "<init>", desc := "([CIILjava/lang/Void;)V" } : Jvm.MethodName) jdk_42_method_149_code (6 : Nat) (Option.none : Option Jvm.ClassFile.FieldType)).before args0 about1 = true := code_word (m := ⟨7, 3⟩) (meth := k7m3) (c := k7c3) (by decide +kernel) rfl rfl rfl (by decide +kernel)
set_option maxRecDepth 65536 in
theorem w_c4 : (Jvm.Cond.code ({ cls := "java/lang/Object", name := "<init>", desc := "()V" } : Jvm.MethodName) object_method_1_code (1 : Nat) (Option.none : Option Jvm.ClassFile.FieldType)).before args0 about1 = true := code_word (m := ⟨0, 0⟩) (meth := k0m0) (c := k0c0) (by decide +kernel) rfl rfl rfl (by decide +kernel)
set_option maxRecDepth 65536 in
theorem w_c5 : (Jvm.Cond.code ({ cls := "java/lang/StringUTF16", name := "compress", desc := "([CII)[B" } : Jvm.MethodName) jdk_52_method_16_code (6 : Nat) (Option.some (Jvm.ClassFile.FieldType.array Jvm.ClassFile.FieldType.byte))).before args0 about1 = true := code_word (m := ⟨8, 2⟩) (meth := k8m2) (c := k8c2) (by decide +kernel) rfl rfl rfl (by decide +kernel)
set_option maxRecDepth 65536 in
theorem w_c6 : (Jvm.Cond.code ({ cls := "java/lang/StringUTF16", name := "compress", desc := "([CI[BII)I" } : Jvm.MethodName) jdk_52_method_21_code (7 : Nat) (Option.some Jvm.ClassFile.FieldType.int)).before args0 about1 = true := code_word (m := ⟨8, 3⟩) (meth := k8m3) (c := k8c3) (by decide +kernel) rfl rfl rfl (by decide +kernel)
set_option maxRecDepth 65536 in
theorem w_c7 : (Jvm.Cond.code ({ cls := "java/lang/StringUTF16", name := "coderFromArrayLen", desc := "([BI)B" } : Jvm.MethodName) jdk_52_method_15_code (2 : Nat) (Option.some Jvm.ClassFile.FieldType.byte)).before args0 about1 = true := code_word (m := ⟨8, 1⟩) (meth := k8m1) (c := k8c1) (by decide +kernel) rfl rfl rfl (by decide +kernel)
set_option maxRecDepth 65536 in
theorem w_c8 : (Jvm.Cond.code ({ cls := "com/example/graftwork/graftwork/Resolution$Verdict", name := "ignored", desc := "(Ljava/lang/String;Ljava/lang/String;)Lcom/example/graftwork/graftwork/Resolution$Verdict;" } : Jvm.MethodName) prog_48_method_4_code (2 : Nat) (Option.some (Jvm.ClassFile.FieldType.object "com/example/graftwork/graftwork/Resolution$Verdict"))).before args0 about1 = true := code_word (m := ⟨10, 1⟩) (meth := k10m1) (c := k10c1) (by decide +kernel) rfl rfl rfl (by decide +kernel)
set_option maxRecDepth 65536 in
theorem w_c9 : (Jvm.Cond.code ({ cls := "com/example/graftwork/graftwork/Resolution$Verdict", name := "<init>", desc := "(Lcom/example/graftwork/graftwork/Resolution$Verdict$Kind;Ljava/lang/String;Ljava/lang/String;)V" } : Jvm.MethodName) prog_48_method_1_code (4 : Nat) (Option.none : Option Jvm.ClassFile.FieldType)).before args0 about1 = true := code_word (m := ⟨10, 0⟩) (meth := k10m0) (c := k10c0) (by decide +kernel) rfl rfl rfl (by decide +kernel)
set_option maxRecDepth 65536 in
theorem w_c10 : (Jvm.Cond.code ({ cls := "java/lang/Record", name := "<init>", desc := "()V" } : Jvm.MethodName) jdk_30_method_1_code (1 : Nat) (Option.none : Option Jvm.ClassFile.FieldType)).before args0 about1 = true := code_word (m := ⟨9, 0⟩) (meth := k9m0) (c := k9c0) (by decide +kernel) rfl rfl rfl (by decide +kernel)
set_option maxRecDepth 65536 in
theorem w_c11 : (Jvm.Cond.code ({ cls := "com/example/graftwork/graftwork/Resolution$Verdict", name := "kind", desc := "()Lcom/example/graftwork/graftwork/Resolution$Verdict$Kind;" } : Jvm.MethodName) prog_48_method_9_code (1 : Nat) (Option.some (Jvm.ClassFile.FieldType.object "com/example/graftwork/graftwork/Resolution$Verdict$Kind"))).before args0 about1 = true := code_word (m := ⟨10, 2⟩) (meth := k10m2) (c := k10c2) (by decide +kernel) rfl rfl rfl (by decide +kernel)
set_option maxRecDepth 65536 in
theorem w_c12 : (Jvm.Cond.code ({ cls := "com/example/graftwork/graftwork/Resolution$Verdict", name := "file", desc := "()Ljava/lang/String;" } : Jvm.MethodName) prog_48_method_10_code (1 : Nat) (Option.some (Jvm.ClassFile.FieldType.object "java/lang/String"))).before args0 about1 = true := code_word (m := ⟨10, 3⟩) (meth := k10m3) (c := k10c3) (by decide +kernel) rfl rfl rfl (by decide +kernel)
set_option maxRecDepth 65536 in
theorem w_c13 : (Jvm.Cond.code ({ cls := "java/lang/String", name := "equals", desc := "(Ljava/lang/Object;)Z" } : Jvm.MethodName) jdk_42_method_66_code (3 : Nat) (Option.some Jvm.ClassFile.FieldType.boolean)).before args0 about1 = true := code_word (m := ⟨7, 2⟩) (meth := k7m2) (c := k7c2) (by decide +kernel) rfl rfl rfl (by decide +kernel)
set_option maxRecDepth 65536 in
theorem w_c14 : (Jvm.Cond.code ({ cls := "com/example/graftwork/graftwork/Resolution$Verdict", name := "reason", desc := "()Ljava/lang/String;" } : Jvm.MethodName) prog_48_method_11_code (1 : Nat) (Option.some (Jvm.ClassFile.FieldType.object "java/lang/String"))).before args0 about1 = true := code_word (m := ⟨10, 4⟩) (meth := k10m4) (c := k10c4) (by decide +kernel) rfl rfl rfl (by decide +kernel)
def codes1 : List Jvm.Cond := [Jvm.Cond.code x code maxLocals ret, Jvm.Cond.code ({ cls := "com/example/graftwork/graftwork/VerdictIgnoredPinLaw", name := "text", desc := "(IZ)Ljava/lang/String;" } : Jvm.MethodName) method_2_code (4 : Nat) (Option.some (Jvm.ClassFile.FieldType.object "java/lang/String")), Jvm.Cond.code ({ cls := "java/lang/String", name := "<init>", desc := "([C)V" } : Jvm.MethodName) jdk_42_method_3_code (2 : Nat) (Option.none : Option Jvm.ClassFile.FieldType), Jvm.Cond.code ({ cls := "java/lang/String", name := "<init>", desc := "([CIILjava/lang/Void;)V" } : Jvm.MethodName) jdk_42_method_149_code (6 : Nat) (Option.none : Option Jvm.ClassFile.FieldType), Jvm.Cond.code ({ cls := "java/lang/Object", name := "<init>", desc := "()V" } : Jvm.MethodName) object_method_1_code (1 : Nat) (Option.none : Option Jvm.ClassFile.FieldType), Jvm.Cond.code ({ cls := "java/lang/StringUTF16", name := "compress", desc := "([CII)[B" } : Jvm.MethodName) jdk_52_method_16_code (6 : Nat) (Option.some (Jvm.ClassFile.FieldType.array Jvm.ClassFile.FieldType.byte)), Jvm.Cond.code ({ cls := "java/lang/StringUTF16", name := "compress", desc := "([CI[BII)I" } : Jvm.MethodName) jdk_52_method_21_code (7 : Nat) (Option.some Jvm.ClassFile.FieldType.int), Jvm.Cond.code ({ cls := "java/lang/StringUTF16", name := "coderFromArrayLen", desc := "([BI)B" } : Jvm.MethodName) jdk_52_method_15_code (2 : Nat) (Option.some Jvm.ClassFile.FieldType.byte), Jvm.Cond.code ({ cls := "com/example/graftwork/graftwork/Resolution$Verdict", name := "ignored", desc := "(Ljava/lang/String;Ljava/lang/String;)Lcom/example/graftwork/graftwork/Resolution$Verdict;" } : Jvm.MethodName) prog_48_method_4_code (2 : Nat) (Option.some (Jvm.ClassFile.FieldType.object "com/example/graftwork/graftwork/Resolution$Verdict")), Jvm.Cond.code ({ cls := "com/example/graftwork/graftwork/Resolution$Verdict", name := "<init>", desc := "(Lcom/example/graftwork/graftwork/Resolution$Verdict$Kind;Ljava/lang/String;Ljava/lang/String;)V" } : Jvm.MethodName) prog_48_method_1_code (4 : Nat) (Option.none : Option Jvm.ClassFile.FieldType), Jvm.Cond.code ({ cls := "java/lang/Record", name := "<init>", desc := "()V" } : Jvm.MethodName) jdk_30_method_1_code (1 : Nat) (Option.none : Option Jvm.ClassFile.FieldType), Jvm.Cond.code ({ cls := "com/example/graftwork/graftwork/Resolution$Verdict", name := "kind", desc := "()Lcom/example/graftwork/graftwork/Resolution$Verdict$Kind;" } : Jvm.MethodName) prog_48_method_9_code (1 : Nat) (Option.some (Jvm.ClassFile.FieldType.object "com/example/graftwork/graftwork/Resolution$Verdict$Kind")), Jvm.Cond.code ({ cls := "com/example/graftwork/graftwork/Resolution$Verdict", name := "file", desc := "()Ljava/lang/String;" } : Jvm.MethodName) prog_48_method_10_code (1 : Nat) (Option.some (Jvm.ClassFile.FieldType.object "java/lang/String")), Jvm.Cond.code ({ cls := "java/lang/String", name := "equals", desc := "(Ljava/lang/Object;)Z" } : Jvm.MethodName) jdk_42_method_66_code (3 : Nat) (Option.some Jvm.ClassFile.FieldType.boolean), Jvm.Cond.code ({ cls := "com/example/graftwork/graftwork/Resolution$Verdict", name := "reason", desc := "()Ljava/lang/String;" } : Jvm.MethodName) prog_48_method_11_code (1 : Nat) (Option.some (Jvm.ClassFile.FieldType.object "java/lang/String"))]
set_option maxRecDepth 65536 in
theorem codes_eq : words1.filter isCode = codes1 := rfl
theorem w_codes : ∀ c ∈ words1.filter isCode, c.before args0 about1 = true := by
  rw [codes_eq]
  intro c hc
  simp only [codes1, List.mem_cons, List.not_mem_nil, or_false] at hc
  rcases hc with rfl | rfl | rfl | rfl | rfl | rfl | rfl | rfl | rfl | rfl | rfl | rfl | rfl | rfl | rfl
  · exact w_c0
  · exact w_c1
  · exact w_c2
  · exact w_c3
  · exact w_c4
  · exact w_c5
  · exact w_c6
  · exact w_c7
  · exact w_c8
  · exact w_c9
  · exact w_c10
  · exact w_c11
  · exact w_c12
  · exact w_c13
  · exact w_c14
set_option maxRecDepth 65536 in
theorem w_t1 : (words1.take 24).all (fun c => isCode c || c.before args0 about1) = true := by decide +kernel
set_option maxRecDepth 65536 in
theorem w_t2 : ((words1.drop 24).take 24).all (fun c => isCode c || c.before args0 about1) = true := by decide +kernel
set_option maxRecDepth 65536 in
theorem w_t3 : (((words1.drop 24).drop 24).take 24).all (fun c => isCode c || c.before args0 about1) = true := by decide +kernel
set_option maxRecDepth 65536 in
theorem w_t4 : (((words1.drop 24).drop 24).drop 24).all (fun c => isCode c || c.before args0 about1) = true := by decide +kernel
theorem w_tables : (allAtoms (Jvm.Cond.code x code maxLocals ret :: tables_1)).before args0 about1 = true := by
  rw [allAtoms_all]
  show words1.all (fun c => c.before args0 about1) = true
  refine all_split ?_ w_codes
  rw [← List.take_append_drop 24 words1, List.all_append, w_t1, ← List.take_append_drop 24 (words1.drop 24), List.all_append, w_t2, ← List.take_append_drop 24 ((words1.drop 24).drop 24), List.all_append, w_t3, w_t4]
  rfl
set_option maxRecDepth 65536 in
theorem w_rest : rest_1_c.before args0 about1 = true := by decide +kernel
set_option maxRecDepth 65536 in
theorem w_case : (Jvm.Cond.and given_1 narrow_1).before args0 about1 = true := by decide +kernel
theorem w_applies : (headSpec (Jvm.Cond.code x code maxLocals ret :: tables_1) room_1).applies x e0.platform about1 = true :=
  (Spec.applies_iff w_frames).mpr ⟨w_running, w_runnable, w_alone, w_named, w_hears, w_ripe, w_room, w_tables⟩
theorem atStart : AtStart classFile x code maxLocals ret World_1 tables_1 room_1 Calls_1 rest_1 Pre_1 launch0 p0 e0 about1 theMethod args0 below0 :=
  ⟨lists_1, trivial, launch0.admits_env _ _ _, launch0.least_env, fairChoices_fair.cas, fairChoices_fair.clock, w_frames, w_args, w_heap, w_applies, trivial, w_rest, w_case⟩
end start1
theorem witness_1 : WitnessClaimed_1 := ⟨start1.p0, start1.e0, start1.about1, start1.theMethod, start1.args0, start1.below0, start1.atStart⟩
end Jvm.Pilot.@@N@@
