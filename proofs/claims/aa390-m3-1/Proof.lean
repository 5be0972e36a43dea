import JvmDerived
import JvmDerived.Pilot.@@N@@Statement
import JvmDerived.Pilot.@@N@@Code
set_option linter.unusedVariables false
set_option linter.unusedSimpArgs false
namespace Jvm.Pilot.@@N@@
open Jvm Jvm.ClassFile Sem Op Lib Jvm.Free Jvm.Stand Jvm.LawKit Jvm.RoadKit Bundle Jvm.Pilot.@@N@@.Jvm.D
section OwnKit
variable {p : Program} {l : Launch} {e : Env} {R : Room} {s : State} {m : MethodId} {args : Array Value} {below : List Frame} {meth : Method} {c : Code} {T T' : State} {locs : List Loc} {cells slots : Nat} {P : Outcome → State → Prop} {Q : Option Value → Heap → List Loc → Prop} {cC cS : Nat} {bytes : ByteArray} {ls : Array Slot} {st : List Value} {pc pc' : Nat} {g g' : JFrame} {Z : State} {a0 : Array Value} {h h' : Heap}
/-- from this state and frame the method comes to its end, returns, and Q holds of what it leaves -/
def own_Got (p : Program) (e : Env) (below : List Frame) (P : Outcome → State → Prop) (T : State) (g : JFrame) : Prop :=
  ∃ s₂ o, Steps p.tables e below (T.setTop g) s₂ ∧ s₂.status = .running ∧ Ended s₂ below o ∧ P o s₂
/-- what a contract says of the end -/
def own_End (s : State) (Q : Option Value → Heap → List Loc → Prop) (cC cS : Nat) (o : Outcome) (U : State) : Prop := ∃ v L, o = .returned v ∧ Q v U.heap L ∧ FrameEnd s o U L cC cS
theorem own_go (k : ∀ t, Steps p.tables e below (T'.setTop g') t → Steps p.tables e below (T.setTop g) t) (h : own_Got p e below P T' g') : own_Got p e below P T g := by
  obtain ⟨s2, o, h1, h2⟩ := h; exact ⟨s2, o, k _ h1, h2⟩
theorem own_tr (k : Steps p.tables e below (T.setTop g) (T'.setTop g')) (h : own_Got p e below P T' g') : own_Got p e below P T g := own_go (fun _ q => k.trans q) h
theorem own_cast (q : g = g') (h : own_Got p e below P T g') : own_Got p e below P T g := q ▸ h
theorem own_retV (X : Stand p l e R s m args below meth c T locs cells slots) (hx : p.tables.exec = Jvm.exec) (hby : c.code = bytes) (hlk : meth.locks = false) (hret : meth.sig.returnType = none) (hd : decode bytes pc = .ok (.return_, 1)) (hc : cells ≤ cC) (hs : slots ≤ cS)
    (hq : Q none T.heap locs) : own_Got p e below (own_End s Q cC cS) T (mkF m pc ls []) := by
  obtain ⟨fs, hr, hrun, hended, hW, hsame⟩ := X.leave (v := none) (fun _ => rfl) hlk
  exact ⟨_, _, X.returnOut hx hret (hb hby hd) hr, hrun, hended, _, _, rfl, hq, ⟨_, rfl⟩, hW, hsame.mono hc hs⟩
theorem own_retI (X : Stand p l e R s m args below meth c T locs cells slots) (hx : p.tables.exec = Jvm.exec) (hby : c.code = bytes) (hlk : meth.locks = false) (hret : meth.sig.returnType = some .int) (hd : decode bytes pc = .ok (.ireturn, 1)) (hc : cells ≤ cC) (hs : slots ≤ cS) {z : Int32}
    (hq : Q (some (.int z)) T.heap locs) : own_Got p e below (own_End s Q cC cS) T (mkF m pc ls (.int z :: st)) := by
  obtain ⟨fs, hr, hrun, hended, hW, hsame⟩ := X.leave (v := some (.int z)) (fun h => by rw [hret] at h; cases h) hlk
  exact ⟨_, _, retOut X hx hret rfl (Or.inl ⟨rfl, Or.inl rfl, _, rfl⟩) (hb hby hd) hr, hrun, hended, _, _, rfl, hq, ⟨_, rfl⟩, hW, hsame.mono hc hs⟩
theorem own_retL (X : Stand p l e R s m args below meth c T locs cells slots) (hx : p.tables.exec = Jvm.exec) (hby : c.code = bytes) (hlk : meth.locks = false) (hret : meth.sig.returnType = some .long) (hd : decode bytes pc = .ok (.lreturn, 1)) (hc : cells ≤ cC) (hs : slots ≤ cS) {z : Int64}
    (hq : Q (some (.long z)) T.heap locs) : own_Got p e below (own_End s Q cC cS) T (mkF m pc ls (.long z :: st)) := by
  obtain ⟨fs, hr, hrun, hended, hW, hsame⟩ := X.leave (v := some (.long z)) (fun h => by rw [hret] at h; cases h) hlk
  exact ⟨_, _, retOut X hx hret rfl (Or.inr (Or.inl ⟨rfl, rfl, _, rfl⟩)) (hb hby hd) hr, hrun, hended, _, _, rfl, hq, ⟨_, rfl⟩, hW, hsame.mono hc hs⟩
theorem own_retD (X : Stand p l e R s m args below meth c T locs cells slots) (hx : p.tables.exec = Jvm.exec) (hby : c.code = bytes) (hlk : meth.locks = false) (hret : meth.sig.returnType = some .double) (hd : decode bytes pc = .ok (.dreturn, 1)) (hc : cells ≤ cC) (hs : slots ≤ cS) {z : UInt64}
    (hq : Q (some (.double z)) T.heap locs) : own_Got p e below (own_End s Q cC cS) T (mkF m pc ls (.double z :: st)) := by
  obtain ⟨fs, hr, hrun, hended, hW, hsame⟩ := X.leave (v := some (.double z)) (fun h => by rw [hret] at h; cases h) hlk
  exact ⟨_, _, retOut X hx hret rfl (Or.inr (Or.inr (Or.inl ⟨rfl, rfl, _, rfl⟩))) (hb hby hd) hr, hrun, hended, _, _, rfl, hq, ⟨_, rfl⟩, hW, hsame.mono hc hs⟩
theorem own_retN (X : Stand p l e R s m args below meth c T locs cells slots) (hx : p.tables.exec = Jvm.exec) (hby : c.code = bytes) (hlk : meth.locks = false) {t : FieldType} (hret : meth.sig.returnType = some t) (ht : t = .boolean ∨ t = .byte ∨ t = .char ∨ t = .short) (hd : decode bytes pc = .ok (.ireturn, 1)) (hc : cells ≤ cC) (hs : slots ≤ cS) {z : Int32}
    (hq : Q (some (.int (nar t z))) T.heap locs) : own_Got p e below (own_End s Q cC cS) T (mkF m pc ls (.int z :: st)) := by
  obtain ⟨fs, hr, hrun, hended, hW, hsame⟩ := X.leave (v := some (.int (nar t z))) (fun h => by rw [hret] at h; cases h) hlk
  exact ⟨_, _, retN X hx hret ht (hb hby hd) hr, hrun, hended, _, _, rfl, hq, ⟨_, rfl⟩, hW, hsame.mono hc hs⟩
theorem own_retR (X : Stand p l e R s m args below meth c T locs cells slots) (hx : p.tables.exec = Jvm.exec) (hby : c.code = bytes) (hlk : meth.locks = false) {t : FieldType} (hret : meth.sig.returnType = some t) (ht : t.isReference = true) (hd : decode bytes pc = .ok (.areturn, 1)) (hc : cells ≤ cC) (hs : slots ≤ cS) {w : Value} (hw : w.isRef = true)
    (hq : Q (some w) T.heap locs) : own_Got p e below (own_End s Q cC cS) T (mkF m pc ls (w :: st)) := by
  obtain ⟨fs, hr, hrun, hended, hW, hsame⟩ := X.leave (v := some w) (fun h => by rw [hret] at h; cases h) hlk
  have hn : narrow t w = w := by rcases ref_cases hw with rfl | ⟨a, rfl⟩ <;> cases t <;> first | rfl | (cases ht)
  exact ⟨_, _, retOut X hx hret hn (Or.inr (Or.inr (Or.inr (Or.inr ⟨rfl, ht, hw⟩)))) (hb hby hd) hr, hrun, hended, _, _, rfl, hq, ⟨_, rfl⟩, hW, hsame.mono hc hs⟩
theorem g_iloadN (X : Stand p l e R s m args below meth c T locs cells slots) (hx : p.tables.exec = Jvm.exec) (hby : c.code = bytes) {k : Fin 4} {v : Int32} (hd : decode bytes pc = .ok (.iload_n k, 1)) (hl : ls[k.val]? = some (.val (.int v))) (hp : pc + 1 = pc')
    (k : own_Got p e below P T (mkF m pc' ls (.int v :: st))) : own_Got p e below P T (mkF m pc ls (st)) := by
  subst hp; exact own_go (fun _ q => XS.iloadN X.here hx rfl (hb hby hd) hl q) k
theorem g_iload (X : Stand p l e R s m args below meth c T locs cells slots) (hx : p.tables.exec = Jvm.exec) (hby : c.code = bytes) {k : Nat} {v : Int32} (hd : decode bytes pc = .ok (.iload k, 2)) (hl : ls[k]? = some (.val (.int v))) (hp : pc + 2 = pc')
    (k : own_Got p e below P T (mkF m pc' ls (.int v :: st))) : own_Got p e below P T (mkF m pc ls (st)) := by
  subst hp; exact own_go (fun _ q => XS.iload X.here hx rfl (hb hby hd) hl q) k
theorem g_lloadN (X : Stand p l e R s m args below meth c T locs cells slots) (hx : p.tables.exec = Jvm.exec) (hby : c.code = bytes) {k : Fin 4} {v : Int64} (hd : decode bytes pc = .ok (.lload_n k, 1)) (hl : ls[k.val]? = some (.val (.long v))) (hp : pc + 1 = pc')
    (k : own_Got p e below P T (mkF m pc' ls (.long v :: st))) : own_Got p e below P T (mkF m pc ls (st)) := by
  subst hp; exact own_go (fun _ q => XS.lloadN X.here hx rfl (hb hby hd) hl q) k
theorem g_lload (X : Stand p l e R s m args below meth c T locs cells slots) (hx : p.tables.exec = Jvm.exec) (hby : c.code = bytes) {k : Nat} {v : Int64} (hd : decode bytes pc = .ok (.lload k, 2)) (hl : ls[k]? = some (.val (.long v))) (hp : pc + 2 = pc')
    (k : own_Got p e below P T (mkF m pc' ls (.long v :: st))) : own_Got p e below P T (mkF m pc ls (st)) := by
  subst hp; exact own_go (fun _ q => XS.lload X.here hx rfl (hb hby hd) hl q) k
theorem g_dloadN (X : Stand p l e R s m args below meth c T locs cells slots) (hx : p.tables.exec = Jvm.exec) (hby : c.code = bytes) {k : Fin 4} {v : UInt64} (hd : decode bytes pc = .ok (.dload_n k, 1)) (hl : ls[k.val]? = some (.val (.double v))) (hp : pc + 1 = pc')
    (k : own_Got p e below P T (mkF m pc' ls (.double v :: st))) : own_Got p e below P T (mkF m pc ls (st)) := by
  subst hp; exact own_go (fun _ q => XS.dloadN X.here hx rfl (hb hby hd) hl q) k
theorem g_dload (X : Stand p l e R s m args below meth c T locs cells slots) (hx : p.tables.exec = Jvm.exec) (hby : c.code = bytes) {k : Nat} {v : UInt64} (hd : decode bytes pc = .ok (.dload k, 2)) (hl : ls[k]? = some (.val (.double v))) (hp : pc + 2 = pc')
    (k : own_Got p e below P T (mkF m pc' ls (.double v :: st))) : own_Got p e below P T (mkF m pc ls (st)) := by
  subst hp; exact own_go (fun _ q => XS.dload X.here hx rfl (hb hby hd) hl q) k
theorem g_aloadN (X : Stand p l e R s m args below meth c T locs cells slots) (hx : p.tables.exec = Jvm.exec) (hby : c.code = bytes) {k : Fin 4} {v : Value} (hd : decode bytes pc = .ok (.aload_n k, 1)) (hl : ls[k.val]? = some (.val v)) (hv : v.isRef = true) (hp : pc + 1 = pc')
    (k : own_Got p e below P T (mkF m pc' ls (v :: st))) : own_Got p e below P T (mkF m pc ls (st)) := by
  subst hp; exact own_go (fun _ q => XS.aloadN X.here hx rfl (hb hby hd) hl hv q) k
theorem g_aload (X : Stand p l e R s m args below meth c T locs cells slots) (hx : p.tables.exec = Jvm.exec) (hby : c.code = bytes) {k : Nat} {v : Value} (hd : decode bytes pc = .ok (.aload k, 2)) (hl : ls[k]? = some (.val v)) (hv : v.isRef = true) (hp : pc + 2 = pc')
    (k : own_Got p e below P T (mkF m pc' ls (v :: st))) : own_Got p e below P T (mkF m pc ls (st)) := by
  subst hp; exact own_go (fun _ q => XS.aload X.here hx rfl (hb hby hd) hl hv q) k
theorem g_istoreN (X : Stand p l e R s m args below meth c T locs cells slots) (hx : p.tables.exec = Jvm.exec) (hby : c.code = bytes) {k : Fin 4} {x : Int32} (ls' : Array Slot) (hd : decode bytes pc = .ok (.istore_n k, 1)) (hl : storeLocals ls k.val (.int x) = some ls') (hp : pc + 1 = pc')
    (k : own_Got p e below P T (mkF m pc' ls' (st))) : own_Got p e below P T (mkF m pc ls (.int x :: st)) := by
  subst hp; exact own_go (fun _ q => XS.istoreN X.here hx rfl (hb hby hd) rfl hl q) k
theorem g_istore (X : Stand p l e R s m args below meth c T locs cells slots) (hx : p.tables.exec = Jvm.exec) (hby : c.code = bytes) {k : Nat} {x : Int32} (ls' : Array Slot) (hd : decode bytes pc = .ok (.istore k, 2)) (hl : storeLocals ls k (.int x) = some ls') (hp : pc + 2 = pc')
    (k : own_Got p e below P T (mkF m pc' ls' (st))) : own_Got p e below P T (mkF m pc ls (.int x :: st)) := by
  subst hp; exact own_go (fun _ q => XS.istore X.here hx rfl (hb hby hd) rfl hl q) k
theorem g_lstoreN (X : Stand p l e R s m args below meth c T locs cells slots) (hx : p.tables.exec = Jvm.exec) (hby : c.code = bytes) {k : Fin 4} {x : Int64} (ls' : Array Slot) (hd : decode bytes pc = .ok (.lstore_n k, 1)) (hl : storeLocals ls k.val (.long x) = some ls') (hp : pc + 1 = pc')
    (k : own_Got p e below P T (mkF m pc' ls' (st))) : own_Got p e below P T (mkF m pc ls (.long x :: st)) := by
  subst hp; exact own_go (fun _ q => XS.lstoreN X.here hx rfl (hb hby hd) rfl hl q) k
theorem g_lstore (X : Stand p l e R s m args below meth c T locs cells slots) (hx : p.tables.exec = Jvm.exec) (hby : c.code = bytes) {k : Nat} {x : Int64} (ls' : Array Slot) (hd : decode bytes pc = .ok (.lstore k, 2)) (hl : storeLocals ls k (.long x) = some ls') (hp : pc + 2 = pc')
    (k : own_Got p e below P T (mkF m pc' ls' (st))) : own_Got p e below P T (mkF m pc ls (.long x :: st)) := by
  subst hp; exact own_go (fun _ q => XS.lstore X.here hx rfl (hb hby hd) rfl hl q) k
theorem g_dstoreN (X : Stand p l e R s m args below meth c T locs cells slots) (hx : p.tables.exec = Jvm.exec) (hby : c.code = bytes) {k : Fin 4} {x : UInt64} (ls' : Array Slot) (hd : decode bytes pc = .ok (.dstore_n k, 1)) (hl : storeLocals ls k.val (.double x) = some ls') (hp : pc + 1 = pc')
    (k : own_Got p e below P T (mkF m pc' ls' (st))) : own_Got p e below P T (mkF m pc ls (.double x :: st)) := by
  subst hp; exact own_go (fun _ q => XS.dstoreN X.here hx rfl (hb hby hd) rfl hl q) k
theorem g_dstore (X : Stand p l e R s m args below meth c T locs cells slots) (hx : p.tables.exec = Jvm.exec) (hby : c.code = bytes) {k : Nat} {x : UInt64} (ls' : Array Slot) (hd : decode bytes pc = .ok (.dstore k, 2)) (hl : storeLocals ls k (.double x) = some ls') (hp : pc + 2 = pc')
    (k : own_Got p e below P T (mkF m pc' ls' (st))) : own_Got p e below P T (mkF m pc ls (.double x :: st)) := by
  subst hp; exact own_go (fun _ q => XS.dstore X.here hx rfl (hb hby hd) rfl hl q) k
theorem g_astoreN (X : Stand p l e R s m args below meth c T locs cells slots) (hx : p.tables.exec = Jvm.exec) (hby : c.code = bytes) {k : Fin 4} {x : Value} (ls' : Array Slot) (hd : decode bytes pc = .ok (.astore_n k, 1)) (hv : x.isRef = true) (hl : storeLocals ls k.val x = some ls') (hp : pc + 1 = pc')
    (k : own_Got p e below P T (mkF m pc' ls' (st))) : own_Got p e below P T (mkF m pc ls (x :: st)) := by
  subst hp; exact own_go (fun _ q => XS.astoreN X.here hx rfl (hb hby hd) rfl hv hl q) k
theorem g_astore (X : Stand p l e R s m args below meth c T locs cells slots) (hx : p.tables.exec = Jvm.exec) (hby : c.code = bytes) {k : Nat} {x : Value} (ls' : Array Slot) (hd : decode bytes pc = .ok (.astore k, 2)) (hv : x.isRef = true) (hl : storeLocals ls k x = some ls') (hp : pc + 2 = pc')
    (k : own_Got p e below P T (mkF m pc' ls' (st))) : own_Got p e below P T (mkF m pc ls (x :: st)) := by
  subst hp; exact own_go (fun _ q => XS.astore X.here hx rfl (hb hby hd) rfl hv hl q) k
theorem g_iconst (X : Stand p l e R s m args below meth c T locs cells slots) (hx : p.tables.exec = Jvm.exec) (hby : c.code = bytes) {i : Int} (z : Int32) (hd : decode bytes pc = .ok (.iconst i, 1)) (hz : Int32.ofInt i = z) (hp : pc + 1 = pc')
    (k : own_Got p e below P T (mkF m pc' ls (.int z :: st))) : own_Got p e below P T (mkF m pc ls (st)) := by
  subst hp; subst hz; exact own_go (fun _ q => XS.iconst X.here hx rfl (hb hby hd) q) k
theorem g_bipush (X : Stand p l e R s m args below meth c T locs cells slots) (hx : p.tables.exec = Jvm.exec) (hby : c.code = bytes) {i : Int} (z : Int32) (hd : decode bytes pc = .ok (.bipush i, 2)) (hz : (Int8.ofInt i).toInt32 = z) (hp : pc + 2 = pc')
    (k : own_Got p e below P T (mkF m pc' ls (.int z :: st))) : own_Got p e below P T (mkF m pc ls (st)) := by
  subst hp; subst hz; exact own_go (fun _ q => XS.bipush X.here hx rfl (hb hby hd) q) k
theorem g_sipush (X : Stand p l e R s m args below meth c T locs cells slots) (hx : p.tables.exec = Jvm.exec) (hby : c.code = bytes) {i : Int} (z : Int32) (hd : decode bytes pc = .ok (.sipush i, 3)) (hz : (Int16.ofInt i).toInt32 = z) (hp : pc + 3 = pc')
    (k : own_Got p e below P T (mkF m pc' ls (.int z :: st))) : own_Got p e below P T (mkF m pc ls (st)) := by
  subst hp; subst hz; exact own_go (fun _ q => XS.sipush X.here hx rfl (hb hby hd) q) k
theorem g_lconst (X : Stand p l e R s m args below meth c T locs cells slots) (hx : p.tables.exec = Jvm.exec) (hby : c.code = bytes) {i : Fin 2} (z : Int64) (hd : decode bytes pc = .ok (.lconst i, 1)) (hz : Int64.ofNat i.val = z) (hp : pc + 1 = pc')
    (k : own_Got p e below P T (mkF m pc' ls (.long z :: st))) : own_Got p e below P T (mkF m pc ls (st)) := by
  subst hp; subst hz; exact own_go (fun _ q => XS.lconst X.here hx rfl (hb hby hd) q) k
theorem g_anull (X : Stand p l e R s m args below meth c T locs cells slots) (hx : p.tables.exec = Jvm.exec) (hby : c.code = bytes)  (hd : decode bytes pc = .ok (.aconst_null, 1))  (hp : pc + 1 = pc')
    (k : own_Got p e below P T (mkF m pc' ls (.null :: st))) : own_Got p e below P T (mkF m pc ls (st)) := by
  subst hp; exact own_go (fun _ q => XS.aconstNull X.here hx rfl (hb hby hd) q) k
theorem g_iadd (X : Stand p l e R s m args below meth c T locs cells slots) (hx : p.tables.exec = Jvm.exec) (hby : c.code = bytes) {x y : Int32} (hd : decode bytes pc = .ok (.iadd, 1))  (hp : pc + 1 = pc')
    (k : own_Got p e below P T (mkF m pc' ls (.int (x + y) :: st))) : own_Got p e below P T (mkF m pc ls (.int y :: .int x :: st)) := by
  subst hp; exact own_go (fun _ q => XS.iadd X.here hx rfl (hb hby hd) rfl q) k
theorem g_isub (X : Stand p l e R s m args below meth c T locs cells slots) (hx : p.tables.exec = Jvm.exec) (hby : c.code = bytes) {x y : Int32} (hd : decode bytes pc = .ok (.isub, 1))  (hp : pc + 1 = pc')
    (k : own_Got p e below P T (mkF m pc' ls (.int (x - y) :: st))) : own_Got p e below P T (mkF m pc ls (.int y :: .int x :: st)) := by
  subst hp; exact own_go (fun _ q => XS.isub X.here hx rfl (hb hby hd) rfl q) k
theorem g_iand (X : Stand p l e R s m args below meth c T locs cells slots) (hx : p.tables.exec = Jvm.exec) (hby : c.code = bytes) {x y : Int32} (hd : decode bytes pc = .ok (.iand, 1))  (hp : pc + 1 = pc')
    (k : own_Got p e below P T (mkF m pc' ls (.int (x &&& y) :: st))) : own_Got p e below P T (mkF m pc ls (.int y :: .int x :: st)) := by
  subst hp; exact own_go (fun _ q => XS.iand X.here hx rfl (hb hby hd) rfl q) k
theorem g_ior (X : Stand p l e R s m args below meth c T locs cells slots) (hx : p.tables.exec = Jvm.exec) (hby : c.code = bytes) {x y : Int32} (hd : decode bytes pc = .ok (.ior, 1))  (hp : pc + 1 = pc')
    (k : own_Got p e below P T (mkF m pc' ls (.int (x ||| y) :: st))) : own_Got p e below P T (mkF m pc ls (.int y :: .int x :: st)) := by
  subst hp; exact own_go (fun _ q => XS.ior X.here hx rfl (hb hby hd) rfl q) k
theorem g_ixor (X : Stand p l e R s m args below meth c T locs cells slots) (hx : p.tables.exec = Jvm.exec) (hby : c.code = bytes) {x y : Int32} (hd : decode bytes pc = .ok (.ixor, 1))  (hp : pc + 1 = pc')
    (k : own_Got p e below P T (mkF m pc' ls (.int (x ^^^ y) :: st))) : own_Got p e below P T (mkF m pc ls (.int y :: .int x :: st)) := by
  subst hp; exact own_go (fun _ q => XS.ixor X.here hx rfl (hb hby hd) rfl q) k
theorem g_imul (X : Stand p l e R s m args below meth c T locs cells slots) (hx : p.tables.exec = Jvm.exec) (hby : c.code = bytes) {x y : Int32} (hd : decode bytes pc = .ok (.imul, 1))  (hp : pc + 1 = pc')
    (k : own_Got p e below P T (mkF m pc' ls (.int (x * y) :: st))) : own_Got p e below P T (mkF m pc ls (.int y :: .int x :: st)) := by
  subst hp; exact own_go (fun _ q => XS.imul X.here hx rfl (hb hby hd) rfl q) k
theorem g_ladd (X : Stand p l e R s m args below meth c T locs cells slots) (hx : p.tables.exec = Jvm.exec) (hby : c.code = bytes) {x y : Int64} (hd : decode bytes pc = .ok (.ladd, 1))  (hp : pc + 1 = pc')
    (k : own_Got p e below P T (mkF m pc' ls (.long (x + y) :: st))) : own_Got p e below P T (mkF m pc ls (.long y :: .long x :: st)) := by
  subst hp; exact own_go (fun _ q => XS.ladd X.here hx rfl (hb hby hd) rfl q) k
theorem g_lsub (X : Stand p l e R s m args below meth c T locs cells slots) (hx : p.tables.exec = Jvm.exec) (hby : c.code = bytes) {x y : Int64} (hd : decode bytes pc = .ok (.lsub, 1))  (hp : pc + 1 = pc')
    (k : own_Got p e below P T (mkF m pc' ls (.long (x - y) :: st))) : own_Got p e below P T (mkF m pc ls (.long y :: .long x :: st)) := by
  subst hp; exact own_go (fun _ q => XS.lsub X.here hx rfl (hb hby hd) rfl q) k
theorem g_land (X : Stand p l e R s m args below meth c T locs cells slots) (hx : p.tables.exec = Jvm.exec) (hby : c.code = bytes) {x y : Int64} (hd : decode bytes pc = .ok (.land, 1))  (hp : pc + 1 = pc')
    (k : own_Got p e below P T (mkF m pc' ls (.long (x &&& y) :: st))) : own_Got p e below P T (mkF m pc ls (.long y :: .long x :: st)) := by
  subst hp; exact own_go (fun _ q => XS.land X.here hx rfl (hb hby hd) rfl q) k
theorem g_lor (X : Stand p l e R s m args below meth c T locs cells slots) (hx : p.tables.exec = Jvm.exec) (hby : c.code = bytes) {x y : Int64} (hd : decode bytes pc = .ok (.lor, 1))  (hp : pc + 1 = pc')
    (k : own_Got p e below P T (mkF m pc' ls (.long (x ||| y) :: st))) : own_Got p e below P T (mkF m pc ls (.long y :: .long x :: st)) := by
  subst hp; exact own_go (fun _ q => XS.lor X.here hx rfl (hb hby hd) rfl q) k
theorem g_lxor (X : Stand p l e R s m args below meth c T locs cells slots) (hx : p.tables.exec = Jvm.exec) (hby : c.code = bytes) {x y : Int64} (hd : decode bytes pc = .ok (.lxor, 1))  (hp : pc + 1 = pc')
    (k : own_Got p e below P T (mkF m pc' ls (.long (x ^^^ y) :: st))) : own_Got p e below P T (mkF m pc ls (.long y :: .long x :: st)) := by
  subst hp; exact own_go (fun _ q => XS.lxor X.here hx rfl (hb hby hd) rfl q) k
theorem g_lmul (X : Stand p l e R s m args below meth c T locs cells slots) (hx : p.tables.exec = Jvm.exec) (hby : c.code = bytes) {x y : Int64} (hd : decode bytes pc = .ok (.lmul, 1))  (hp : pc + 1 = pc')
    (k : own_Got p e below P T (mkF m pc' ls (.long (x * y) :: st))) : own_Got p e below P T (mkF m pc ls (.long y :: .long x :: st)) := by
  subst hp; exact own_go (fun _ q => XS.lmul X.here hx rfl (hb hby hd) rfl q) k
theorem g_idiv (X : Stand p l e R s m args below meth c T locs cells slots) (hx : p.tables.exec = Jvm.exec) (hby : c.code = bytes) {x y : Int32} (hd : decode bytes pc = .ok (.idiv, 1)) (hy : y ≠ 0) (hp : pc + 1 = pc')
    (k : own_Got p e below P T (mkF m pc' ls (.int (x / y) :: st))) : own_Got p e below P T (mkF m pc ls (.int y :: .int x :: st)) := by
  subst hp; exact own_go (fun _ q => XS.idiv X.here hx rfl (hb hby hd) rfl hy q) k
theorem g_irem (X : Stand p l e R s m args below meth c T locs cells slots) (hx : p.tables.exec = Jvm.exec) (hby : c.code = bytes) {x y : Int32} (hd : decode bytes pc = .ok (.irem, 1)) (hy : y ≠ 0) (hp : pc + 1 = pc')
    (k : own_Got p e below P T (mkF m pc' ls (.int (x % y) :: st))) : own_Got p e below P T (mkF m pc ls (.int y :: .int x :: st)) := by
  subst hp; exact own_go (fun _ q => iremM X hx rfl (hb hby hd) rfl hy q) k
theorem g_ishl (X : Stand p l e R s m args below meth c T locs cells slots) (hx : p.tables.exec = Jvm.exec) (hby : c.code = bytes) {x y : Int32} (hd : decode bytes pc = .ok (.ishl, 1))  (hp : pc + 1 = pc')
    (k : own_Got p e below P T (mkF m pc' ls (.int (x <<< (y &&& 31)) :: st))) : own_Got p e below P T (mkF m pc ls (.int y :: .int x :: st)) := by
  subst hp; exact own_go (fun _ q => XS.ishl X.here hx rfl (hb hby hd) rfl q) k
theorem g_ishr (X : Stand p l e R s m args below meth c T locs cells slots) (hx : p.tables.exec = Jvm.exec) (hby : c.code = bytes) {x y : Int32} (hd : decode bytes pc = .ok (.ishr, 1))  (hp : pc + 1 = pc')
    (k : own_Got p e below P T (mkF m pc' ls (.int (x >>> (y &&& 31)) :: st))) : own_Got p e below P T (mkF m pc ls (.int y :: .int x :: st)) := by
  subst hp; exact own_go (fun _ q => XS.ishr X.here hx rfl (hb hby hd) rfl q) k
theorem g_iushr (X : Stand p l e R s m args below meth c T locs cells slots) (hx : p.tables.exec = Jvm.exec) (hby : c.code = bytes) {x y : Int32} (hd : decode bytes pc = .ok (.iushr, 1))  (hp : pc + 1 = pc')
    (k : own_Got p e below P T (mkF m pc' ls (.int ((x.toUInt32 >>> (y &&& 31).toUInt32).toInt32) :: st))) : own_Got p e below P T (mkF m pc ls (.int y :: .int x :: st)) := by
  subst hp; exact own_go (fun _ q => XS.iushr X.here hx rfl (hb hby hd) rfl q) k
theorem g_ineg (X : Stand p l e R s m args below meth c T locs cells slots) (hx : p.tables.exec = Jvm.exec) (hby : c.code = bytes) {x : Int32} (hd : decode bytes pc = .ok (.ineg, 1))  (hp : pc + 1 = pc')
    (k : own_Got p e below P T (mkF m pc' ls (.int (-x) :: st))) : own_Got p e below P T (mkF m pc ls (.int x :: st)) := by
  subst hp; exact own_go (fun _ q => XS.ineg X.here hx rfl (hb hby hd) rfl q) k
theorem g_i2b (X : Stand p l e R s m args below meth c T locs cells slots) (hx : p.tables.exec = Jvm.exec) (hby : c.code = bytes) {x : Int32} (hd : decode bytes pc = .ok (.i2b, 1))  (hp : pc + 1 = pc')
    (k : own_Got p e below P T (mkF m pc' ls (.int x.toInt8.toInt32 :: st))) : own_Got p e below P T (mkF m pc ls (.int x :: st)) := by
  subst hp; exact own_go (fun _ q => XS.i2b X.here hx rfl (hb hby hd) rfl q) k
theorem g_i2s (X : Stand p l e R s m args below meth c T locs cells slots) (hx : p.tables.exec = Jvm.exec) (hby : c.code = bytes) {x : Int32} (hd : decode bytes pc = .ok (.i2s, 1))  (hp : pc + 1 = pc')
    (k : own_Got p e below P T (mkF m pc' ls (.int x.toInt16.toInt32 :: st))) : own_Got p e below P T (mkF m pc ls (.int x :: st)) := by
  subst hp; exact own_go (fun _ q => XS.i2s X.here hx rfl (hb hby hd) rfl q) k
theorem g_i2c (X : Stand p l e R s m args below meth c T locs cells slots) (hx : p.tables.exec = Jvm.exec) (hby : c.code = bytes) {x : Int32} (hd : decode bytes pc = .ok (.i2c, 1))  (hp : pc + 1 = pc')
    (k : own_Got p e below P T (mkF m pc' ls (.int x.toUInt32.toUInt16.toUInt32.toInt32 :: st))) : own_Got p e below P T (mkF m pc ls (.int x :: st)) := by
  subst hp; exact own_go (fun _ q => XS.i2c X.here hx rfl (hb hby hd) rfl q) k
theorem g_i2l (X : Stand p l e R s m args below meth c T locs cells slots) (hx : p.tables.exec = Jvm.exec) (hby : c.code = bytes) {x : Int32} (hd : decode bytes pc = .ok (.i2l, 1))  (hp : pc + 1 = pc')
    (k : own_Got p e below P T (mkF m pc' ls (.long x.toInt64 :: st))) : own_Got p e below P T (mkF m pc ls (.int x :: st)) := by
  subst hp; exact own_go (fun _ q => XS.i2l X.here hx rfl (hb hby hd) rfl q) k
theorem g_lcmp (X : Stand p l e R s m args below meth c T locs cells slots) (hx : p.tables.exec = Jvm.exec) (hby : c.code = bytes) {x y : Int64} (hd : decode bytes pc = .ok (.lcmp, 1))  (hp : pc + 1 = pc')
    (k : own_Got p e below P T (mkF m pc' ls (.int (lcmpW x y) :: st))) : own_Got p e below P T (mkF m pc ls (.long y :: .long x :: st)) := by
  subst hp; exact own_go (fun _ q => XS.lcmp X.here hx rfl (hb hby hd) rfl q) k
theorem g_iinc (X : Stand p l e R s m args below meth c T locs cells slots) (hx : p.tables.exec = Jvm.exec) (hby : c.code = bytes) {k : Nat} {cst : Int} {x : Int32} (ls' : Array Slot) (hd : decode bytes pc = .ok (.iinc k cst, 3)) (hl : ls[k]? = some (.val (.int x))) (hl' : storeLocals ls k (.int (x + Int32.ofInt cst)) = some ls') (hp : pc + 3 = pc')
    (k : own_Got p e below P T (mkF m pc' ls' (st))) : own_Got p e below P T (mkF m pc ls (st)) := by
  subst hp; exact own_go (fun _ q => XS.iinc X.here hx rfl (hb hby hd) hl hl' q) k
theorem g_dup (X : Stand p l e R s m args below meth c T locs cells slots) (hx : p.tables.exec = Jvm.exec) (hby : c.code = bytes) {x : Value} (hd : decode bytes pc = .ok (.dup, 1)) (hc : x.category = 1) (hp : pc + 1 = pc')
    (k : own_Got p e below P T (mkF m pc' ls (x :: x :: st))) : own_Got p e below P T (mkF m pc ls (x :: st)) := by
  subst hp; exact own_go (fun _ q => XS.dup X.here hx rfl (hb hby hd) rfl hc q) k
theorem g_dupX1 (X : Stand p l e R s m args below meth c T locs cells slots) (hx : p.tables.exec = Jvm.exec) (hby : c.code = bytes) {x y : Value} (hd : decode bytes pc = .ok (.dup_x1, 1)) (hc : x.category = 1) (hc2 : y.category = 1) (hp : pc + 1 = pc')
    (k : own_Got p e below P T (mkF m pc' ls (x :: y :: x :: st))) : own_Got p e below P T (mkF m pc ls (x :: y :: st)) := by
  subst hp; exact own_go (fun _ q => XS.dupX1 X.here hx rfl (hb hby hd) rfl hc hc2 q) k
theorem g_pop (X : Stand p l e R s m args below meth c T locs cells slots) (hx : p.tables.exec = Jvm.exec) (hby : c.code = bytes) {x : Value} (hd : decode bytes pc = .ok (.pop, 1)) (hc : x.category = 1) (hp : pc + 1 = pc')
    (k : own_Got p e below P T (mkF m pc' ls (st))) : own_Got p e below P T (mkF m pc ls (x :: st)) := by
  subst hp; exact own_go (fun _ q => XS.pop X.here hx rfl (hb hby hd) rfl hc q) k
theorem g_dup2 (X : Stand p l e R s m args below meth c T locs cells slots) (hx : p.tables.exec = Jvm.exec) (hby : c.code = bytes) {x y : Value} (hd : decode bytes pc = .ok (.dup2, 1)) (hc : x.category = 1) (hc2 : y.category = 1) (hp : pc + 1 = pc')
    (k : own_Got p e below P T (mkF m pc' ls (x :: y :: x :: y :: st))) : own_Got p e below P T (mkF m pc ls (x :: y :: st)) := by
  subst hp; exact own_go (fun _ q => XT.dup2 X.here hx rfl (hb hby hd) rfl hc hc2 q) k
theorem g_goto (X : Stand p l e R s m args below meth c T locs cells slots) (hx : p.tables.exec = Jvm.exec) (hby : c.code = bytes) {o : Int} (hd : decode bytes pc = .ok (.goto o, 3))  (ho : 0 ≤ (pc : Int) + o) (hp : ((pc : Int) + o).toNat = pc')
    (k : own_Got p e below P T (mkF m pc' ls (st))) : own_Got p e below P T (mkF m pc ls (st)) := by
  exact own_go (fun _ q => XS.goto X.here hx rfl rfl (hb hby hd) ho hp q) k
theorem g_ifT (X : Stand p l e R s m args below meth c T locs cells slots) (hx : p.tables.exec = Jvm.exec) (hby : c.code = bytes) {cd : ClassFile.Cond} {x : Int32} {o : Int} (hd : decode bytes pc = .ok (.ifCond cd o, 3)) (hc : ifCond.holds cd x = true) (ho : 0 ≤ (pc : Int) + o) (hp : ((pc : Int) + o).toNat = pc')
    (k : own_Got p e below P T (mkF m pc' ls (st))) : own_Got p e below P T (mkF m pc ls (.int x :: st)) := by
  exact own_go (fun _ q => XS.ifYes X.here hx rfl rfl (hb hby hd) rfl hc ho hp q) k
theorem g_icT (X : Stand p l e R s m args below meth c T locs cells slots) (hx : p.tables.exec = Jvm.exec) (hby : c.code = bytes) {cd : ClassFile.Cond} {x y : Int32} {o : Int} (hd : decode bytes pc = .ok (.if_icmp cd o, 3)) (hc : if_icmp.holds cd x y = true) (ho : 0 ≤ (pc : Int) + o) (hp : ((pc : Int) + o).toNat = pc')
    (k : own_Got p e below P T (mkF m pc' ls (st))) : own_Got p e below P T (mkF m pc ls (.int y :: .int x :: st)) := by
  exact own_go (fun _ q => XS.icmpYes X.here hx rfl rfl (hb hby hd) rfl hc ho hp q) k
theorem g_inT (X : Stand p l e R s m args below meth c T locs cells slots) (hx : p.tables.exec = Jvm.exec) (hby : c.code = bytes) {o : Int} (hd : decode bytes pc = .ok (.ifnull o, 3))  (ho : 0 ≤ (pc : Int) + o) (hp : ((pc : Int) + o).toNat = pc')
    (k : own_Got p e below P T (mkF m pc' ls (st))) : own_Got p e below P T (mkF m pc ls (.null :: st)) := by
  exact own_go (fun _ q => XS.ifnullYes X.here hx rfl rfl (hb hby hd) rfl ho hp q) k
theorem g_innT (X : Stand p l e R s m args below meth c T locs cells slots) (hx : p.tables.exec = Jvm.exec) (hby : c.code = bytes) {b : Addr} {o : Int} (hd : decode bytes pc = .ok (.ifnonnull o, 3))  (ho : 0 ≤ (pc : Int) + o) (hp : ((pc : Int) + o).toNat = pc')
    (k : own_Got p e below P T (mkF m pc' ls (st))) : own_Got p e below P T (mkF m pc ls (.ref b :: st)) := by
  exact own_go (fun _ q => XS.ifnonnullYes X.here hx rfl rfl (hb hby hd) rfl ho hp q) k
theorem g_ifF (X : Stand p l e R s m args below meth c T locs cells slots) (hx : p.tables.exec = Jvm.exec) (hby : c.code = bytes) {cd : ClassFile.Cond} {o : Int} {x : Int32} (hd : decode bytes pc = .ok (.ifCond cd o, 3)) (hc : ifCond.holds cd x = false) (hp : pc + 3 = pc')
    (k : own_Got p e below P T (mkF m pc' ls (st))) : own_Got p e below P T (mkF m pc ls (.int x :: st)) := by
  subst hp; exact own_go (fun _ q => XS.ifNo X.here hx rfl (hb hby hd) rfl hc q) k
theorem g_icF (X : Stand p l e R s m args below meth c T locs cells slots) (hx : p.tables.exec = Jvm.exec) (hby : c.code = bytes) {cd : ClassFile.Cond} {o : Int} {x y : Int32} (hd : decode bytes pc = .ok (.if_icmp cd o, 3)) (hc : if_icmp.holds cd x y = false) (hp : pc + 3 = pc')
    (k : own_Got p e below P T (mkF m pc' ls (st))) : own_Got p e below P T (mkF m pc ls (.int y :: .int x :: st)) := by
  subst hp; exact own_go (fun _ q => XS.icmpNo X.here hx rfl (hb hby hd) rfl hc q) k
theorem g_inF (X : Stand p l e R s m args below meth c T locs cells slots) (hx : p.tables.exec = Jvm.exec) (hby : c.code = bytes) {o : Int} {b : Addr} (hd : decode bytes pc = .ok (.ifnull o, 3))  (hp : pc + 3 = pc')
    (k : own_Got p e below P T (mkF m pc' ls (st))) : own_Got p e below P T (mkF m pc ls (.ref b :: st)) := by
  subst hp; exact own_go (fun _ q => XS.ifnullNo X.here hx rfl (hb hby hd) rfl q) k
theorem g_innF (X : Stand p l e R s m args below meth c T locs cells slots) (hx : p.tables.exec = Jvm.exec) (hby : c.code = bytes) {o : Int} (hd : decode bytes pc = .ok (.ifnonnull o, 3))  (hp : pc + 3 = pc')
    (k : own_Got p e below P T (mkF m pc' ls (st))) : own_Got p e below P T (mkF m pc ls (.null :: st)) := by
  subst hp; exact own_go (fun _ q => XS.ifnonnullNo X.here hx rfl (hb hby hd) rfl q) k
theorem g_acmp (X : Stand p l e R s m args below meth c T locs cells slots) (hx : p.tables.exec = Jvm.exec) (hby : c.code = bytes) {cd : ACond} {x y : Value} {o : Int} (same : Bool) (hd : decode bytes pc = .ok (.if_acmp cd o, 3)) (h1 : x.isRef = true) (h2 : y.isRef = true) (hq : decide (x = y) = same) (ho : 0 ≤ (pc : Int) + o) (hp : pc' = if acV cd same = true then ((pc : Int) + o).toNat else pc + 3)
    (k : own_Got p e below P T (mkF m pc' ls st)) : own_Got p e below P T (mkF m pc ls (y :: x :: st)) :=
  own_go (fun _ q => Jvm.RoadKit.acmp X hx rfl h1 h2 rfl (hb hby hd) rfl hq ho hp q) k
theorem g_ldcI (X : Stand p l e R s m args below meth c T locs cells slots) (hx : p.tables.exec = Jvm.exec) (hby : c.code = bytes) (hZ : Z.Warmed39 s.vm) {own : String} {index : Nat} {v : Int32} (hown : s.vm.findClass own = some m.cls) (w : (Cond.constant own index v).before a0 Z = true) (hd : decode bytes pc = .ok (.ldc index, 2)) (hp : pc + 2 = pc')
    (k : own_Got p e below P T (mkF m pc' ls (.int v :: st))) : own_Got p e below P T (mkF m pc ls st) := by
  subst hp; exact own_go (X.ldcInt hx hown (mvT hZ w) rfl (hb hby hd)) k
theorem g_ldc2D (X : Stand p l e R s m args below meth c T locs cells slots) (hx : p.tables.exec = Jvm.exec) (hby : c.code = bytes) (hZ : Z.Warmed39 s.vm) {own : String} {index : Nat} {v : UInt64} (hown : s.vm.findClass own = some m.cls) (w : (Cond.constantDouble own index v).before a0 Z = true) (hd : decode bytes pc = .ok (.ldc2_w index, 3)) (hp : pc + 3 = pc')
    (k : own_Got p e below P T (mkF m pc' ls (.double v :: st))) : own_Got p e below P T (mkF m pc ls st) := by
  subst hp; exact own_go (X.ldc2DoubleC hx hown (mvT hZ w) rfl (hb hby hd)) k
theorem g_alen (X : Stand p l e R s m args below meth c T locs cells slots) (hx : p.tables.exec = Jvm.exec) (hby : c.code = bytes) (hZ : Z.Warmed39 s.vm) (eT : T.heap = h) {a : Addr} {kk : ClassId} {ty : FieldType} {n : Int32} {vs : List Value} {d : Value} (F : Arv Z h a kk ty n vs d) (hd : decode bytes pc = .ok (.arraylength, 1)) (hp : pc + 1 = pc')
    (k : own_Got p e below P T (mkF m pc' ls (.int n :: st))) : own_Got p e below P T (mkF m pc ls (.ref a :: st)) := by
  subst hp
  obtain ⟨cl, Ar, -, S, N, -, -⟩ := F
  refine own_go (fun t q => X.arraylength hx (by rw [eT]; exact Ar.1) (State.isArrayOf_alike hZ.alike Ar.2.1) (g := mkF m pc ls (.ref a :: st)) rfl rfl (hb hby hd) t q) ?_
  rw [len_of S N]; exact k
theorem g_iaload (X : Stand p l e R s m args below meth c T locs cells slots) (hx : p.tables.exec = Jvm.exec) (hby : c.code = bytes) (hZ : Z.Warmed39 s.vm) (eT : T.heap = h) {a : Addr} {kk : ClassId} {n : Int32} {vs : List Value} {d v : Value} {j : Int32} (F : Arv Z h a kk .int n vs d) (hj : ¬ j < 0 ∧ j < n) (hv : vs.getD j.toNatClampNeg d = v) (hd : decode bytes pc = .ok (.iaload, 1)) (hp : pc + 1 = pc')
    (k : own_Got p e below P T (mkF m pc' ls (v :: st))) : own_Got p e below P T (mkF m pc ls (.int j :: .ref a :: st)) := by
  subst hp
  obtain ⟨cl, Ar, -, S, N, H, -⟩ := F
  exact own_go (fun t q => X.iaload hx (by rw [eT]; exact Ar.1) (State.isArrayOf_alike hZ.alike Ar.2.1) Ar.2.2 (inb_of S hj) (H.at (inb_of S hj) hv) (g := mkF m pc ls (.int j :: .ref a :: st)) rfl rfl (hb hby hd) t q) k
theorem g_caload (X : Stand p l e R s m args below meth c T locs cells slots) (hx : p.tables.exec = Jvm.exec) (hby : c.code = bytes) (hZ : Z.Warmed39 s.vm) (eT : T.heap = h) {a : Addr} {kk : ClassId} {n : Int32} {vs : List Value} {d v : Value} {j : Int32} (F : Arv Z h a kk .char n vs d) (hj : ¬ j < 0 ∧ j < n) (hv : vs.getD j.toNatClampNeg d = v) (hd : decode bytes pc = .ok (.caload, 1)) (hp : pc + 1 = pc')
    (k : own_Got p e below P T (mkF m pc' ls (v :: st))) : own_Got p e below P T (mkF m pc ls (.int j :: .ref a :: st)) := by
  subst hp
  obtain ⟨cl, Ar, -, S, N, H, -⟩ := F
  exact own_go (fun t q => X.caload hx (by rw [eT]; exact Ar.1) (State.isArrayOf_alike hZ.alike Ar.2.1) Ar.2.2 (inb_of S hj) (H.at (inb_of S hj) hv) (g := mkF m pc ls (.int j :: .ref a :: st)) rfl rfl (hb hby hd) t q) k
theorem g_laload (X : Stand p l e R s m args below meth c T locs cells slots) (hx : p.tables.exec = Jvm.exec) (hby : c.code = bytes) (hZ : Z.Warmed39 s.vm) (eT : T.heap = h) {a : Addr} {kk : ClassId} {n : Int32} {vs : List Value} {d v : Value} {j : Int32} (F : Arv Z h a kk .long n vs d) (hj : ¬ j < 0 ∧ j < n) (hv : vs.getD j.toNatClampNeg d = v) (hd : decode bytes pc = .ok (.laload, 1)) (hp : pc + 1 = pc')
    (k : own_Got p e below P T (mkF m pc' ls (v :: st))) : own_Got p e below P T (mkF m pc ls (.int j :: .ref a :: st)) := by
  subst hp
  obtain ⟨cl, Ar, -, S, N, H, -⟩ := F
  exact own_go (fun t q => X.laload hx (by rw [eT]; exact Ar.1) (State.isArrayOf_alike hZ.alike Ar.2.1) Ar.2.2 (inb_of S hj) (H.at (inb_of S hj) hv) (g := mkF m pc ls (.int j :: .ref a :: st)) rfl rfl (hb hby hd) t q) k
theorem g_baload (X : Stand p l e R s m args below meth c T locs cells slots) (hx : p.tables.exec = Jvm.exec) (hby : c.code = bytes) (hZ : Z.Warmed39 s.vm) (eT : T.heap = h) {a : Addr} {kk : ClassId} {n : Int32} {vs : List Value} {d v : Value} {j : Int32} (F : Arv Z h a kk .byte n vs d) (hj : ¬ j < 0 ∧ j < n) (hv : vs.getD j.toNatClampNeg d = v) (hd : decode bytes pc = .ok (.baload, 1)) (hp : pc + 1 = pc')
    (k : own_Got p e below P T (mkF m pc' ls (v :: st))) : own_Got p e below P T (mkF m pc ls (.int j :: .ref a :: st)) := by
  subst hp
  obtain ⟨cl, Ar, -, S, N, H, -⟩ := F
  exact own_go (fun t q => X.baloadBytes hx (by rw [eT]; exact Ar.1) (State.isArrayOf_alike hZ.alike Ar.2.1) Ar.2.2 (inb_of S hj) (H.at (inb_of S hj) hv) (g := mkF m pc ls (.int j :: .ref a :: st)) rfl rfl (hb hby hd) t q) k
theorem g_daload (X : Stand p l e R s m args below meth c T locs cells slots) (hx : p.tables.exec = Jvm.exec) (hby : c.code = bytes) (hZ : Z.Warmed39 s.vm) (eT : T.heap = h) {a : Addr} {kk : ClassId} {n : Int32} {vs : List Value} {d v : Value} {j : Int32} (F : Arv Z h a kk .double n vs d) (hj : ¬ j < 0 ∧ j < n) (hv : vs.getD j.toNatClampNeg d = v) (hd : decode bytes pc = .ok (.daload, 1)) (hp : pc + 1 = pc')
    (k : own_Got p e below P T (mkF m pc' ls (v :: st))) : own_Got p e below P T (mkF m pc ls (.int j :: .ref a :: st)) := by
  subst hp
  obtain ⟨cl, Ar, -, S, N, H, -⟩ := F
  exact own_go (fun t q => X.daload hx (by rw [eT]; exact Ar.1) (State.isArrayOf_alike hZ.alike Ar.2.1) Ar.2.2 (inb_of S hj) (H.at (inb_of S hj) hv) (g := mkF m pc ls (.int j :: .ref a :: st)) rfl rfl (hb hby hd) t q) k
theorem g_aaload (X : Stand p l e R s m args below meth c T locs cells slots) (hx : p.tables.exec = Jvm.exec) (hby : c.code = bytes) (hZ : Z.Warmed39 s.vm) (eT : T.heap = h) {a : Addr} {kk : ClassId} {ty : FieldType} {n : Int32} {vs : List Value} {d v : Value} {j : Int32} (F : Arv Z h a kk ty n vs d) (ht : ty.isReference = true) (hj : ¬ j < 0 ∧ j < n) (hv : vs.getD j.toNatClampNeg d = v) (hd : decode bytes pc = .ok (.aaload, 1)) (hp : pc + 1 = pc')
    (k : own_Got p e below P T (mkF m pc' ls (v :: st))) : own_Got p e below P T (mkF m pc ls (.int j :: .ref a :: st)) := by
  subst hp
  obtain ⟨cl, Ar, -, S, N, H, -⟩ := F
  exact own_go (fun t q => X.aaload hx (by rw [eT]; exact Ar.1) (State.isArrayOf_alike hZ.alike Ar.2.1) ht Ar.2.2 (inb_of S hj) (H.at (inb_of S hj) hv) (g := mkF m pc ls (.int j :: .ref a :: st)) rfl rfl (hb hby hd) t q) k
theorem a_iastore (X : Stand p l e R s m args below meth c T locs cells slots) (hx : p.tables.exec = Jvm.exec) (hby : c.code = bytes) (hZ : Z.Warmed39 s.vm) (eT : T.heap = h) {a : Addr} {kk : ClassId} {n : Int32} {vs : List Value} {d : Value} {j : Int32} (x : Int32) (i : Nat) (F : Arv Z h a kk .int n vs d) (hj : ¬ j < 0 ∧ j < n) (hi : j.toNatClampNeg = i) (hl : i < vs.length) (hd : decode bytes pc = .ok (.iastore, 1)) :
    ∃ T' h', Stand p l e R s m args below meth c T' (locs ++ [⟨a, j.toNatClampNeg⟩]) cells slots ∧ T'.heap = h' ∧ Wr h h' a j.toNatClampNeg (.int x) ∧ Arv Z h' a kk .int n (vs.set i (.int x)) d ∧ ∀ t, Steps p.tables e below (T'.setTop (mkF m (pc + 1) ls st)) t → Steps p.tables e below (T.setTop (mkF m pc ls (.int x :: .int j :: .ref a :: st))) t := by
  obtain ⟨cl, Ar, q1, S, N, H, Gf⟩ := F
  obtain ⟨T', h', X', e', W, k⟩ := stI X hx hZ eT Ar (j := j) (inb_of S hj) (g := mkF m pc ls (.int x :: .int j :: .ref a :: st)) rfl rfl (hb hby hd)
  exact ⟨T', h', X', e', W, Arv.set Ar q1 S N H Gf (rfl) W i hi hl, k⟩
theorem a_castore (X : Stand p l e R s m args below meth c T locs cells slots) (hx : p.tables.exec = Jvm.exec) (hby : c.code = bytes) (hZ : Z.Warmed39 s.vm) (eT : T.heap = h) {a : Addr} {kk : ClassId} {n : Int32} {vs : List Value} {d : Value} {j : Int32} (x : Int32) (i : Nat) (F : Arv Z h a kk .char n vs d) (hj : ¬ j < 0 ∧ j < n) (hi : j.toNatClampNeg = i) (hl : i < vs.length) (hd : decode bytes pc = .ok (.castore, 1)) :
    ∃ T' h', Stand p l e R s m args below meth c T' (locs ++ [⟨a, j.toNatClampNeg⟩]) cells slots ∧ T'.heap = h' ∧ Wr h h' a j.toNatClampNeg (.int (nar .char x)) ∧ Arv Z h' a kk .char n (vs.set i (.int (nar .char x))) d ∧ ∀ t, Steps p.tables e below (T'.setTop (mkF m (pc + 1) ls st)) t → Steps p.tables e below (T.setTop (mkF m pc ls (.int x :: .int j :: .ref a :: st))) t := by
  obtain ⟨cl, Ar, q1, S, N, H, Gf⟩ := F
  obtain ⟨T', h', X', e', W, k⟩ := stC X hx hZ eT Ar (j := j) (inb_of S hj) (g := mkF m pc ls (.int x :: .int j :: .ref a :: st)) rfl rfl (hb hby hd)
  exact ⟨T', h', X', e', W, Arv.set Ar q1 S N H Gf (fits_nar_char _) W i hi hl, k⟩
theorem a_bastore (X : Stand p l e R s m args below meth c T locs cells slots) (hx : p.tables.exec = Jvm.exec) (hby : c.code = bytes) (hZ : Z.Warmed39 s.vm) (eT : T.heap = h) {a : Addr} {kk : ClassId} {n : Int32} {vs : List Value} {d : Value} {j : Int32} (x : Int32) (i : Nat) (F : Arv Z h a kk .byte n vs d) (hj : ¬ j < 0 ∧ j < n) (hi : j.toNatClampNeg = i) (hl : i < vs.length) (hd : decode bytes pc = .ok (.bastore, 1)) :
    ∃ T' h', Stand p l e R s m args below meth c T' (locs ++ [⟨a, j.toNatClampNeg⟩]) cells slots ∧ T'.heap = h' ∧ Wr h h' a j.toNatClampNeg (.int (nar .byte x)) ∧ Arv Z h' a kk .byte n (vs.set i (.int (nar .byte x))) d ∧ ∀ t, Steps p.tables e below (T'.setTop (mkF m (pc + 1) ls st)) t → Steps p.tables e below (T.setTop (mkF m pc ls (.int x :: .int j :: .ref a :: st))) t := by
  obtain ⟨cl, Ar, q1, S, N, H, Gf⟩ := F
  obtain ⟨T', h', X', e', W, k⟩ := stB X hx hZ eT Ar (j := j) (inb_of S hj) (g := mkF m pc ls (.int x :: .int j :: .ref a :: st)) rfl rfl (hb hby hd)
  exact ⟨T', h', X', e', W, Arv.set Ar q1 S N H Gf (fits_nar_byte _) W i hi hl, k⟩
theorem a_lastore (X : Stand p l e R s m args below meth c T locs cells slots) (hx : p.tables.exec = Jvm.exec) (hby : c.code = bytes) (hZ : Z.Warmed39 s.vm) (eT : T.heap = h) {a : Addr} {kk : ClassId} {n : Int32} {vs : List Value} {d : Value} {j : Int32} (x : Int64) (i : Nat) (F : Arv Z h a kk .long n vs d) (hj : ¬ j < 0 ∧ j < n) (hi : j.toNatClampNeg = i) (hl : i < vs.length) (hd : decode bytes pc = .ok (.lastore, 1)) :
    ∃ T' h', Stand p l e R s m args below meth c T' (locs ++ [⟨a, j.toNatClampNeg⟩]) cells slots ∧ T'.heap = h' ∧ Wr h h' a j.toNatClampNeg (.long x) ∧ Arv Z h' a kk .long n (vs.set i (.long x)) d ∧ ∀ t, Steps p.tables e below (T'.setTop (mkF m (pc + 1) ls st)) t → Steps p.tables e below (T.setTop (mkF m pc ls (.long x :: .int j :: .ref a :: st))) t := by
  obtain ⟨cl, Ar, q1, S, N, H, Gf⟩ := F
  obtain ⟨T', h', X', e', W, k⟩ := stJ X hx hZ eT Ar (j := j) (inb_of S hj) (g := mkF m pc ls (.long x :: .int j :: .ref a :: st)) rfl rfl (hb hby hd)
  exact ⟨T', h', X', e', W, Arv.set Ar q1 S N H Gf (rfl) W i hi hl, k⟩
theorem a_dastore (X : Stand p l e R s m args below meth c T locs cells slots) (hx : p.tables.exec = Jvm.exec) (hby : c.code = bytes) (hZ : Z.Warmed39 s.vm) (eT : T.heap = h) {a : Addr} {kk : ClassId} {n : Int32} {vs : List Value} {d : Value} {j : Int32} (x : UInt64) (i : Nat) (F : Arv Z h a kk .double n vs d) (hj : ¬ j < 0 ∧ j < n) (hi : j.toNatClampNeg = i) (hl : i < vs.length) (hd : decode bytes pc = .ok (.dastore, 1)) :
    ∃ T' h', Stand p l e R s m args below meth c T' (locs ++ [⟨a, j.toNatClampNeg⟩]) cells slots ∧ T'.heap = h' ∧ Wr h h' a j.toNatClampNeg (.double x) ∧ Arv Z h' a kk .double n (vs.set i (.double x)) d ∧ ∀ t, Steps p.tables e below (T'.setTop (mkF m (pc + 1) ls st)) t → Steps p.tables e below (T.setTop (mkF m pc ls (.double x :: .int j :: .ref a :: st))) t := by
  obtain ⟨cl, Ar, q1, S, N, H, Gf⟩ := F
  obtain ⟨T', h', X', e', W, k⟩ := stD X hx hZ eT Ar (j := j) (inb_of S hj) (g := mkF m pc ls (.double x :: .int j :: .ref a :: st)) rfl rfl (hb hby hd)
  exact ⟨T', h', X', e', W, Arv.set Ar q1 S N H Gf (rfl) W i hi hl, k⟩
theorem a_aastore (X : Stand p l e R s m args below meth c T locs cells slots) (hx : p.tables.exec = Jvm.exec) (hby : c.code = bytes) (hZ : Z.Warmed39 s.vm) (eT : T.heap = h) {a b : Addr} {kk : ClassId} {Cn : String} {n : Int32} {vs : List Value} {d : Value} {j : Int32} (i : Nat) (F : Arv Z h a kk (.object Cn) n vs d) (O : Ovr Z kk Cn) (I : Ins Z h b Cn true) (hj : ¬ j < 0 ∧ j < n) (hi : j.toNatClampNeg = i) (hl : i < vs.length) (hd : decode bytes pc = .ok (.aastore, 1)) :
    ∃ T' h', Stand p l e R s m args below meth c T' (locs ++ [⟨a, j.toNatClampNeg⟩]) cells slots ∧ T'.heap = h' ∧ Wr h h' a j.toNatClampNeg (.ref b) ∧ Arv Z h' a kk (.object Cn) n (vs.set i (.ref b)) d ∧ ∀ t, Steps p.tables e below (T'.setTop (mkF m (pc + 1) ls st)) t → Steps p.tables e below (T.setTop (mkF m pc ls (.ref b :: .int j :: .ref a :: st))) t := by
  obtain ⟨cl, Ar, q1, S, N, H, Gf⟩ := F
  obtain ⟨T', h', X', e', W, k⟩ := stR X hx hZ eT Ar (j := j) (inb_of S hj) rfl (Sto.ofV Ar q1 O I) (g := mkF m pc ls (.ref b :: .int j :: .ref a :: st)) rfl rfl (hb hby hd)
  exact ⟨T', h', X', e', W, Arv.set Ar q1 S N H Gf rfl W i hi hl, k⟩
theorem own_stakeep {C n d : String} {v : Value} {K : String} {a : Addr} (F : Sta Z h C n d v) (k : Keep h h' [a]) (E : Exa Z h a K) : Sta Z h' C n d v := by
  obtain ⟨cf, i, kk, f, st, cell, h1, h2, h3, h4, h5, h6, h7⟩ := F
  refine ⟨cf, i, kk, f, st, cell, h1, h2, h3, h4, k.2.1 _ _ h5 (fun q => ?_), h6, h7⟩
  obtain ⟨c2, k2, g1, -, -, g4, -⟩ := E
  cases List.mem_singleton.mp q
  cases h5.symm.trans g1
  rw [g4] at h6; cases h6
theorem own_stakeep0 {C n d : String} {v : Value} (F : Sta Z h C n d v) (k : Keep h h' []) : Sta Z h' C n d v := by
  obtain ⟨cf, i, kk, f, st, cell, h1, h2, h3, h4, h5, h6, h7⟩ := F
  exact ⟨cf, i, kk, f, st, cell, h1, h2, h3, h4, k.2.1 _ _ h5 nin0, h6, h7⟩
theorem own_eqI {t : Term} {first : State} {o : Option Outcome} {idx : List Nat} {z : Int32} (hq : (Cond.eq t (.int z)).value args first o s idx = some true) : t.eval args first o idx s = some (.int z) := by
  obtain ⟨x, y, hx, hy, kk, -⟩ := cmp_v (Or.inl hq)
  have hy' : y = .int z := Option.some.inj (hy.symm.trans rfl)
  subst hy'
  cases x with
  | int x => simp only [Cond.value, hx, hy] at hq; simp at hq; rw [hx, hq]
  | _ => simp [Kin, Value.isRef] at kk
theorem own_eqR {t u : Term} {first : State} {o : Option Outcome} {idx : List Nat} {b : Addr} (hq : (Cond.eq t u).value args first o s idx = some true) (hu : u.eval args first o idx s = some (.ref b)) : t.eval args first o idx s = some (.ref b) := by
  obtain ⟨x, y, hx, hy, kk, kk2⟩ := cmp_v (Or.inl hq)
  cases hu.symm.trans hy
  have hr : x.isRef = true := kk2.2
  have := gotT (eq_R hx hu hr rfl) hq
  rw [hx, this]
theorem g_i2d (X : Stand p l e R s m args below meth c T locs cells slots) (hx : p.tables.exec = Jvm.exec) (hby : c.code = bytes) {x : Int32} (hd : decode bytes pc = .ok (.i2d, 1))  (hp : pc + 1 = pc')
    (k : own_Got p e below P T (mkF m pc' ls (.double (FP.i2d x) :: st))) : own_Got p e below P T (mkF m pc ls (.int x :: st)) := by
  subst hp; exact own_go (fun _ q => XS.i2dS X.here hx rfl (hb hby hd) rfl rfl q) k
theorem g_dcmp (X : Stand p l e R s m args below meth c T locs cells slots) (hx : p.tables.exec = Jvm.exec) (hby : c.code = bytes) {o : CmpOp} {x y : UInt64} (hd : decode bytes pc = .ok (.dcmp o, 1))  (hp : pc + 1 = pc')
    (k : own_Got p e below P T (mkF m pc' ls (.int (cmpValue (FP.dcmp x y) o) :: st))) : own_Got p e below P T (mkF m pc ls (.double y :: .double x :: st)) := by
  subst hp; exact own_go (fun _ q => XS.dcmpS X.here hx rfl (hb hby hd) rfl rfl q) k
theorem g_dconst0 (X : Stand p l e R s m args below meth c T locs cells slots) (hx : p.tables.exec = Jvm.exec) (hby : c.code = bytes) (z : UInt64) (hd : decode bytes pc = .ok (.dconst 0, 1)) (hz : FP.dconst0 = z) (hp : pc + 1 = pc')
    (k : own_Got p e below P T (mkF m pc' ls (.double z :: st))) : own_Got p e below P T (mkF m pc ls (st)) := by
  subst hp; exact own_go (fun _ q => XS.dconst0 X.here hx rfl (hb hby hd) hz q) k
theorem g_dadd (X : Stand p l e R s m args below meth c T locs cells slots) (hx : p.tables.exec = Jvm.exec) (hby : c.code = bytes) {x y : UInt64} (hd : decode bytes pc = .ok (.dadd, 1)) (hn : Jvm.Free.Fl.NoNaN64 (FP.dadd x y)) (hp : pc + 1 = pc')
    (k : own_Got p e below P T (mkF m pc' ls (.double (FP.dadd x y) :: st))) : own_Got p e below P T (mkF m pc ls (.double y :: .double x :: st)) := by
  subst hp; exact own_go (fun _ q => XS.daddS X.here hx rfl (hb hby hd) rfl hn rfl q) k
theorem g_dsub (X : Stand p l e R s m args below meth c T locs cells slots) (hx : p.tables.exec = Jvm.exec) (hby : c.code = bytes) {x y : UInt64} (hd : decode bytes pc = .ok (.dsub, 1)) (hn : Jvm.Free.Fl.NoNaN64 (FP.dsub x y)) (hp : pc + 1 = pc')
    (k : own_Got p e below P T (mkF m pc' ls (.double (FP.dsub x y) :: st))) : own_Got p e below P T (mkF m pc ls (.double y :: .double x :: st)) := by
  subst hp; exact own_go (fun _ q => XS.dsubS X.here hx rfl (hb hby hd) rfl hn rfl q) k
theorem g_dmul (X : Stand p l e R s m args below meth c T locs cells slots) (hx : p.tables.exec = Jvm.exec) (hby : c.code = bytes) {x y : UInt64} (hd : decode bytes pc = .ok (.dmul, 1)) (hn : Jvm.Free.Fl.NoNaN64 (FP.dmul x y)) (hp : pc + 1 = pc')
    (k : own_Got p e below P T (mkF m pc' ls (.double (FP.dmul x y) :: st))) : own_Got p e below P T (mkF m pc ls (.double y :: .double x :: st)) := by
  subst hp; exact own_go (fun _ q => XS.dmulS X.here hx rfl (hb hby hd) rfl hn rfl q) k
theorem g_ddiv (X : Stand p l e R s m args below meth c T locs cells slots) (hx : p.tables.exec = Jvm.exec) (hby : c.code = bytes) {x y : UInt64} (hd : decode bytes pc = .ok (.ddiv, 1)) (hn : Jvm.Free.Fl.NoNaN64 (FP.ddiv x y)) (hp : pc + 1 = pc')
    (k : own_Got p e below P T (mkF m pc' ls (.double (FP.ddiv x y) :: st))) : own_Got p e below P T (mkF m pc ls (.double y :: .double x :: st)) := by
  subst hp; exact own_go (fun _ q => XS.ddivS X.here hx rfl (hb hby hd) rfl hn rfl q) k
theorem own_narR {t : FieldType} {w : Value} (ht : t.isReference = true) (hw : w.isRef = true) : narrow t w = w := by rcases ref_cases hw with rfl | ⟨a, rfl⟩ <;> cases t <;> first | rfl | (cases ht)
theorem own_fitR {t : FieldType} {w : Value} (ht : t.isReference = true) (hw : w.isRef = true) : fits t w = true := by rcases ref_cases hw with rfl | ⟨a, rfl⟩ <;> cases t <;> first | rfl | (cases ht)
theorem own_nb (x : Int32) : nar .byte (x.toInt8.toInt32) = x.toInt8.toInt32 := by
  show (x.toInt8.toInt32).toInt8.toInt32 = x.toInt8.toInt32
  simp
theorem own_nc (x : Int32) : nar .char (x.toUInt32.toUInt16.toUInt32.toInt32) = x.toUInt32.toUInt16.toUInt32.toInt32 := by
  show (x.toUInt32.toUInt16.toUInt32.toInt32).toUInt32.toUInt16.toUInt32.toInt32 = _
  have q : ∀ u : UInt16, u.toUInt32.toInt32.toUInt32.toUInt16 = u := fun u => by simp
  rw [q]
end OwnKit
theorem d_roC_0 : decode prog_29_method_5_code 0 = .ok (.aload_n 0, 1) := by decide +kernel
theorem d_roC_1 : decode prog_29_method_5_code 1 = .ok (.getfield 64, 3) := by decide +kernel
theorem d_roC_4 : decode prog_29_method_5_code 4 = .ok (.ifnull 9, 3) := by decide +kernel
theorem d_roC_7 : decode prog_29_method_5_code 7 = .ok (.getstatic 68, 3) := by decide +kernel
theorem d_roC_10 : decode prog_29_method_5_code 10 = .ok (.goto 19, 3) := by decide +kernel
theorem d_roC_29 : decode prog_29_method_5_code 29 = .ok (.areturn, 1) := by decide +kernel
theorem pn0 : plainName "com/example/coppice/coppice/log/Entry$Kind" = true := by first | (simp [plainName, overriddenIn]; done) | decide +kernel
theorem ef_roC (m : MethodId) (a0 : Addr) : entryFrame m #[(.ref a0)] 1 = mkF m 0 #[.val (.ref a0)] [] := by first | (simp [entryFrame, mkF, argsToLocals, Value.category]; done) | rfl
def Q_roC (Z : State) (a0 : Addr) (u : Addr) (wR : Addr) (h0 : Heap) (n0 : Nat) (v : Option Value) (h : Heap) (L : List Loc) : Prop := v = some (.ref wR) ∧ Fr n0 L ∧ h = h0
set_option maxRecDepth 65536 in
set_option maxHeartbeats 40000000 in
theorem rm_roC (l : Launch) (Z : State) (aT : Array Value) (hw : ∀ d ∈ tables_1, d.before aT Z = true) (ws : List Jvm.Cond) (a0 : Addr) (u : Addr) (wR : Addr) (h0 : Heap) (n0 : Nat) (Z0 : n0 ≤ h0.size) (hp0 : Fld Z h0 a0 "com/example/coppice/coppice/log/Entry$Kind" "_creates" "Lcom/example/coppice/coppice/revision/TreeKind$Layout;" (.ref u)) (hp1 : Sta Z h0 "com/example/coppice/coppice/log/Entry$Role" "CREATION" "Lcom/example/coppice/coppice/log/Entry$Role;" (.ref wR)) :
    MetFree l (⟨"com/example/coppice/coppice/log/Entry$Kind", "role", "()Lcom/example/coppice/coppice/log/Entry$Role;"⟩ : MethodName) (head1 (Jvm.Cond.code (⟨"com/example/coppice/coppice/log/Entry$Kind", "role", "()Lcom/example/coppice/coppice/log/Entry$Role;"⟩ : MethodName) prog_29_method_5_code 1 (some (.object "com/example/coppice/coppice/log/Entry$Role")) :: ws) ({ frames := 0, cells := 0, slots := 0, locals := 0 } : Room)) (fun a U => a = #[(.ref a0)] ∧ Z.Warmed39 U.vm ∧ U.heap = h0) (fun _ _ _ _ _ => True) (fun _ U o U' => ∃ v L, o = .returned v ∧ Q_roC Z a0 u wR h0 n0 v U'.heap L ∧ FrameEnd U o U' L ({ frames := 0, cells := 0, slots := 0, locals := 0 } : Room).cells ({ frames := 0, cells := 0, slots := 0, locals := 0 } : Room).slots) := by
  refine MetFree.of_bodySF (plainFor_of_name pn0) hisR ?_
  intro p e s m args below meth c s₁ Bd hml0 hP hK
  obtain ⟨rfl, hZ, hh⟩ := hP
  have hx := Bd.exec
  have hby := Bd.bytes
  have hml : c.maxLocals = 1 := hml0
  have hown : s.vm.findClass "com/example/coppice/coppice/log/Entry$Kind" = some m.cls := findClass_of_methodNamed Bd.named
  have hnm := (name_of_methodNamed Bd.named Bd.method).1
  have hlk := Bd.notSynchronized
  have hrt := Bd.returns
  have X0 : Stand p l e ({ frames := 0, cells := 0, slots := 0, locals := 0 } : Room) s m #[(.ref a0)] below meth c s₁ [] 0 0 := Stand.of_body Bd
  have e0 : s₁.heap = h0 := by rw [← hh, Bd.state]; rfl
  have N0 := Fr.nil n0
  refine own_cast (P := own_End s (Q_roC Z a0 u wR h0 n0) ({ frames := 0, cells := 0, slots := 0, locals := 0 } : Room).cells ({ frames := 0, cells := 0, slots := 0, locals := 0 } : Room).slots) (ef_roC m a0) ?_
  refine g_aloadN X0 hx hby d_roC_0 rfl rfl (rfl : 0 + 1 = 1) ?_
  obtain ⟨T1, X1, e1, st1⟩ := getF X0 hx hZ hown (host := "") (Or.inl (hw _ (List.mem_of_getElem? (i := 35) rfl))) Via.refl e0 hp0 (g := (mkF m 1 #[.val (.ref a0)] [(.ref a0)])) rfl rfl (hb hby d_roC_1)
  refine own_go st1 ?_
  show own_Got p e below _ T1 (mkF m 4 #[.val (.ref a0)] [(.ref u)])
  refine g_inF X1 hx hby d_roC_4 (rfl : 4 + 3 = 7) ?_
  obtain ⟨T2, X2, e2, st2⟩ := getS2 X1 hx hZ hown (host := "") (Or.inl (hw _ (List.mem_of_getElem? (i := 39) rfl))) Via.refl e1 hp1 (g := (mkF m 7 #[.val (.ref a0)] [])) rfl (hb hby d_roC_7)
  refine own_go st2 ?_
  show own_Got p e below _ T2 (mkF m 10 #[.val (.ref a0)] [(.ref wR)])
  refine g_goto X2 hx hby d_roC_10 (by decide) (pc' := 29) (by decide) ?_
  refine own_retR X2 hx hby hlk hrt rfl d_roC_29 (by decide) (by decide) rfl ?_
  show Q_roC Z a0 u wR h0 n0 _ T2.heap _
  exact ⟨rfl, N0, e2⟩
theorem d_roO_0 : decode prog_29_method_5_code 0 = .ok (.aload_n 0, 1) := by decide +kernel
theorem d_roO_1 : decode prog_29_method_5_code 1 = .ok (.getfield 64, 3) := by decide +kernel
theorem d_roO_4 : decode prog_29_method_5_code 4 = .ok (.ifnull 9, 3) := by decide +kernel
theorem d_roO_13 : decode prog_29_method_5_code 13 = .ok (.aload_n 0, 1) := by decide +kernel
theorem d_roO_14 : decode prog_29_method_5_code 14 = .ok (.getfield 60, 3) := by decide +kernel
theorem d_roO_17 : decode prog_29_method_5_code 17 = .ok (.ifnull 9, 3) := by decide +kernel
theorem d_roO_20 : decode prog_29_method_5_code 20 = .ok (.getstatic 74, 3) := by decide +kernel
theorem d_roO_23 : decode prog_29_method_5_code 23 = .ok (.goto 6, 3) := by decide +kernel
theorem d_roO_29 : decode prog_29_method_5_code 29 = .ok (.areturn, 1) := by decide +kernel
theorem ef_roO (m : MethodId) (a0 : Addr) : entryFrame m #[(.ref a0)] 1 = mkF m 0 #[.val (.ref a0)] [] := by first | (simp [entryFrame, mkF, argsToLocals, Value.category]; done) | rfl
def Q_roO (Z : State) (a0 : Addr) (u : Addr) (wR : Addr) (h0 : Heap) (n0 : Nat) (v : Option Value) (h : Heap) (L : List Loc) : Prop := v = some (.ref wR) ∧ Fr n0 L ∧ h = h0
set_option maxRecDepth 65536 in
set_option maxHeartbeats 40000000 in
theorem rm_roO (l : Launch) (Z : State) (aT : Array Value) (hw : ∀ d ∈ tables_1, d.before aT Z = true) (ws : List Jvm.Cond) (a0 : Addr) (u : Addr) (wR : Addr) (h0 : Heap) (n0 : Nat) (Z0 : n0 ≤ h0.size) (hp0 : Fld Z h0 a0 "com/example/coppice/coppice/log/Entry$Kind" "_creates" "Lcom/example/coppice/coppice/revision/TreeKind$Layout;" .null) (hp1 : Fld Z h0 a0 "com/example/coppice/coppice/log/Entry$Kind" "_operation" "Lcom/example/coppice/coppice/tree/Operation$Kind;" (.ref u)) (hp2 : Sta Z h0 "com/example/coppice/coppice/log/Entry$Role" "OPERATION" "Lcom/example/coppice/coppice/log/Entry$Role;" (.ref wR)) :
    MetFree l (⟨"com/example/coppice/coppice/log/Entry$Kind", "role", "()Lcom/example/coppice/coppice/log/Entry$Role;"⟩ : MethodName) (head1 (Jvm.Cond.code (⟨"com/example/coppice/coppice/log/Entry$Kind", "role", "()Lcom/example/coppice/coppice/log/Entry$Role;"⟩ : MethodName) prog_29_method_5_code 1 (some (.object "com/example/coppice/coppice/log/Entry$Role")) :: ws) ({ frames := 0, cells := 0, slots := 0, locals := 0 } : Room)) (fun a U => a = #[(.ref a0)] ∧ Z.Warmed39 U.vm ∧ U.heap = h0) (fun _ _ _ _ _ => True) (fun _ U o U' => ∃ v L, o = .returned v ∧ Q_roO Z a0 u wR h0 n0 v U'.heap L ∧ FrameEnd U o U' L ({ frames := 0, cells := 0, slots := 0, locals := 0 } : Room).cells ({ frames := 0, cells := 0, slots := 0, locals := 0 } : Room).slots) := by
  refine MetFree.of_bodySF (plainFor_of_name pn0) hisR ?_
  intro p e s m args below meth c s₁ Bd hml0 hP hK
  obtain ⟨rfl, hZ, hh⟩ := hP
  have hx := Bd.exec
  have hby := Bd.bytes
  have hml : c.maxLocals = 1 := hml0
  have hown : s.vm.findClass "com/example/coppice/coppice/log/Entry$Kind" = some m.cls := findClass_of_methodNamed Bd.named
  have hnm := (name_of_methodNamed Bd.named Bd.method).1
  have hlk := Bd.notSynchronized
  have hrt := Bd.returns
  have X0 : Stand p l e ({ frames := 0, cells := 0, slots := 0, locals := 0 } : Room) s m #[(.ref a0)] below meth c s₁ [] 0 0 := Stand.of_body Bd
  have e0 : s₁.heap = h0 := by rw [← hh, Bd.state]; rfl
  have N0 := Fr.nil n0
  refine own_cast (P := own_End s (Q_roO Z a0 u wR h0 n0) ({ frames := 0, cells := 0, slots := 0, locals := 0 } : Room).cells ({ frames := 0, cells := 0, slots := 0, locals := 0 } : Room).slots) (ef_roO m a0) ?_
  refine g_aloadN X0 hx hby d_roO_0 rfl rfl (rfl : 0 + 1 = 1) ?_
  obtain ⟨T3, X3, e3, st3⟩ := getF X0 hx hZ hown (host := "") (Or.inl (hw _ (List.mem_of_getElem? (i := 35) rfl))) Via.refl e0 hp0 (g := (mkF m 1 #[.val (.ref a0)] [(.ref a0)])) rfl rfl (hb hby d_roO_1)
  refine own_go st3 ?_
  show own_Got p e below _ T3 (mkF m 4 #[.val (.ref a0)] [.null])
  refine g_inT X3 hx hby d_roO_4 (by decide) (pc' := 13) (by decide) ?_
  refine g_aloadN X3 hx hby d_roO_13 rfl rfl (rfl : 13 + 1 = 14) ?_
  obtain ⟨T4, X4, e4, st4⟩ := getF X3 hx hZ hown (host := "") (Or.inl (hw _ (List.mem_of_getElem? (i := 42) rfl))) Via.refl e3 hp1 (g := (mkF m 14 #[.val (.ref a0)] [(.ref a0)])) rfl rfl (hb hby d_roO_14)
  refine own_go st4 ?_
  show own_Got p e below _ T4 (mkF m 17 #[.val (.ref a0)] [(.ref u)])
  refine g_inF X4 hx hby d_roO_17 (rfl : 17 + 3 = 20) ?_
  obtain ⟨T5, X5, e5, st5⟩ := getS2 X4 hx hZ hown (host := "") (Or.inl (hw _ (List.mem_of_getElem? (i := 46) rfl))) Via.refl e4 hp2 (g := (mkF m 20 #[.val (.ref a0)] [])) rfl (hb hby d_roO_20)
  refine own_go st5 ?_
  show own_Got p e below _ T5 (mkF m 23 #[.val (.ref a0)] [(.ref wR)])
  refine g_goto X5 hx hby d_roO_23 (by decide) (pc' := 29) (by decide) ?_
  refine own_retR X5 hx hby hlk hrt rfl d_roO_29 (by decide) (by decide) rfl ?_
  show Q_roO Z a0 u wR h0 n0 _ T5.heap _
  exact ⟨rfl, N0, e5⟩
theorem d_roP_0 : decode prog_29_method_5_code 0 = .ok (.aload_n 0, 1) := by decide +kernel
theorem d_roP_1 : decode prog_29_method_5_code 1 = .ok (.getfield 64, 3) := by decide +kernel
theorem d_roP_4 : decode prog_29_method_5_code 4 = .ok (.ifnull 9, 3) := by decide +kernel
theorem d_roP_13 : decode prog_29_method_5_code 13 = .ok (.aload_n 0, 1) := by decide +kernel
theorem d_roP_14 : decode prog_29_method_5_code 14 = .ok (.getfield 60, 3) := by decide +kernel
theorem d_roP_17 : decode prog_29_method_5_code 17 = .ok (.ifnull 9, 3) := by decide +kernel
theorem d_roP_26 : decode prog_29_method_5_code 26 = .ok (.getstatic 77, 3) := by decide +kernel
theorem d_roP_29 : decode prog_29_method_5_code 29 = .ok (.areturn, 1) := by decide +kernel
theorem ef_roP (m : MethodId) (a0 : Addr) : entryFrame m #[(.ref a0)] 1 = mkF m 0 #[.val (.ref a0)] [] := by first | (simp [entryFrame, mkF, argsToLocals, Value.category]; done) | rfl
def Q_roP (Z : State) (a0 : Addr) (wR : Addr) (h0 : Heap) (n0 : Nat) (v : Option Value) (h : Heap) (L : List Loc) : Prop := v = some (.ref wR) ∧ Fr n0 L ∧ h = h0
set_option maxRecDepth 65536 in
set_option maxHeartbeats 40000000 in
theorem rm_roP (l : Launch) (Z : State) (aT : Array Value) (hw : ∀ d ∈ tables_1, d.before aT Z = true) (ws : List Jvm.Cond) (a0 : Addr) (wR : Addr) (h0 : Heap) (n0 : Nat) (Z0 : n0 ≤ h0.size) (hp0 : Fld Z h0 a0 "com/example/coppice/coppice/log/Entry$Kind" "_creates" "Lcom/example/coppice/coppice/revision/TreeKind$Layout;" .null) (hp1 : Fld Z h0 a0 "com/example/coppice/coppice/log/Entry$Kind" "_operation" "Lcom/example/coppice/coppice/tree/Operation$Kind;" .null) (hp2 : Sta Z h0 "com/example/coppice/coppice/log/Entry$Role" "COMMIT_POINT" "Lcom/example/coppice/coppice/log/Entry$Role;" (.ref wR)) :
    MetFree l (⟨"com/example/coppice/coppice/log/Entry$Kind", "role", "()Lcom/example/coppice/coppice/log/Entry$Role;"⟩ : MethodName) (head1 (Jvm.Cond.code (⟨"com/example/coppice/coppice/log/Entry$Kind", "role", "()Lcom/example/coppice/coppice/log/Entry$Role;"⟩ : MethodName) prog_29_method_5_code 1 (some (.object "com/example/coppice/coppice/log/Entry$Role")) :: ws) ({ frames := 0, cells := 0, slots := 0, locals := 0 } : Room)) (fun a U => a = #[(.ref a0)] ∧ Z.Warmed39 U.vm ∧ U.heap = h0) (fun _ _ _ _ _ => True) (fun _ U o U' => ∃ v L, o = .returned v ∧ Q_roP Z a0 wR h0 n0 v U'.heap L ∧ FrameEnd U o U' L ({ frames := 0, cells := 0, slots := 0, locals := 0 } : Room).cells ({ frames := 0, cells := 0, slots := 0, locals := 0 } : Room).slots) := by
  refine MetFree.of_bodySF (plainFor_of_name pn0) hisR ?_
  intro p e s m args below meth c s₁ Bd hml0 hP hK
  obtain ⟨rfl, hZ, hh⟩ := hP
  have hx := Bd.exec
  have hby := Bd.bytes
  have hml : c.maxLocals = 1 := hml0
  have hown : s.vm.findClass "com/example/coppice/coppice/log/Entry$Kind" = some m.cls := findClass_of_methodNamed Bd.named
  have hnm := (name_of_methodNamed Bd.named Bd.method).1
  have hlk := Bd.notSynchronized
  have hrt := Bd.returns
  have X0 : Stand p l e ({ frames := 0, cells := 0, slots := 0, locals := 0 } : Room) s m #[(.ref a0)] below meth c s₁ [] 0 0 := Stand.of_body Bd
  have e0 : s₁.heap = h0 := by rw [← hh, Bd.state]; rfl
  have N0 := Fr.nil n0
  refine own_cast (P := own_End s (Q_roP Z a0 wR h0 n0) ({ frames := 0, cells := 0, slots := 0, locals := 0 } : Room).cells ({ frames := 0, cells := 0, slots := 0, locals := 0 } : Room).slots) (ef_roP m a0) ?_
  refine g_aloadN X0 hx hby d_roP_0 rfl rfl (rfl : 0 + 1 = 1) ?_
  obtain ⟨T6, X6, e6, st6⟩ := getF X0 hx hZ hown (host := "") (Or.inl (hw _ (List.mem_of_getElem? (i := 35) rfl))) Via.refl e0 hp0 (g := (mkF m 1 #[.val (.ref a0)] [(.ref a0)])) rfl rfl (hb hby d_roP_1)
  refine own_go st6 ?_
  show own_Got p e below _ T6 (mkF m 4 #[.val (.ref a0)] [.null])
  refine g_inT X6 hx hby d_roP_4 (by decide) (pc' := 13) (by decide) ?_
  refine g_aloadN X6 hx hby d_roP_13 rfl rfl (rfl : 13 + 1 = 14) ?_
  obtain ⟨T7, X7, e7, st7⟩ := getF X6 hx hZ hown (host := "") (Or.inl (hw _ (List.mem_of_getElem? (i := 42) rfl))) Via.refl e6 hp1 (g := (mkF m 14 #[.val (.ref a0)] [(.ref a0)])) rfl rfl (hb hby d_roP_14)
  refine own_go st7 ?_
  show own_Got p e below _ T7 (mkF m 17 #[.val (.ref a0)] [.null])
  refine g_inT X7 hx hby d_roP_17 (by decide) (pc' := 26) (by decide) ?_
  obtain ⟨T8, X8, e8, st8⟩ := getS2 X7 hx hZ hown (host := "") (Or.inl (hw _ (List.mem_of_getElem? (i := 55) rfl))) Via.refl e7 hp2 (g := (mkF m 26 #[.val (.ref a0)] [])) rfl (hb hby d_roP_26)
  refine own_go st8 ?_
  show own_Got p e below _ T8 (mkF m 29 #[.val (.ref a0)] [(.ref wR)])
  refine own_retR X8 hx hby hlk hrt rfl d_roP_29 (by decide) (by decide) rfl ?_
  show Q_roP Z a0 wR h0 n0 _ T8.heap _
  exact ⟨rfl, N0, e8⟩
theorem own_mod11 (x : Int32) : (x &&& (2147483647 : Int32)) % (11 : Int32) = 0 ∨ (x &&& (2147483647 : Int32)) % (11 : Int32) = 1 ∨ (x &&& (2147483647 : Int32)) % (11 : Int32) = 2 ∨ (x &&& (2147483647 : Int32)) % (11 : Int32) = 3 ∨ (x &&& (2147483647 : Int32)) % (11 : Int32) = 4 ∨ (x &&& (2147483647 : Int32)) % (11 : Int32) = 5 ∨ (x &&& (2147483647 : Int32)) % (11 : Int32) = 6 ∨ (x &&& (2147483647 : Int32)) % (11 : Int32) = 7 ∨ (x &&& (2147483647 : Int32)) % (11 : Int32) = 8 ∨ (x &&& (2147483647 : Int32)) % (11 : Int32) = 9 ∨ (x &&& (2147483647 : Int32)) % (11 : Int32) = 10 := by
  have h := (c_and x 2147483647 (by decide)).1
  have h2 := (c_irem (x &&& 2147483647) 11 11 (by decide)).1 h
  generalize (x &&& 2147483647) % 11 = y at h2 ⊢
  have h3 : y.toInt = 0 ∨ y.toInt = 1 ∨ y.toInt = 2 ∨ y.toInt = 3 ∨ y.toInt = 4 ∨ y.toInt = 5 ∨ y.toInt = 6 ∨ y.toInt = 7 ∨ y.toInt = 8 ∨ y.toInt = 9 ∨ y.toInt = 10 := by omega
  simp only [← Int32.toInt_inj]
  exact h3

theorem pn1 : plainName "com/example/coppice/coppice/log/KindRolePinLaw" = true := by first | (simp [plainName, overriddenIn]; done) | decide +kernel
theorem pd0 : parseMethodDescriptor "()Lcom/example/coppice/coppice/log/Entry$Role;" = some ⟨[], some (.object "com/example/coppice/coppice/log/Entry$Role")⟩ := by decide +kernel
theorem ef_law (m : MethodId) (x0 : Int32) : entryFrame m #[(.int x0)] maxLocals = mkF m 0 #[.val (.int x0), .unset, .unset, .unset, .unset] [] := by first | (simp [entryFrame, mkF, argsToLocals, Value.category, maxLocals]; done) | rfl
def Q_law (Z : State) (x0 : Int32) (wCREATE_TREE : Addr) (wAPPEND_CHILD : Addr) (wDELETE_CHILD : Addr) (wPUT_ATTRIBUTE : Addr) (wDELETE_ATTRIBUTE : Addr) (wCOMMIT : Addr) (wPUSH_ROOT : Addr) (wCREATE_APPEND_TREE : Addr) (wCREATE_KEYED_TREE : Addr) (wINSERT_NODE : Addr) (wDELETE_NODE : Addr) (wCREATION : Addr) (wCOMMIT_POINT : Addr) (wOPERATION : Addr) (u_CREATE_TREE_creates : Addr) (u_APPEND_CHILD_operation : Addr) (u_DELETE_CHILD_operation : Addr) (u_PUT_ATTRIBUTE_operation : Addr) (u_DELETE_ATTRIBUTE_operation : Addr) (u_PUSH_ROOT_operation : Addr) (u_CREATE_APPEND_TREE_creates : Addr) (u_CREATE_KEYED_TREE_creates : Addr) (u_INSERT_NODE_operation : Addr) (u_DELETE_NODE_operation : Addr) (h0 : Heap) (n0 : Nat) (v : Option Value) (h : Heap) (L : List Loc) : Prop := v = some (.int (1 : Int32)) ∧ Fr n0 L
set_option maxRecDepth 65536 in
set_option maxHeartbeats 40000000 in
theorem rm_law (l : Launch) (Z : State) (aT : Array Value) (hw : ∀ d ∈ tables_1, d.before aT Z = true) (ws : List Jvm.Cond) (x0 : Int32) (wCREATE_TREE : Addr) (wAPPEND_CHILD : Addr) (wDELETE_CHILD : Addr) (wPUT_ATTRIBUTE : Addr) (wDELETE_ATTRIBUTE : Addr) (wCOMMIT : Addr) (wPUSH_ROOT : Addr) (wCREATE_APPEND_TREE : Addr) (wCREATE_KEYED_TREE : Addr) (wINSERT_NODE : Addr) (wDELETE_NODE : Addr) (wCREATION : Addr) (wCOMMIT_POINT : Addr) (wOPERATION : Addr) (u_CREATE_TREE_creates : Addr) (u_APPEND_CHILD_operation : Addr) (u_DELETE_CHILD_operation : Addr) (u_PUT_ATTRIBUTE_operation : Addr) (u_DELETE_ATTRIBUTE_operation : Addr) (u_PUSH_ROOT_operation : Addr) (u_CREATE_APPEND_TREE_creates : Addr) (u_CREATE_KEYED_TREE_creates : Addr) (u_INSERT_NODE_operation : Addr) (u_DELETE_NODE_operation : Addr) (h0 : Heap) (n0 : Nat) (Z0 : n0 ≤ h0.size) (hp0 : Sta Z h0 "com/example/coppice/coppice/log/Entry$Kind" "CREATE_TREE" "Lcom/example/coppice/coppice/log/Entry$Kind;" (.ref wCREATE_TREE)) (hp1 : Sta Z h0 "com/example/coppice/coppice/log/Entry$Kind" "APPEND_CHILD" "Lcom/example/coppice/coppice/log/Entry$Kind;" (.ref wAPPEND_CHILD)) (hp2 : Sta Z h0 "com/example/coppice/coppice/log/Entry$Kind" "DELETE_CHILD" "Lcom/example/coppice/coppice/log/Entry$Kind;" (.ref wDELETE_CHILD)) (hp3 : Sta Z h0 "com/example/coppice/coppice/log/Entry$Kind" "PUT_ATTRIBUTE" "Lcom/example/coppice/coppice/log/Entry$Kind;" (.ref wPUT_ATTRIBUTE)) (hp4 : Sta Z h0 "com/example/coppice/coppice/log/Entry$Kind" "DELETE_ATTRIBUTE" "Lcom/example/coppice/coppice/log/Entry$Kind;" (.ref wDELETE_ATTRIBUTE)) (hp5 : Sta Z h0 "com/example/coppice/coppice/log/Entry$Kind" "COMMIT" "Lcom/example/coppice/coppice/log/Entry$Kind;" (.ref wCOMMIT)) (hp6 : Sta Z h0 "com/example/coppice/coppice/log/Entry$Kind" "PUSH_ROOT" "Lcom/example/coppice/coppice/log/Entry$Kind;" (.ref wPUSH_ROOT)) (hp7 : Sta Z h0 "com/example/coppice/coppice/log/Entry$Kind" "CREATE_APPEND_TREE" "Lcom/example/coppice/coppice/log/Entry$Kind;" (.ref wCREATE_APPEND_TREE)) (hp8 : Sta Z h0 "com/example/coppice/coppice/log/Entry$Kind" "CREATE_KEYED_TREE" "Lcom/example/coppice/coppice/log/Entry$Kind;" (.ref wCREATE_KEYED_TREE)) (hp9 : Sta Z h0 "com/example/coppice/coppice/log/Entry$Kind" "INSERT_NODE" "Lcom/example/coppice/coppice/log/Entry$Kind;" (.ref wINSERT_NODE)) (hp10 : Sta Z h0 "com/example/coppice/coppice/log/Entry$Kind" "DELETE_NODE" "Lcom/example/coppice/coppice/log/Entry$Kind;" (.ref wDELETE_NODE)) (hp11 : Exa Z h0 wCREATE_TREE "com/example/coppice/coppice/log/Entry$Kind") (hp12 : Exa Z h0 wAPPEND_CHILD "com/example/coppice/coppice/log/Entry$Kind") (hp13 : Exa Z h0 wDELETE_CHILD "com/example/coppice/coppice/log/Entry$Kind") (hp14 : Exa Z h0 wPUT_ATTRIBUTE "com/example/coppice/coppice/log/Entry$Kind") (hp15 : Exa Z h0 wDELETE_ATTRIBUTE "com/example/coppice/coppice/log/Entry$Kind") (hp16 : Exa Z h0 wCOMMIT "com/example/coppice/coppice/log/Entry$Kind") (hp17 : Exa Z h0 wPUSH_ROOT "com/example/coppice/coppice/log/Entry$Kind") (hp18 : Exa Z h0 wCREATE_APPEND_TREE "com/example/coppice/coppice/log/Entry$Kind") (hp19 : Exa Z h0 wCREATE_KEYED_TREE "com/example/coppice/coppice/log/Entry$Kind") (hp20 : Exa Z h0 wINSERT_NODE "com/example/coppice/coppice/log/Entry$Kind") (hp21 : Exa Z h0 wDELETE_NODE "com/example/coppice/coppice/log/Entry$Kind") (hp22 : Sta Z h0 "com/example/coppice/coppice/log/Entry$Role" "CREATION" "Lcom/example/coppice/coppice/log/Entry$Role;" (.ref wCREATION)) (hp23 : Sta Z h0 "com/example/coppice/coppice/log/Entry$Role" "COMMIT_POINT" "Lcom/example/coppice/coppice/log/Entry$Role;" (.ref wCOMMIT_POINT)) (hp24 : Sta Z h0 "com/example/coppice/coppice/log/Entry$Role" "OPERATION" "Lcom/example/coppice/coppice/log/Entry$Role;" (.ref wOPERATION)) (hp25 : Fld Z h0 wCREATE_TREE "com/example/coppice/coppice/log/Entry$Kind" "_creates" "Lcom/example/coppice/coppice/revision/TreeKind$Layout;" (.ref u_CREATE_TREE_creates)) (hp26 : Fld Z h0 wCREATE_TREE "com/example/coppice/coppice/log/Entry$Kind" "_operation" "Lcom/example/coppice/coppice/tree/Operation$Kind;" .null) (hp27 : Fld Z h0 wAPPEND_CHILD "com/example/coppice/coppice/log/Entry$Kind" "_creates" "Lcom/example/coppice/coppice/revision/TreeKind$Layout;" .null) (hp28 : Fld Z h0 wAPPEND_CHILD "com/example/coppice/coppice/log/Entry$Kind" "_operation" "Lcom/example/coppice/coppice/tree/Operation$Kind;" (.ref u_APPEND_CHILD_operation)) (hp29 : Fld Z h0 wDELETE_CHILD "com/example/coppice/coppice/log/Entry$Kind" "_creates" "Lcom/example/coppice/coppice/revision/TreeKind$Layout;" .null) (hp30 : Fld Z h0 wDELETE_CHILD "com/example/coppice/coppice/log/Entry$Kind" "_operation" "Lcom/example/coppice/coppice/tree/Operation$Kind;" (.ref u_DELETE_CHILD_operation)) (hp31 : Fld Z h0 wPUT_ATTRIBUTE "com/example/coppice/coppice/log/Entry$Kind" "_creates" "Lcom/example/coppice/coppice/revision/TreeKind$Layout;" .null) (hp32 : Fld Z h0 wPUT_ATTRIBUTE "com/example/coppice/coppice/log/Entry$Kind" "_operation" "Lcom/example/coppice/coppice/tree/Operation$Kind;" (.ref u_PUT_ATTRIBUTE_operation)) (hp33 : Fld Z h0 wDELETE_ATTRIBUTE "com/example/coppice/coppice/log/Entry$Kind" "_creates" "Lcom/example/coppice/coppice/revision/TreeKind$Layout;" .null) (hp34 : Fld Z h0 wDELETE_ATTRIBUTE "com/example/coppice/coppice/log/Entry$Kind" "_operation" "Lcom/example/coppice/coppice/tree/Operation$Kind;" (.ref u_DELETE_ATTRIBUTE_operation)) (hp35 : Fld Z h0 wCOMMIT "com/example/coppice/coppice/log/Entry$Kind" "_creates" "Lcom/example/coppice/coppice/revision/TreeKind$Layout;" .null) (hp36 : Fld Z h0 wCOMMIT "com/example/coppice/coppice/log/Entry$Kind" "_operation" "Lcom/example/coppice/coppice/tree/Operation$Kind;" .null) (hp37 : Fld Z h0 wPUSH_ROOT "com/example/coppice/coppice/log/Entry$Kind" "_creates" "Lcom/example/coppice/coppice/revision/TreeKind$Layout;" .null) (hp38 : Fld Z h0 wPUSH_ROOT "com/example/coppice/coppice/log/Entry$Kind" "_operation" "Lcom/example/coppice/coppice/tree/Operation$Kind;" (.ref u_PUSH_ROOT_operation)) (hp39 : Fld Z h0 wCREATE_APPEND_TREE "com/example/coppice/coppice/log/Entry$Kind" "_creates" "Lcom/example/coppice/coppice/revision/TreeKind$Layout;" (.ref u_CREATE_APPEND_TREE_creates)) (hp40 : Fld Z h0 wCREATE_APPEND_TREE "com/example/coppice/coppice/log/Entry$Kind" "_operation" "Lcom/example/coppice/coppice/tree/Operation$Kind;" .null) (hp41 : Fld Z h0 wCREATE_KEYED_TREE "com/example/coppice/coppice/log/Entry$Kind" "_creates" "Lcom/example/coppice/coppice/revision/TreeKind$Layout;" (.ref u_CREATE_KEYED_TREE_creates)) (hp42 : Fld Z h0 wCREATE_KEYED_TREE "com/example/coppice/coppice/log/Entry$Kind" "_operation" "Lcom/example/coppice/coppice/tree/Operation$Kind;" .null) (hp43 : Fld Z h0 wINSERT_NODE "com/example/coppice/coppice/log/Entry$Kind" "_creates" "Lcom/example/coppice/coppice/revision/TreeKind$Layout;" .null) (hp44 : Fld Z h0 wINSERT_NODE "com/example/coppice/coppice/log/Entry$Kind" "_operation" "Lcom/example/coppice/coppice/tree/Operation$Kind;" (.ref u_INSERT_NODE_operation)) (hp45 : Fld Z h0 wDELETE_NODE "com/example/coppice/coppice/log/Entry$Kind" "_creates" "Lcom/example/coppice/coppice/revision/TreeKind$Layout;" .null) (hp46 : Fld Z h0 wDELETE_NODE "com/example/coppice/coppice/log/Entry$Kind" "_operation" "Lcom/example/coppice/coppice/tree/Operation$Kind;" (.ref u_DELETE_NODE_operation)) :
    MetFree l x (head1 (Jvm.Cond.code x code maxLocals ret :: ws) room_1) (fun a U => a = #[(.int x0)] ∧ Z.Warmed39 U.vm ∧ U.heap = h0) (fun _ _ _ _ _ => True) (fun _ U o U' => ∃ v L, o = .returned v ∧ Q_law Z x0 wCREATE_TREE wAPPEND_CHILD wDELETE_CHILD wPUT_ATTRIBUTE wDELETE_ATTRIBUTE wCOMMIT wPUSH_ROOT wCREATE_APPEND_TREE wCREATE_KEYED_TREE wINSERT_NODE wDELETE_NODE wCREATION wCOMMIT_POINT wOPERATION u_CREATE_TREE_creates u_APPEND_CHILD_operation u_DELETE_CHILD_operation u_PUT_ATTRIBUTE_operation u_DELETE_ATTRIBUTE_operation u_PUSH_ROOT_operation u_CREATE_APPEND_TREE_creates u_CREATE_KEYED_TREE_creates u_INSERT_NODE_operation u_DELETE_NODE_operation h0 n0 v U'.heap L ∧ FrameEnd U o U' L 16 128) := by
  refine MetFree.of_bodySF (plainFor_of_name pn1) hisR ?_
  intro p e s m args below meth c s₁ Bd hml0 hP hK
  obtain ⟨rfl, hZ, hh⟩ := hP
  have hx := Bd.exec
  have hby := Bd.bytes
  have hml : c.maxLocals = 5 := hml0
  have hown : s.vm.findClass "com/example/coppice/coppice/log/KindRolePinLaw" = some m.cls := findClass_of_methodNamed Bd.named
  have hnm := (name_of_methodNamed Bd.named Bd.method).1
  have hlk := Bd.notSynchronized
  have hrt := Bd.returns
  have X0 : Stand p l e room_1 s m #[(.int x0)] below meth c s₁ [] 0 0 := Stand.of_body Bd
  have e0 : s₁.heap = h0 := by rw [← hh, Bd.state]; rfl
  have N0 := Fr.nil n0
  refine own_cast (P := own_End s (Q_law Z x0 wCREATE_TREE wAPPEND_CHILD wDELETE_CHILD wPUT_ATTRIBUTE wDELETE_ATTRIBUTE wCOMMIT wPUSH_ROOT wCREATE_APPEND_TREE wCREATE_KEYED_TREE wINSERT_NODE wDELETE_NODE wCREATION wCOMMIT_POINT wOPERATION u_CREATE_TREE_creates u_APPEND_CHILD_operation u_DELETE_CHILD_operation u_PUT_ATTRIBUTE_operation u_DELETE_ATTRIBUTE_operation u_PUSH_ROOT_operation u_CREATE_APPEND_TREE_creates u_CREATE_KEYED_TREE_creates u_INSERT_NODE_operation u_DELETE_NODE_operation h0 n0) 16 128) (ef_law m x0) ?_
  refine g_bipush X0 hx hby (11 : Int32) at_0 (by decide) (rfl : 0 + 2 = 2) ?_
  obtain ⟨T9, h9, k9, X9, e9, E9, A9, B9, O9, st9⟩ := newRE X0 hx hZ hown (hw _ (List.mem_of_getElem? (i := 0) rfl)) (hw _ (List.mem_of_getElem? (i := 1) rfl)) e0 (g := (mkF m 2 #[.val (.int x0), .unset, .unset, .unset, .unset] [(.int (11 : Int32))])) rfl (hb hby at_2) rfl (by decide) (cap := 11) (by decide) (by decide) (by decide) (by decide) (ad := "[Lcom/example/coppice/coppice/log/Entry$Kind;") (by decide +kernel)
  obtain ⟨b9, g9⟩ : ∃ z, z = h0.size := ⟨_, rfl⟩
  rw [← g9] at A9 B9 st9
  have ne10 : wCREATE_TREE ≠ b9 := Nat.ne_of_lt (Nat.lt_of_lt_of_le (hp11).lt (Nat.le_of_eq g9.symm))
  have ne11 : wAPPEND_CHILD ≠ b9 := Nat.ne_of_lt (Nat.lt_of_lt_of_le (hp12).lt (Nat.le_of_eq g9.symm))
  have ne12 : wDELETE_CHILD ≠ b9 := Nat.ne_of_lt (Nat.lt_of_lt_of_le (hp13).lt (Nat.le_of_eq g9.symm))
  have ne13 : wPUT_ATTRIBUTE ≠ b9 := Nat.ne_of_lt (Nat.lt_of_lt_of_le (hp14).lt (Nat.le_of_eq g9.symm))
  have ne14 : wDELETE_ATTRIBUTE ≠ b9 := Nat.ne_of_lt (Nat.lt_of_lt_of_le (hp15).lt (Nat.le_of_eq g9.symm))
  have ne15 : wCOMMIT ≠ b9 := Nat.ne_of_lt (Nat.lt_of_lt_of_le (hp16).lt (Nat.le_of_eq g9.symm))
  have ne16 : wPUSH_ROOT ≠ b9 := Nat.ne_of_lt (Nat.lt_of_lt_of_le (hp17).lt (Nat.le_of_eq g9.symm))
  have ne17 : wCREATE_APPEND_TREE ≠ b9 := Nat.ne_of_lt (Nat.lt_of_lt_of_le (hp18).lt (Nat.le_of_eq g9.symm))
  have ne18 : wCREATE_KEYED_TREE ≠ b9 := Nat.ne_of_lt (Nat.lt_of_lt_of_le (hp19).lt (Nat.le_of_eq g9.symm))
  have ne19 : wINSERT_NODE ≠ b9 := Nat.ne_of_lt (Nat.lt_of_lt_of_le (hp20).lt (Nat.le_of_eq g9.symm))
  have ne20 : wDELETE_NODE ≠ b9 := Nat.ne_of_lt (Nat.lt_of_lt_of_le (hp21).lt (Nat.le_of_eq g9.symm))
  have Z9 : n0 ≤ h9.size := Nat.le_trans Z0 E9.1
  have ge9 : n0 ≤ b9 := Nat.le_trans Z0 (Nat.le_of_eq g9.symm)
  have V9 : Arv Z h9 b9 k9 (.object "com/example/coppice/coppice/log/Entry$Kind") (11 : Int32) [.null, .null, .null, .null, .null, .null, .null, .null, .null, .null, .null] .null := (Arv.new A9 (by decide)).pad (pad_rep [] _ 11)
  refine own_go st9 ?_
  show own_Got p e below _ T9 (mkF m 5 #[.val (.int x0), .unset, .unset, .unset, .unset] [(.ref b9)])
  refine g_dup X9 hx hby at_5 rfl (rfl : 5 + 1 = 6) ?_
  refine g_iconst X9 hx hby (0 : Int32) at_6 (by decide) (rfl : 6 + 1 = 7) ?_
  have f21 : Sta Z h9 "com/example/coppice/coppice/log/Entry$Kind" "CREATE_TREE" "Lcom/example/coppice/coppice/log/Entry$Kind;" (.ref wCREATE_TREE) := (Sta.ext E9 hp0)
  obtain ⟨T22, X22, e22, st22⟩ := getS2 X9 hx hZ hown (host := "") (Or.inl (hw _ (List.mem_of_getElem? (i := 2) rfl))) Via.refl e9 f21 (g := (mkF m 7 #[.val (.int x0), .unset, .unset, .unset, .unset] [(.int (0 : Int32)), (.ref b9), (.ref b9)])) rfl (hb hby at_7)
  refine own_go st22 ?_
  show own_Got p e below _ T22 (mkF m 10 #[.val (.int x0), .unset, .unset, .unset, .unset] [(.ref wCREATE_TREE), (.int (0 : Int32)), (.ref b9), (.ref b9)])
  have f24 : Exa Z h9 wCREATE_TREE "com/example/coppice/coppice/log/Entry$Kind" := (Exa.ext E9 hp11)
  obtain ⟨T23, h23, X23, e23, W23, V23, st23⟩ := a_aastore X22 hx hby hZ e22 (ls := #[.val (.int x0), .unset, .unset, .unset, .unset]) (st := [(.ref b9)]) (j := (0 : Int32)) 0 V9 O9 (Ins.self f24) ⟨by decide, by decide⟩ (by decide) (Nat.le_of_ble_eq_true rfl) at_10
  have Z23 : n0 ≤ h23.size := Nat.le_trans Z9 (Keep.of_wr W23).1
  have N23 := Fr.snoc X23 N0 ge9
  have V23' : Arv Z h23 b9 k9 (.object "com/example/coppice/coppice/log/Entry$Kind") (11 : Int32) [(.ref wCREATE_TREE), .null, .null, .null, .null, .null, .null, .null, .null, .null, .null] .null := V23
  refine own_go st23 ?_
  show own_Got p e below _ T23 (mkF m 11 #[.val (.int x0), .unset, .unset, .unset, .unset] [(.ref b9)])
  refine g_dup X23 hx hby at_11 rfl (rfl : 11 + 1 = 12) ?_
  refine g_iconst X23 hx hby (1 : Int32) at_12 (by decide) (rfl : 12 + 1 = 13) ?_
  have f25 : Sta Z h23 "com/example/coppice/coppice/log/Entry$Kind" "APPEND_CHILD" "Lcom/example/coppice/coppice/log/Entry$Kind;" (.ref wAPPEND_CHILD) := (Sta.wr W23 (Sta.ext E9 hp1))
  obtain ⟨T26, X26, e26, st26⟩ := getS2 X23 hx hZ hown (host := "") (Or.inl (hw _ (List.mem_of_getElem? (i := 6) rfl))) Via.refl e23 f25 (g := (mkF m 13 #[.val (.int x0), .unset, .unset, .unset, .unset] [(.int (1 : Int32)), (.ref b9), (.ref b9)])) rfl (hb hby at_13)
  refine own_go st26 ?_
  show own_Got p e below _ T26 (mkF m 16 #[.val (.int x0), .unset, .unset, .unset, .unset] [(.ref wAPPEND_CHILD), (.int (1 : Int32)), (.ref b9), (.ref b9)])
  have f28 : Exa Z h23 wAPPEND_CHILD "com/example/coppice/coppice/log/Entry$Kind" := (Exa.wr W23 (Exa.ext E9 hp12))
  obtain ⟨T27, h27, X27, e27, W27, V27, st27⟩ := a_aastore X26 hx hby hZ e26 (ls := #[.val (.int x0), .unset, .unset, .unset, .unset]) (st := [(.ref b9)]) (j := (1 : Int32)) 1 V23' O9 (Ins.self f28) ⟨by decide, by decide⟩ (by decide) (Nat.le_of_ble_eq_true rfl) at_16
  have Z27 : n0 ≤ h27.size := Nat.le_trans Z23 (Keep.of_wr W27).1
  have N27 := Fr.snoc X27 N23 ge9
  have V27' : Arv Z h27 b9 k9 (.object "com/example/coppice/coppice/log/Entry$Kind") (11 : Int32) [(.ref wCREATE_TREE), (.ref wAPPEND_CHILD), .null, .null, .null, .null, .null, .null, .null, .null, .null] .null := V27
  refine own_go st27 ?_
  show own_Got p e below _ T27 (mkF m 17 #[.val (.int x0), .unset, .unset, .unset, .unset] [(.ref b9)])
  refine g_dup X27 hx hby at_17 rfl (rfl : 17 + 1 = 18) ?_
  refine g_iconst X27 hx hby (2 : Int32) at_18 (by decide) (rfl : 18 + 1 = 19) ?_
  have f29 : Sta Z h27 "com/example/coppice/coppice/log/Entry$Kind" "DELETE_CHILD" "Lcom/example/coppice/coppice/log/Entry$Kind;" (.ref wDELETE_CHILD) := (Sta.wr W27 (Sta.wr W23 (Sta.ext E9 hp2)))
  obtain ⟨T30, X30, e30, st30⟩ := getS2 X27 hx hZ hown (host := "") (Or.inl (hw _ (List.mem_of_getElem? (i := 8) rfl))) Via.refl e27 f29 (g := (mkF m 19 #[.val (.int x0), .unset, .unset, .unset, .unset] [(.int (2 : Int32)), (.ref b9), (.ref b9)])) rfl (hb hby at_19)
  refine own_go st30 ?_
  show own_Got p e below _ T30 (mkF m 22 #[.val (.int x0), .unset, .unset, .unset, .unset] [(.ref wDELETE_CHILD), (.int (2 : Int32)), (.ref b9), (.ref b9)])
  have f32 : Exa Z h27 wDELETE_CHILD "com/example/coppice/coppice/log/Entry$Kind" := (Exa.wr W27 (Exa.wr W23 (Exa.ext E9 hp13)))
  obtain ⟨T31, h31, X31, e31, W31, V31, st31⟩ := a_aastore X30 hx hby hZ e30 (ls := #[.val (.int x0), .unset, .unset, .unset, .unset]) (st := [(.ref b9)]) (j := (2 : Int32)) 2 V27' O9 (Ins.self f32) ⟨by decide, by decide⟩ (by decide) (Nat.le_of_ble_eq_true rfl) at_22
  have Z31 : n0 ≤ h31.size := Nat.le_trans Z27 (Keep.of_wr W31).1
  have N31 := Fr.snoc X31 N27 ge9
  have V31' : Arv Z h31 b9 k9 (.object "com/example/coppice/coppice/log/Entry$Kind") (11 : Int32) [(.ref wCREATE_TREE), (.ref wAPPEND_CHILD), (.ref wDELETE_CHILD), .null, .null, .null, .null, .null, .null, .null, .null] .null := V31
  refine own_go st31 ?_
  show own_Got p e below _ T31 (mkF m 23 #[.val (.int x0), .unset, .unset, .unset, .unset] [(.ref b9)])
  refine g_dup X31 hx hby at_23 rfl (rfl : 23 + 1 = 24) ?_
  refine g_iconst X31 hx hby (3 : Int32) at_24 (by decide) (rfl : 24 + 1 = 25) ?_
  have f33 : Sta Z h31 "com/example/coppice/coppice/log/Entry$Kind" "PUT_ATTRIBUTE" "Lcom/example/coppice/coppice/log/Entry$Kind;" (.ref wPUT_ATTRIBUTE) := (Sta.wr W31 (Sta.wr W27 (Sta.wr W23 (Sta.ext E9 hp3))))
  obtain ⟨T34, X34, e34, st34⟩ := getS2 X31 hx hZ hown (host := "") (Or.inl (hw _ (List.mem_of_getElem? (i := 10) rfl))) Via.refl e31 f33 (g := (mkF m 25 #[.val (.int x0), .unset, .unset, .unset, .unset] [(.int (3 : Int32)), (.ref b9), (.ref b9)])) rfl (hb hby at_25)
  refine own_go st34 ?_
  show own_Got p e below _ T34 (mkF m 28 #[.val (.int x0), .unset, .unset, .unset, .unset] [(.ref wPUT_ATTRIBUTE), (.int (3 : Int32)), (.ref b9), (.ref b9)])
  have f36 : Exa Z h31 wPUT_ATTRIBUTE "com/example/coppice/coppice/log/Entry$Kind" := (Exa.wr W31 (Exa.wr W27 (Exa.wr W23 (Exa.ext E9 hp14))))
  obtain ⟨T35, h35, X35, e35, W35, V35, st35⟩ := a_aastore X34 hx hby hZ e34 (ls := #[.val (.int x0), .unset, .unset, .unset, .unset]) (st := [(.ref b9)]) (j := (3 : Int32)) 3 V31' O9 (Ins.self f36) ⟨by decide, by decide⟩ (by decide) (Nat.le_of_ble_eq_true rfl) at_28
  have Z35 : n0 ≤ h35.size := Nat.le_trans Z31 (Keep.of_wr W35).1
  have N35 := Fr.snoc X35 N31 ge9
  have V35' : Arv Z h35 b9 k9 (.object "com/example/coppice/coppice/log/Entry$Kind") (11 : Int32) [(.ref wCREATE_TREE), (.ref wAPPEND_CHILD), (.ref wDELETE_CHILD), (.ref wPUT_ATTRIBUTE), .null, .null, .null, .null, .null, .null, .null] .null := V35
  refine own_go st35 ?_
  show own_Got p e below _ T35 (mkF m 29 #[.val (.int x0), .unset, .unset, .unset, .unset] [(.ref b9)])
  refine g_dup X35 hx hby at_29 rfl (rfl : 29 + 1 = 30) ?_
  refine g_iconst X35 hx hby (4 : Int32) at_30 (by decide) (rfl : 30 + 1 = 31) ?_
  have f37 : Sta Z h35 "com/example/coppice/coppice/log/Entry$Kind" "DELETE_ATTRIBUTE" "Lcom/example/coppice/coppice/log/Entry$Kind;" (.ref wDELETE_ATTRIBUTE) := (Sta.wr W35 (Sta.wr W31 (Sta.wr W27 (Sta.wr W23 (Sta.ext E9 hp4)))))
  obtain ⟨T38, X38, e38, st38⟩ := getS2 X35 hx hZ hown (host := "") (Or.inl (hw _ (List.mem_of_getElem? (i := 12) rfl))) Via.refl e35 f37 (g := (mkF m 31 #[.val (.int x0), .unset, .unset, .unset, .unset] [(.int (4 : Int32)), (.ref b9), (.ref b9)])) rfl (hb hby at_31)
  refine own_go st38 ?_
  show own_Got p e below _ T38 (mkF m 34 #[.val (.int x0), .unset, .unset, .unset, .unset] [(.ref wDELETE_ATTRIBUTE), (.int (4 : Int32)), (.ref b9), (.ref b9)])
  have f40 : Exa Z h35 wDELETE_ATTRIBUTE "com/example/coppice/coppice/log/Entry$Kind" := (Exa.wr W35 (Exa.wr W31 (Exa.wr W27 (Exa.wr W23 (Exa.ext E9 hp15)))))
  obtain ⟨T39, h39, X39, e39, W39, V39, st39⟩ := a_aastore X38 hx hby hZ e38 (ls := #[.val (.int x0), .unset, .unset, .unset, .unset]) (st := [(.ref b9)]) (j := (4 : Int32)) 4 V35' O9 (Ins.self f40) ⟨by decide, by decide⟩ (by decide) (Nat.le_of_ble_eq_true rfl) at_34
  have Z39 : n0 ≤ h39.size := Nat.le_trans Z35 (Keep.of_wr W39).1
  have N39 := Fr.snoc X39 N35 ge9
  have V39' : Arv Z h39 b9 k9 (.object "com/example/coppice/coppice/log/Entry$Kind") (11 : Int32) [(.ref wCREATE_TREE), (.ref wAPPEND_CHILD), (.ref wDELETE_CHILD), (.ref wPUT_ATTRIBUTE), (.ref wDELETE_ATTRIBUTE), .null, .null, .null, .null, .null, .null] .null := V39
  refine own_go st39 ?_
  show own_Got p e below _ T39 (mkF m 35 #[.val (.int x0), .unset, .unset, .unset, .unset] [(.ref b9)])
  refine g_dup X39 hx hby at_35 rfl (rfl : 35 + 1 = 36) ?_
  refine g_iconst X39 hx hby (5 : Int32) at_36 (by decide) (rfl : 36 + 1 = 37) ?_
  have f41 : Sta Z h39 "com/example/coppice/coppice/log/Entry$Kind" "COMMIT" "Lcom/example/coppice/coppice/log/Entry$Kind;" (.ref wCOMMIT) := (Sta.wr W39 (Sta.wr W35 (Sta.wr W31 (Sta.wr W27 (Sta.wr W23 (Sta.ext E9 hp5))))))
  obtain ⟨T42, X42, e42, st42⟩ := getS2 X39 hx hZ hown (host := "") (Or.inl (hw _ (List.mem_of_getElem? (i := 14) rfl))) Via.refl e39 f41 (g := (mkF m 37 #[.val (.int x0), .unset, .unset, .unset, .unset] [(.int (5 : Int32)), (.ref b9), (.ref b9)])) rfl (hb hby at_37)
  refine own_go st42 ?_
  show own_Got p e below _ T42 (mkF m 40 #[.val (.int x0), .unset, .unset, .unset, .unset] [(.ref wCOMMIT), (.int (5 : Int32)), (.ref b9), (.ref b9)])
  have f44 : Exa Z h39 wCOMMIT "com/example/coppice/coppice/log/Entry$Kind" := (Exa.wr W39 (Exa.wr W35 (Exa.wr W31 (Exa.wr W27 (Exa.wr W23 (Exa.ext E9 hp16))))))
  obtain ⟨T43, h43, X43, e43, W43, V43, st43⟩ := a_aastore X42 hx hby hZ e42 (ls := #[.val (.int x0), .unset, .unset, .unset, .unset]) (st := [(.ref b9)]) (j := (5 : Int32)) 5 V39' O9 (Ins.self f44) ⟨by decide, by decide⟩ (by decide) (Nat.le_of_ble_eq_true rfl) at_40
  have Z43 : n0 ≤ h43.size := Nat.le_trans Z39 (Keep.of_wr W43).1
  have N43 := Fr.snoc X43 N39 ge9
  have V43' : Arv Z h43 b9 k9 (.object "com/example/coppice/coppice/log/Entry$Kind") (11 : Int32) [(.ref wCREATE_TREE), (.ref wAPPEND_CHILD), (.ref wDELETE_CHILD), (.ref wPUT_ATTRIBUTE), (.ref wDELETE_ATTRIBUTE), (.ref wCOMMIT), .null, .null, .null, .null, .null] .null := V43
  refine own_go st43 ?_
  show own_Got p e below _ T43 (mkF m 41 #[.val (.int x0), .unset, .unset, .unset, .unset] [(.ref b9)])
  refine g_dup X43 hx hby at_41 rfl (rfl : 41 + 1 = 42) ?_
  refine g_bipush X43 hx hby (6 : Int32) at_42 (by decide) (rfl : 42 + 2 = 44) ?_
  have f45 : Sta Z h43 "com/example/coppice/coppice/log/Entry$Kind" "PUSH_ROOT" "Lcom/example/coppice/coppice/log/Entry$Kind;" (.ref wPUSH_ROOT) := (Sta.wr W43 (Sta.wr W39 (Sta.wr W35 (Sta.wr W31 (Sta.wr W27 (Sta.wr W23 (Sta.ext E9 hp6)))))))
  obtain ⟨T46, X46, e46, st46⟩ := getS2 X43 hx hZ hown (host := "") (Or.inl (hw _ (List.mem_of_getElem? (i := 16) rfl))) Via.refl e43 f45 (g := (mkF m 44 #[.val (.int x0), .unset, .unset, .unset, .unset] [(.int (6 : Int32)), (.ref b9), (.ref b9)])) rfl (hb hby at_44)
  refine own_go st46 ?_
  show own_Got p e below _ T46 (mkF m 47 #[.val (.int x0), .unset, .unset, .unset, .unset] [(.ref wPUSH_ROOT), (.int (6 : Int32)), (.ref b9), (.ref b9)])
  have f48 : Exa Z h43 wPUSH_ROOT "com/example/coppice/coppice/log/Entry$Kind" := (Exa.wr W43 (Exa.wr W39 (Exa.wr W35 (Exa.wr W31 (Exa.wr W27 (Exa.wr W23 (Exa.ext E9 hp17)))))))
  obtain ⟨T47, h47, X47, e47, W47, V47, st47⟩ := a_aastore X46 hx hby hZ e46 (ls := #[.val (.int x0), .unset, .unset, .unset, .unset]) (st := [(.ref b9)]) (j := (6 : Int32)) 6 V43' O9 (Ins.self f48) ⟨by decide, by decide⟩ (by decide) (Nat.le_of_ble_eq_true rfl) at_47
  have Z47 : n0 ≤ h47.size := Nat.le_trans Z43 (Keep.of_wr W47).1
  have N47 := Fr.snoc X47 N43 ge9
  have V47' : Arv Z h47 b9 k9 (.object "com/example/coppice/coppice/log/Entry$Kind") (11 : Int32) [(.ref wCREATE_TREE), (.ref wAPPEND_CHILD), (.ref wDELETE_CHILD), (.ref wPUT_ATTRIBUTE), (.ref wDELETE_ATTRIBUTE), (.ref wCOMMIT), (.ref wPUSH_ROOT), .null, .null, .null, .null] .null := V47
  refine own_go st47 ?_
  show own_Got p e below _ T47 (mkF m 48 #[.val (.int x0), .unset, .unset, .unset, .unset] [(.ref b9)])
  refine g_dup X47 hx hby at_48 rfl (rfl : 48 + 1 = 49) ?_
  refine g_bipush X47 hx hby (7 : Int32) at_49 (by decide) (rfl : 49 + 2 = 51) ?_
  have f49 : Sta Z h47 "com/example/coppice/coppice/log/Entry$Kind" "CREATE_APPEND_TREE" "Lcom/example/coppice/coppice/log/Entry$Kind;" (.ref wCREATE_APPEND_TREE) := (Sta.wr W47 (Sta.wr W43 (Sta.wr W39 (Sta.wr W35 (Sta.wr W31 (Sta.wr W27 (Sta.wr W23 (Sta.ext E9 hp7))))))))
  obtain ⟨T50, X50, e50, st50⟩ := getS2 X47 hx hZ hown (host := "") (Or.inl (hw _ (List.mem_of_getElem? (i := 18) rfl))) Via.refl e47 f49 (g := (mkF m 51 #[.val (.int x0), .unset, .unset, .unset, .unset] [(.int (7 : Int32)), (.ref b9), (.ref b9)])) rfl (hb hby at_51)
  refine own_go st50 ?_
  show own_Got p e below _ T50 (mkF m 54 #[.val (.int x0), .unset, .unset, .unset, .unset] [(.ref wCREATE_APPEND_TREE), (.int (7 : Int32)), (.ref b9), (.ref b9)])
  have f52 : Exa Z h47 wCREATE_APPEND_TREE "com/example/coppice/coppice/log/Entry$Kind" := (Exa.wr W47 (Exa.wr W43 (Exa.wr W39 (Exa.wr W35 (Exa.wr W31 (Exa.wr W27 (Exa.wr W23 (Exa.ext E9 hp18))))))))
  obtain ⟨T51, h51, X51, e51, W51, V51, st51⟩ := a_aastore X50 hx hby hZ e50 (ls := #[.val (.int x0), .unset, .unset, .unset, .unset]) (st := [(.ref b9)]) (j := (7 : Int32)) 7 V47' O9 (Ins.self f52) ⟨by decide, by decide⟩ (by decide) (Nat.le_of_ble_eq_true rfl) at_54
  have Z51 : n0 ≤ h51.size := Nat.le_trans Z47 (Keep.of_wr W51).1
  have N51 := Fr.snoc X51 N47 ge9
  have V51' : Arv Z h51 b9 k9 (.object "com/example/coppice/coppice/log/Entry$Kind") (11 : Int32) [(.ref wCREATE_TREE), (.ref wAPPEND_CHILD), (.ref wDELETE_CHILD), (.ref wPUT_ATTRIBUTE), (.ref wDELETE_ATTRIBUTE), (.ref wCOMMIT), (.ref wPUSH_ROOT), (.ref wCREATE_APPEND_TREE), .null, .null, .null] .null := V51
  refine own_go st51 ?_
  show own_Got p e below _ T51 (mkF m 55 #[.val (.int x0), .unset, .unset, .unset, .unset] [(.ref b9)])
  refine g_dup X51 hx hby at_55 rfl (rfl : 55 + 1 = 56) ?_
  refine g_bipush X51 hx hby (8 : Int32) at_56 (by decide) (rfl : 56 + 2 = 58) ?_
  have f53 : Sta Z h51 "com/example/coppice/coppice/log/Entry$Kind" "CREATE_KEYED_TREE" "Lcom/example/coppice/coppice/log/Entry$Kind;" (.ref wCREATE_KEYED_TREE) := (Sta.wr W51 (Sta.wr W47 (Sta.wr W43 (Sta.wr W39 (Sta.wr W35 (Sta.wr W31 (Sta.wr W27 (Sta.wr W23 (Sta.ext E9 hp8)))))))))
  obtain ⟨T54, X54, e54, st54⟩ := getS2 X51 hx hZ hown (host := "") (Or.inl (hw _ (List.mem_of_getElem? (i := 20) rfl))) Via.refl e51 f53 (g := (mkF m 58 #[.val (.int x0), .unset, .unset, .unset, .unset] [(.int (8 : Int32)), (.ref b9), (.ref b9)])) rfl (hb hby at_58)
  refine own_go st54 ?_
  show own_Got p e below _ T54 (mkF m 61 #[.val (.int x0), .unset, .unset, .unset, .unset] [(.ref wCREATE_KEYED_TREE), (.int (8 : Int32)), (.ref b9), (.ref b9)])
  have f56 : Exa Z h51 wCREATE_KEYED_TREE "com/example/coppice/coppice/log/Entry$Kind" := (Exa.wr W51 (Exa.wr W47 (Exa.wr W43 (Exa.wr W39 (Exa.wr W35 (Exa.wr W31 (Exa.wr W27 (Exa.wr W23 (Exa.ext E9 hp19)))))))))
  obtain ⟨T55, h55, X55, e55, W55, V55, st55⟩ := a_aastore X54 hx hby hZ e54 (ls := #[.val (.int x0), .unset, .unset, .unset, .unset]) (st := [(.ref b9)]) (j := (8 : Int32)) 8 V51' O9 (Ins.self f56) ⟨by decide, by decide⟩ (by decide) (Nat.le_of_ble_eq_true rfl) at_61
  have Z55 : n0 ≤ h55.size := Nat.le_trans Z51 (Keep.of_wr W55).1
  have N55 := Fr.snoc X55 N51 ge9
  have V55' : Arv Z h55 b9 k9 (.object "com/example/coppice/coppice/log/Entry$Kind") (11 : Int32) [(.ref wCREATE_TREE), (.ref wAPPEND_CHILD), (.ref wDELETE_CHILD), (.ref wPUT_ATTRIBUTE), (.ref wDELETE_ATTRIBUTE), (.ref wCOMMIT), (.ref wPUSH_ROOT), (.ref wCREATE_APPEND_TREE), (.ref wCREATE_KEYED_TREE), .null, .null] .null := V55
  refine own_go st55 ?_
  show own_Got p e below _ T55 (mkF m 62 #[.val (.int x0), .unset, .unset, .unset, .unset] [(.ref b9)])
  refine g_dup X55 hx hby at_62 rfl (rfl : 62 + 1 = 63) ?_
  refine g_bipush X55 hx hby (9 : Int32) at_63 (by decide) (rfl : 63 + 2 = 65) ?_
  have f57 : Sta Z h55 "com/example/coppice/coppice/log/Entry$Kind" "INSERT_NODE" "Lcom/example/coppice/coppice/log/Entry$Kind;" (.ref wINSERT_NODE) := (Sta.wr W55 (Sta.wr W51 (Sta.wr W47 (Sta.wr W43 (Sta.wr W39 (Sta.wr W35 (Sta.wr W31 (Sta.wr W27 (Sta.wr W23 (Sta.ext E9 hp9))))))))))
  obtain ⟨T58, X58, e58, st58⟩ := getS2 X55 hx hZ hown (host := "") (Or.inl (hw _ (List.mem_of_getElem? (i := 22) rfl))) Via.refl e55 f57 (g := (mkF m 65 #[.val (.int x0), .unset, .unset, .unset, .unset] [(.int (9 : Int32)), (.ref b9), (.ref b9)])) rfl (hb hby at_65)
  refine own_go st58 ?_
  show own_Got p e below _ T58 (mkF m 68 #[.val (.int x0), .unset, .unset, .unset, .unset] [(.ref wINSERT_NODE), (.int (9 : Int32)), (.ref b9), (.ref b9)])
  have f60 : Exa Z h55 wINSERT_NODE "com/example/coppice/coppice/log/Entry$Kind" := (Exa.wr W55 (Exa.wr W51 (Exa.wr W47 (Exa.wr W43 (Exa.wr W39 (Exa.wr W35 (Exa.wr W31 (Exa.wr W27 (Exa.wr W23 (Exa.ext E9 hp20))))))))))
  obtain ⟨T59, h59, X59, e59, W59, V59, st59⟩ := a_aastore X58 hx hby hZ e58 (ls := #[.val (.int x0), .unset, .unset, .unset, .unset]) (st := [(.ref b9)]) (j := (9 : Int32)) 9 V55' O9 (Ins.self f60) ⟨by decide, by decide⟩ (by decide) (Nat.le_of_ble_eq_true rfl) at_68
  have Z59 : n0 ≤ h59.size := Nat.le_trans Z55 (Keep.of_wr W59).1
  have N59 := Fr.snoc X59 N55 ge9
  have V59' : Arv Z h59 b9 k9 (.object "com/example/coppice/coppice/log/Entry$Kind") (11 : Int32) [(.ref wCREATE_TREE), (.ref wAPPEND_CHILD), (.ref wDELETE_CHILD), (.ref wPUT_ATTRIBUTE), (.ref wDELETE_ATTRIBUTE), (.ref wCOMMIT), (.ref wPUSH_ROOT), (.ref wCREATE_APPEND_TREE), (.ref wCREATE_KEYED_TREE), (.ref wINSERT_NODE), .null] .null := V59
  refine own_go st59 ?_
  show own_Got p e below _ T59 (mkF m 69 #[.val (.int x0), .unset, .unset, .unset, .unset] [(.ref b9)])
  refine g_dup X59 hx hby at_69 rfl (rfl : 69 + 1 = 70) ?_
  refine g_bipush X59 hx hby (10 : Int32) at_70 (by decide) (rfl : 70 + 2 = 72) ?_
  have f61 : Sta Z h59 "com/example/coppice/coppice/log/Entry$Kind" "DELETE_NODE" "Lcom/example/coppice/coppice/log/Entry$Kind;" (.ref wDELETE_NODE) := (Sta.wr W59 (Sta.wr W55 (Sta.wr W51 (Sta.wr W47 (Sta.wr W43 (Sta.wr W39 (Sta.wr W35 (Sta.wr W31 (Sta.wr W27 (Sta.wr W23 (Sta.ext E9 hp10)))))))))))
  obtain ⟨T62, X62, e62, st62⟩ := getS2 X59 hx hZ hown (host := "") (Or.inl (hw _ (List.mem_of_getElem? (i := 24) rfl))) Via.refl e59 f61 (g := (mkF m 72 #[.val (.int x0), .unset, .unset, .unset, .unset] [(.int (10 : Int32)), (.ref b9), (.ref b9)])) rfl (hb hby at_72)
  refine own_go st62 ?_
  show own_Got p e below _ T62 (mkF m 75 #[.val (.int x0), .unset, .unset, .unset, .unset] [(.ref wDELETE_NODE), (.int (10 : Int32)), (.ref b9), (.ref b9)])
  have f64 : Exa Z h59 wDELETE_NODE "com/example/coppice/coppice/log/Entry$Kind" := (Exa.wr W59 (Exa.wr W55 (Exa.wr W51 (Exa.wr W47 (Exa.wr W43 (Exa.wr W39 (Exa.wr W35 (Exa.wr W31 (Exa.wr W27 (Exa.wr W23 (Exa.ext E9 hp21)))))))))))
  obtain ⟨T63, h63, X63, e63, W63, V63, st63⟩ := a_aastore X62 hx hby hZ e62 (ls := #[.val (.int x0), .unset, .unset, .unset, .unset]) (st := [(.ref b9)]) (j := (10 : Int32)) 10 V59' O9 (Ins.self f64) ⟨by decide, by decide⟩ (by decide) (Nat.le_of_ble_eq_true rfl) at_75
  have Z63 : n0 ≤ h63.size := Nat.le_trans Z59 (Keep.of_wr W63).1
  have N63 := Fr.snoc X63 N59 ge9
  have V63' : Arv Z h63 b9 k9 (.object "com/example/coppice/coppice/log/Entry$Kind") (11 : Int32) [(.ref wCREATE_TREE), (.ref wAPPEND_CHILD), (.ref wDELETE_CHILD), (.ref wPUT_ATTRIBUTE), (.ref wDELETE_ATTRIBUTE), (.ref wCOMMIT), (.ref wPUSH_ROOT), (.ref wCREATE_APPEND_TREE), (.ref wCREATE_KEYED_TREE), (.ref wINSERT_NODE), (.ref wDELETE_NODE)] .null := V63
  refine own_go st63 ?_
  show own_Got p e below _ T63 (mkF m 76 #[.val (.int x0), .unset, .unset, .unset, .unset] [(.ref b9)])
  refine g_astoreN X63 hx hby #[.val (.int x0), .val (.ref b9), .unset, .unset, .unset] at_76 rfl rfl (rfl : 76 + 1 = 77) ?_
  refine g_iloadN X63 hx hby at_77 rfl (rfl : 77 + 1 = 78) ?_
  refine g_ldcI X63 hx hby hZ hown (hw _ (List.mem_of_getElem? (i := 26) rfl)) at_78 (rfl : 78 + 2 = 80) ?_
  refine g_iand X63 hx hby at_80 (rfl : 80 + 1 = 81) ?_
  refine g_bipush X63 hx hby (11 : Int32) at_81 (by decide) (rfl : 81 + 2 = 83) ?_
  refine g_irem X63 hx hby at_83 (by decide) (rfl : 83 + 1 = 84) ?_
  refine g_istoreN X63 hx hby #[.val (.int x0), .val (.ref b9), .val (.int ((x0 &&& (2147483647 : Int32)) % (11 : Int32))), .unset, .unset] at_84 rfl (rfl : 84 + 1 = 85) ?_
  rcases own_mod11 x0 with hk65 | hk65 | hk65 | hk65 | hk65 | hk65 | hk65 | hk65 | hk65 | hk65 | hk65
  · rw [hk65]
    refine g_aloadN X63 hx hby at_85 rfl rfl (rfl : 85 + 1 = 86) ?_
    refine g_iloadN X63 hx hby at_86 rfl (rfl : 86 + 1 = 87) ?_
    refine g_aaload X63 hx hby hZ e63 (v := (.ref wCREATE_TREE)) V63' rfl ⟨by decide, by decide⟩ rfl at_87 (rfl : 87 + 1 = 88) ?_
    refine g_astoreN X63 hx hby #[.val (.int x0), .val (.ref b9), .val (.int (0 : Int32)), .val (.ref wCREATE_TREE), .unset] at_88 rfl rfl (rfl : 88 + 1 = 89) ?_
    refine g_iloadN X63 hx hby at_89 rfl (rfl : 89 + 1 = 90) ?_
    refine g_ifT X63 hx hby at_90 ((if0 _ _).trans (teq (by decide : (0 : Int32) = (0 : Int32))).1) (by decide) (pc' := 105) (by decide) ?_
    have f66 : Sta Z h63 "com/example/coppice/coppice/log/Entry$Role" "CREATION" "Lcom/example/coppice/coppice/log/Entry$Role;" (.ref wCREATION) := (Sta.wr W63 (Sta.wr W59 (Sta.wr W55 (Sta.wr W51 (Sta.wr W47 (Sta.wr W43 (Sta.wr W39 (Sta.wr W35 (Sta.wr W31 (Sta.wr W27 (Sta.wr W23 (Sta.ext E9 hp22))))))))))))
    obtain ⟨T67, X67, e67, st67⟩ := getS2 X63 hx hZ hown (host := "") (Or.inl (hw _ (List.mem_of_getElem? (i := 27) rfl))) Via.refl e63 f66 (g := (mkF m 105 #[.val (.int x0), .val (.ref b9), .val (.int (0 : Int32)), .val (.ref wCREATE_TREE), .unset] [])) rfl (hb hby at_105)
    refine own_go st67 ?_
    show own_Got p e below _ T67 (mkF m 108 #[.val (.int x0), .val (.ref b9), .val (.int (0 : Int32)), .val (.ref wCREATE_TREE), .unset] [(.ref wCREATION)])
    refine g_astore X67 hx hby #[.val (.int x0), .val (.ref b9), .val (.int (0 : Int32)), .val (.ref wCREATE_TREE), .val (.ref wCREATION)] at_108 rfl rfl (rfl : 108 + 2 = 110) ?_
    refine g_goto X67 hx hby at_110 (by decide) (pc' := 131) (by decide) ?_
    refine g_aloadN X67 hx hby at_131 rfl rfl (rfl : 131 + 1 = 132) ?_
    have f69 : Fld Z h63 wCREATE_TREE "com/example/coppice/coppice/log/Entry$Kind" "_creates" "Lcom/example/coppice/coppice/revision/TreeKind$Layout;" (.ref u_CREATE_TREE_creates) := (Fld.other W63 (Fld.other W59 (Fld.other W55 (Fld.other W51 (Fld.other W47 (Fld.other W43 (Fld.other W39 (Fld.other W35 (Fld.other W31 (Fld.other W27 (Fld.other W23 (Fld.ext E9 hp25) (Or.inl ne10)) (Or.inl ne10)) (Or.inl ne10)) (Or.inl ne10)) (Or.inl ne10)) (Or.inl ne10)) (Or.inl ne10)) (Or.inl ne10)) (Or.inl ne10)) (Or.inl ne10)) (Or.inl ne10))
    have f70 : Exa Z h63 wCREATE_TREE "com/example/coppice/coppice/log/Entry$Kind" := (Exa.wr W63 (Exa.wr W59 (Exa.wr W55 (Exa.wr W51 (Exa.wr W47 (Exa.wr W43 (Exa.wr W39 (Exa.wr W35 (Exa.wr W31 (Exa.wr W27 (Exa.wr W23 f24)))))))))))
    obtain ⟨cq68, kq68, q68a, q68b, q68c⟩ := isOf hZ e67 f70
    obtain ⟨_, _, ⟨T68, L68, k68, n68⟩, -, X68, ⟨Lc68, hQ68, l68, y68, z68⟩, st68⟩ := X67.virtualBack hx (y := (⟨"com/example/coppice/coppice/log/Entry$Kind", "role", "()Lcom/example/coppice/coppice/log/Entry$Role;"⟩ : MethodName)) (z := (⟨"com/example/coppice/coppice/log/Entry$Kind", "role", "()Lcom/example/coppice/coppice/log/Entry$Role;"⟩ : MethodName)) hown (mvT hZ (hw _ (List.mem_of_getElem? (i := 30) rfl))) (mvT hZ (hw _ (List.mem_of_getElem? (i := 31) rfl))) (notFace_of_selects (args := #[]) (mvT hZ (hw _ (List.mem_of_getElem? (i := 33) rfl)))) (mvT hZ (hw _ (List.mem_of_getElem? (i := 33) rfl))) (mvT hZ (hw _ (List.mem_of_getElem? (i := 32) rfl))) (by decide) (backOf (W := 0) (rm_roC l Z aT hw [] wCREATE_TREE u_CREATE_TREE_creates wCREATION h63 n0 Z63 f69 f66) hZ (hw _ (List.mem_of_getElem? (i := 34) rfl)) (hw _ (List.mem_of_getElem? (i := 3) rfl)) (by decide) (by decide)) q68a q68c (g := (mkF m 132 #[.val (.int x0), .val (.ref b9), .val (.int (0 : Int32)), .val (.ref wCREATE_TREE), .val (.ref wCREATION)] [(.ref wCREATE_TREE)])) rfl (by rw [hml]; rfl) (Steps.refl _) (argsL := []) (rest := []) (lenOf pd0 rfl) rfl (by show 2 * 0 + _ ≤ _; exact Nat.le_of_eq rfl) (hb hby at_132) (fun _ _ => ⟨rfl, e67, (by decide : 1 + 0 ≤ _), (by decide : 11 + 0 ≤ _)⟩)
    dsimp only [Pt.U, Pt.locs, Pt.cells, Pt.slots] at X68 l68 y68 z68 st68 hQ68
    subst l68 y68 z68
    obtain ⟨rfl, N68q, eq68⟩ := hQ68
    have N68 := Fr.app N63 N68q
    refine own_tr st68 ?_
    show own_Got p e below _ T68 (mkF m 135 #[.val (.int x0), .val (.ref b9), .val (.int (0 : Int32)), .val (.ref wCREATE_TREE), .val (.ref wCREATION)] [(.ref wCREATION)])
    refine g_aload X68 hx hby at_135 rfl rfl (rfl : 135 + 2 = 137) ?_
    refine g_acmp X68 hx hby (pc' := 140) true at_137 rfl rfl (decide_eq_true rfl) (by decide) (by decide) ?_
    refine g_iconst X68 hx hby (1 : Int32) at_140 (by decide) (rfl : 140 + 1 = 141) ?_
    refine g_goto X68 hx hby at_141 (by decide) (pc' := 145) (by decide) ?_
    refine own_retN X68 hx hby hlk (t := .boolean) hrt (by simp) at_145 (by decide) (by decide) ?_
    show Q_law Z x0 wCREATE_TREE wAPPEND_CHILD wDELETE_CHILD wPUT_ATTRIBUTE wDELETE_ATTRIBUTE wCOMMIT wPUSH_ROOT wCREATE_APPEND_TREE wCREATE_KEYED_TREE wINSERT_NODE wDELETE_NODE wCREATION wCOMMIT_POINT wOPERATION u_CREATE_TREE_creates u_APPEND_CHILD_operation u_DELETE_CHILD_operation u_PUT_ATTRIBUTE_operation u_DELETE_ATTRIBUTE_operation u_PUSH_ROOT_operation u_CREATE_APPEND_TREE_creates u_CREATE_KEYED_TREE_creates u_INSERT_NODE_operation u_DELETE_NODE_operation h0 n0 _ T68.heap _
    exact ⟨rfl, N68⟩
  · rw [hk65]
    refine g_aloadN X63 hx hby at_85 rfl rfl (rfl : 85 + 1 = 86) ?_
    refine g_iloadN X63 hx hby at_86 rfl (rfl : 86 + 1 = 87) ?_
    refine g_aaload X63 hx hby hZ e63 (v := (.ref wAPPEND_CHILD)) V63' rfl ⟨by decide, by decide⟩ rfl at_87 (rfl : 87 + 1 = 88) ?_
    refine g_astoreN X63 hx hby #[.val (.int x0), .val (.ref b9), .val (.int (1 : Int32)), .val (.ref wAPPEND_CHILD), .unset] at_88 rfl rfl (rfl : 88 + 1 = 89) ?_
    refine g_iloadN X63 hx hby at_89 rfl (rfl : 89 + 1 = 90) ?_
    refine g_ifF X63 hx hby at_90 ((if0 _ _).trans (feq (by decide : ¬ ((1 : Int32) = (0 : Int32)))).1) (rfl : 90 + 3 = 93) ?_
    refine g_iloadN X63 hx hby at_93 rfl (rfl : 93 + 1 = 94) ?_
    refine g_bipush X63 hx hby (7 : Int32) at_94 (by decide) (rfl : 94 + 2 = 96) ?_
    refine g_icF X63 hx hby at_96 (feq (by decide : ¬ ((1 : Int32) = (7 : Int32)))).1 (rfl : 96 + 3 = 99) ?_
    refine g_iloadN X63 hx hby at_99 rfl (rfl : 99 + 1 = 100) ?_
    refine g_bipush X63 hx hby (8 : Int32) at_100 (by decide) (rfl : 100 + 2 = 102) ?_
    refine g_icT X63 hx hby at_102 (feq (by decide : ¬ ((1 : Int32) = (8 : Int32)))).2 (by decide) (pc' := 113) (by decide) ?_
    refine g_iloadN X63 hx hby at_113 rfl (rfl : 113 + 1 = 114) ?_
    refine g_iconst X63 hx hby (5 : Int32) at_114 (by decide) (rfl : 114 + 1 = 115) ?_
    refine g_icT X63 hx hby at_115 (feq (by decide : ¬ ((1 : Int32) = (5 : Int32)))).2 (by decide) (pc' := 126) (by decide) ?_
    have f71 : Sta Z h63 "com/example/coppice/coppice/log/Entry$Role" "OPERATION" "Lcom/example/coppice/coppice/log/Entry$Role;" (.ref wOPERATION) := (Sta.wr W63 (Sta.wr W59 (Sta.wr W55 (Sta.wr W51 (Sta.wr W47 (Sta.wr W43 (Sta.wr W39 (Sta.wr W35 (Sta.wr W31 (Sta.wr W27 (Sta.wr W23 (Sta.ext E9 hp24))))))))))))
    obtain ⟨T72, X72, e72, st72⟩ := getS2 X63 hx hZ hown (host := "") (Or.inl (hw _ (List.mem_of_getElem? (i := 40) rfl))) Via.refl e63 f71 (g := (mkF m 126 #[.val (.int x0), .val (.ref b9), .val (.int (1 : Int32)), .val (.ref wAPPEND_CHILD), .unset] [])) rfl (hb hby at_126)
    refine own_go st72 ?_
    show own_Got p e below _ T72 (mkF m 129 #[.val (.int x0), .val (.ref b9), .val (.int (1 : Int32)), .val (.ref wAPPEND_CHILD), .unset] [(.ref wOPERATION)])
    refine g_astore X72 hx hby #[.val (.int x0), .val (.ref b9), .val (.int (1 : Int32)), .val (.ref wAPPEND_CHILD), .val (.ref wOPERATION)] at_129 rfl rfl (rfl : 129 + 2 = 131) ?_
    refine g_aloadN X72 hx hby at_131 rfl rfl (rfl : 131 + 1 = 132) ?_
    have f74 : Fld Z h63 wAPPEND_CHILD "com/example/coppice/coppice/log/Entry$Kind" "_creates" "Lcom/example/coppice/coppice/revision/TreeKind$Layout;" .null := (Fld.other W63 (Fld.other W59 (Fld.other W55 (Fld.other W51 (Fld.other W47 (Fld.other W43 (Fld.other W39 (Fld.other W35 (Fld.other W31 (Fld.other W27 (Fld.other W23 (Fld.ext E9 hp27) (Or.inl ne11)) (Or.inl ne11)) (Or.inl ne11)) (Or.inl ne11)) (Or.inl ne11)) (Or.inl ne11)) (Or.inl ne11)) (Or.inl ne11)) (Or.inl ne11)) (Or.inl ne11)) (Or.inl ne11))
    have f75 : Fld Z h63 wAPPEND_CHILD "com/example/coppice/coppice/log/Entry$Kind" "_operation" "Lcom/example/coppice/coppice/tree/Operation$Kind;" (.ref u_APPEND_CHILD_operation) := (Fld.other W63 (Fld.other W59 (Fld.other W55 (Fld.other W51 (Fld.other W47 (Fld.other W43 (Fld.other W39 (Fld.other W35 (Fld.other W31 (Fld.other W27 (Fld.other W23 (Fld.ext E9 hp28) (Or.inl ne11)) (Or.inl ne11)) (Or.inl ne11)) (Or.inl ne11)) (Or.inl ne11)) (Or.inl ne11)) (Or.inl ne11)) (Or.inl ne11)) (Or.inl ne11)) (Or.inl ne11)) (Or.inl ne11))
    have f76 : Exa Z h63 wAPPEND_CHILD "com/example/coppice/coppice/log/Entry$Kind" := (Exa.wr W63 (Exa.wr W59 (Exa.wr W55 (Exa.wr W51 (Exa.wr W47 (Exa.wr W43 (Exa.wr W39 (Exa.wr W35 (Exa.wr W31 (Exa.wr W27 f28))))))))))
    obtain ⟨cq73, kq73, q73a, q73b, q73c⟩ := isOf hZ e72 f76
    obtain ⟨_, _, ⟨T73, L73, k73, n73⟩, -, X73, ⟨Lc73, hQ73, l73, y73, z73⟩, st73⟩ := X72.virtualBack hx (y := (⟨"com/example/coppice/coppice/log/Entry$Kind", "role", "()Lcom/example/coppice/coppice/log/Entry$Role;"⟩ : MethodName)) (z := (⟨"com/example/coppice/coppice/log/Entry$Kind", "role", "()Lcom/example/coppice/coppice/log/Entry$Role;"⟩ : MethodName)) hown (mvT hZ (hw _ (List.mem_of_getElem? (i := 30) rfl))) (mvT hZ (hw _ (List.mem_of_getElem? (i := 31) rfl))) (notFace_of_selects (args := #[]) (mvT hZ (hw _ (List.mem_of_getElem? (i := 33) rfl)))) (mvT hZ (hw _ (List.mem_of_getElem? (i := 33) rfl))) (mvT hZ (hw _ (List.mem_of_getElem? (i := 32) rfl))) (by decide) (backOf (W := 0) (rm_roO l Z aT hw [] wAPPEND_CHILD u_APPEND_CHILD_operation wOPERATION h63 n0 Z63 f74 f75 f71) hZ (hw _ (List.mem_of_getElem? (i := 34) rfl)) (hw _ (List.mem_of_getElem? (i := 3) rfl)) (by decide) (by decide)) q73a q73c (g := (mkF m 132 #[.val (.int x0), .val (.ref b9), .val (.int (1 : Int32)), .val (.ref wAPPEND_CHILD), .val (.ref wOPERATION)] [(.ref wAPPEND_CHILD)])) rfl (by rw [hml]; rfl) (Steps.refl _) (argsL := []) (rest := []) (lenOf pd0 rfl) rfl (by show 2 * 0 + _ ≤ _; exact Nat.le_of_eq rfl) (hb hby at_132) (fun _ _ => ⟨rfl, e72, (by decide : 1 + 0 ≤ _), (by decide : 11 + 0 ≤ _)⟩)
    dsimp only [Pt.U, Pt.locs, Pt.cells, Pt.slots] at X73 l73 y73 z73 st73 hQ73
    subst l73 y73 z73
    obtain ⟨rfl, N73q, eq73⟩ := hQ73
    have N73 := Fr.app N63 N73q
    refine own_tr st73 ?_
    show own_Got p e below _ T73 (mkF m 135 #[.val (.int x0), .val (.ref b9), .val (.int (1 : Int32)), .val (.ref wAPPEND_CHILD), .val (.ref wOPERATION)] [(.ref wOPERATION)])
    refine g_aload X73 hx hby at_135 rfl rfl (rfl : 135 + 2 = 137) ?_
    refine g_acmp X73 hx hby (pc' := 140) true at_137 rfl rfl (decide_eq_true rfl) (by decide) (by decide) ?_
    refine g_iconst X73 hx hby (1 : Int32) at_140 (by decide) (rfl : 140 + 1 = 141) ?_
    refine g_goto X73 hx hby at_141 (by decide) (pc' := 145) (by decide) ?_
    refine own_retN X73 hx hby hlk (t := .boolean) hrt (by simp) at_145 (by decide) (by decide) ?_
    show Q_law Z x0 wCREATE_TREE wAPPEND_CHILD wDELETE_CHILD wPUT_ATTRIBUTE wDELETE_ATTRIBUTE wCOMMIT wPUSH_ROOT wCREATE_APPEND_TREE wCREATE_KEYED_TREE wINSERT_NODE wDELETE_NODE wCREATION wCOMMIT_POINT wOPERATION u_CREATE_TREE_creates u_APPEND_CHILD_operation u_DELETE_CHILD_operation u_PUT_ATTRIBUTE_operation u_DELETE_ATTRIBUTE_operation u_PUSH_ROOT_operation u_CREATE_APPEND_TREE_creates u_CREATE_KEYED_TREE_creates u_INSERT_NODE_operation u_DELETE_NODE_operation h0 n0 _ T73.heap _
    exact ⟨rfl, N73⟩
  · rw [hk65]
    refine g_aloadN X63 hx hby at_85 rfl rfl (rfl : 85 + 1 = 86) ?_
    refine g_iloadN X63 hx hby at_86 rfl (rfl : 86 + 1 = 87) ?_
    refine g_aaload X63 hx hby hZ e63 (v := (.ref wDELETE_CHILD)) V63' rfl ⟨by decide, by decide⟩ rfl at_87 (rfl : 87 + 1 = 88) ?_
    refine g_astoreN X63 hx hby #[.val (.int x0), .val (.ref b9), .val (.int (2 : Int32)), .val (.ref wDELETE_CHILD), .unset] at_88 rfl rfl (rfl : 88 + 1 = 89) ?_
    refine g_iloadN X63 hx hby at_89 rfl (rfl : 89 + 1 = 90) ?_
    refine g_ifF X63 hx hby at_90 ((if0 _ _).trans (feq (by decide : ¬ ((2 : Int32) = (0 : Int32)))).1) (rfl : 90 + 3 = 93) ?_
    refine g_iloadN X63 hx hby at_93 rfl (rfl : 93 + 1 = 94) ?_
    refine g_bipush X63 hx hby (7 : Int32) at_94 (by decide) (rfl : 94 + 2 = 96) ?_
    refine g_icF X63 hx hby at_96 (feq (by decide : ¬ ((2 : Int32) = (7 : Int32)))).1 (rfl : 96 + 3 = 99) ?_
    refine g_iloadN X63 hx hby at_99 rfl (rfl : 99 + 1 = 100) ?_
    refine g_bipush X63 hx hby (8 : Int32) at_100 (by decide) (rfl : 100 + 2 = 102) ?_
    refine g_icT X63 hx hby at_102 (feq (by decide : ¬ ((2 : Int32) = (8 : Int32)))).2 (by decide) (pc' := 113) (by decide) ?_
    refine g_iloadN X63 hx hby at_113 rfl (rfl : 113 + 1 = 114) ?_
    refine g_iconst X63 hx hby (5 : Int32) at_114 (by decide) (rfl : 114 + 1 = 115) ?_
    refine g_icT X63 hx hby at_115 (feq (by decide : ¬ ((2 : Int32) = (5 : Int32)))).2 (by decide) (pc' := 126) (by decide) ?_
    have f77 : Sta Z h63 "com/example/coppice/coppice/log/Entry$Role" "OPERATION" "Lcom/example/coppice/coppice/log/Entry$Role;" (.ref wOPERATION) := (Sta.wr W63 (Sta.wr W59 (Sta.wr W55 (Sta.wr W51 (Sta.wr W47 (Sta.wr W43 (Sta.wr W39 (Sta.wr W35 (Sta.wr W31 (Sta.wr W27 (Sta.wr W23 (Sta.ext E9 hp24))))))))))))
    obtain ⟨T78, X78, e78, st78⟩ := getS2 X63 hx hZ hown (host := "") (Or.inl (hw _ (List.mem_of_getElem? (i := 40) rfl))) Via.refl e63 f77 (g := (mkF m 126 #[.val (.int x0), .val (.ref b9), .val (.int (2 : Int32)), .val (.ref wDELETE_CHILD), .unset] [])) rfl (hb hby at_126)
    refine own_go st78 ?_
    show own_Got p e below _ T78 (mkF m 129 #[.val (.int x0), .val (.ref b9), .val (.int (2 : Int32)), .val (.ref wDELETE_CHILD), .unset] [(.ref wOPERATION)])
    refine g_astore X78 hx hby #[.val (.int x0), .val (.ref b9), .val (.int (2 : Int32)), .val (.ref wDELETE_CHILD), .val (.ref wOPERATION)] at_129 rfl rfl (rfl : 129 + 2 = 131) ?_
    refine g_aloadN X78 hx hby at_131 rfl rfl (rfl : 131 + 1 = 132) ?_
    have f80 : Fld Z h63 wDELETE_CHILD "com/example/coppice/coppice/log/Entry$Kind" "_creates" "Lcom/example/coppice/coppice/revision/TreeKind$Layout;" .null := (Fld.other W63 (Fld.other W59 (Fld.other W55 (Fld.other W51 (Fld.other W47 (Fld.other W43 (Fld.other W39 (Fld.other W35 (Fld.other W31 (Fld.other W27 (Fld.other W23 (Fld.ext E9 hp29) (Or.inl ne12)) (Or.inl ne12)) (Or.inl ne12)) (Or.inl ne12)) (Or.inl ne12)) (Or.inl ne12)) (Or.inl ne12)) (Or.inl ne12)) (Or.inl ne12)) (Or.inl ne12)) (Or.inl ne12))
    have f81 : Fld Z h63 wDELETE_CHILD "com/example/coppice/coppice/log/Entry$Kind" "_operation" "Lcom/example/coppice/coppice/tree/Operation$Kind;" (.ref u_DELETE_CHILD_operation) := (Fld.other W63 (Fld.other W59 (Fld.other W55 (Fld.other W51 (Fld.other W47 (Fld.other W43 (Fld.other W39 (Fld.other W35 (Fld.other W31 (Fld.other W27 (Fld.other W23 (Fld.ext E9 hp30) (Or.inl ne12)) (Or.inl ne12)) (Or.inl ne12)) (Or.inl ne12)) (Or.inl ne12)) (Or.inl ne12)) (Or.inl ne12)) (Or.inl ne12)) (Or.inl ne12)) (Or.inl ne12)) (Or.inl ne12))
    have f82 : Exa Z h63 wDELETE_CHILD "com/example/coppice/coppice/log/Entry$Kind" := (Exa.wr W63 (Exa.wr W59 (Exa.wr W55 (Exa.wr W51 (Exa.wr W47 (Exa.wr W43 (Exa.wr W39 (Exa.wr W35 (Exa.wr W31 f32)))))))))
    obtain ⟨cq79, kq79, q79a, q79b, q79c⟩ := isOf hZ e78 f82
    obtain ⟨_, _, ⟨T79, L79, k79, n79⟩, -, X79, ⟨Lc79, hQ79, l79, y79, z79⟩, st79⟩ := X78.virtualBack hx (y := (⟨"com/example/coppice/coppice/log/Entry$Kind", "role", "()Lcom/example/coppice/coppice/log/Entry$Role;"⟩ : MethodName)) (z := (⟨"com/example/coppice/coppice/log/Entry$Kind", "role", "()Lcom/example/coppice/coppice/log/Entry$Role;"⟩ : MethodName)) hown (mvT hZ (hw _ (List.mem_of_getElem? (i := 30) rfl))) (mvT hZ (hw _ (List.mem_of_getElem? (i := 31) rfl))) (notFace_of_selects (args := #[]) (mvT hZ (hw _ (List.mem_of_getElem? (i := 33) rfl)))) (mvT hZ (hw _ (List.mem_of_getElem? (i := 33) rfl))) (mvT hZ (hw _ (List.mem_of_getElem? (i := 32) rfl))) (by decide) (backOf (W := 0) (rm_roO l Z aT hw [] wDELETE_CHILD u_DELETE_CHILD_operation wOPERATION h63 n0 Z63 f80 f81 f77) hZ (hw _ (List.mem_of_getElem? (i := 34) rfl)) (hw _ (List.mem_of_getElem? (i := 3) rfl)) (by decide) (by decide)) q79a q79c (g := (mkF m 132 #[.val (.int x0), .val (.ref b9), .val (.int (2 : Int32)), .val (.ref wDELETE_CHILD), .val (.ref wOPERATION)] [(.ref wDELETE_CHILD)])) rfl (by rw [hml]; rfl) (Steps.refl _) (argsL := []) (rest := []) (lenOf pd0 rfl) rfl (by show 2 * 0 + _ ≤ _; exact Nat.le_of_eq rfl) (hb hby at_132) (fun _ _ => ⟨rfl, e78, (by decide : 1 + 0 ≤ _), (by decide : 11 + 0 ≤ _)⟩)
    dsimp only [Pt.U, Pt.locs, Pt.cells, Pt.slots] at X79 l79 y79 z79 st79 hQ79
    subst l79 y79 z79
    obtain ⟨rfl, N79q, eq79⟩ := hQ79
    have N79 := Fr.app N63 N79q
    refine own_tr st79 ?_
    show own_Got p e below _ T79 (mkF m 135 #[.val (.int x0), .val (.ref b9), .val (.int (2 : Int32)), .val (.ref wDELETE_CHILD), .val (.ref wOPERATION)] [(.ref wOPERATION)])
    refine g_aload X79 hx hby at_135 rfl rfl (rfl : 135 + 2 = 137) ?_
    refine g_acmp X79 hx hby (pc' := 140) true at_137 rfl rfl (decide_eq_true rfl) (by decide) (by decide) ?_
    refine g_iconst X79 hx hby (1 : Int32) at_140 (by decide) (rfl : 140 + 1 = 141) ?_
    refine g_goto X79 hx hby at_141 (by decide) (pc' := 145) (by decide) ?_
    refine own_retN X79 hx hby hlk (t := .boolean) hrt (by simp) at_145 (by decide) (by decide) ?_
    show Q_law Z x0 wCREATE_TREE wAPPEND_CHILD wDELETE_CHILD wPUT_ATTRIBUTE wDELETE_ATTRIBUTE wCOMMIT wPUSH_ROOT wCREATE_APPEND_TREE wCREATE_KEYED_TREE wINSERT_NODE wDELETE_NODE wCREATION wCOMMIT_POINT wOPERATION u_CREATE_TREE_creates u_APPEND_CHILD_operation u_DELETE_CHILD_operation u_PUT_ATTRIBUTE_operation u_DELETE_ATTRIBUTE_operation u_PUSH_ROOT_operation u_CREATE_APPEND_TREE_creates u_CREATE_KEYED_TREE_creates u_INSERT_NODE_operation u_DELETE_NODE_operation h0 n0 _ T79.heap _
    exact ⟨rfl, N79⟩
  · rw [hk65]
    refine g_aloadN X63 hx hby at_85 rfl rfl (rfl : 85 + 1 = 86) ?_
    refine g_iloadN X63 hx hby at_86 rfl (rfl : 86 + 1 = 87) ?_
    refine g_aaload X63 hx hby hZ e63 (v := (.ref wPUT_ATTRIBUTE)) V63' rfl ⟨by decide, by decide⟩ rfl at_87 (rfl : 87 + 1 = 88) ?_
    refine g_astoreN X63 hx hby #[.val (.int x0), .val (.ref b9), .val (.int (3 : Int32)), .val (.ref wPUT_ATTRIBUTE), .unset] at_88 rfl rfl (rfl : 88 + 1 = 89) ?_
    refine g_iloadN X63 hx hby at_89 rfl (rfl : 89 + 1 = 90) ?_
    refine g_ifF X63 hx hby at_90 ((if0 _ _).trans (feq (by decide : ¬ ((3 : Int32) = (0 : Int32)))).1) (rfl : 90 + 3 = 93) ?_
    refine g_iloadN X63 hx hby at_93 rfl (rfl : 93 + 1 = 94) ?_
    refine g_bipush X63 hx hby (7 : Int32) at_94 (by decide) (rfl : 94 + 2 = 96) ?_
    refine g_icF X63 hx hby at_96 (feq (by decide : ¬ ((3 : Int32) = (7 : Int32)))).1 (rfl : 96 + 3 = 99) ?_
    refine g_iloadN X63 hx hby at_99 rfl (rfl : 99 + 1 = 100) ?_
    refine g_bipush X63 hx hby (8 : Int32) at_100 (by decide) (rfl : 100 + 2 = 102) ?_
    refine g_icT X63 hx hby at_102 (feq (by decide : ¬ ((3 : Int32) = (8 : Int32)))).2 (by decide) (pc' := 113) (by decide) ?_
    refine g_iloadN X63 hx hby at_113 rfl (rfl : 113 + 1 = 114) ?_
    refine g_iconst X63 hx hby (5 : Int32) at_114 (by decide) (rfl : 114 + 1 = 115) ?_
    refine g_icT X63 hx hby at_115 (feq (by decide : ¬ ((3 : Int32) = (5 : Int32)))).2 (by decide) (pc' := 126) (by decide) ?_
    have f83 : Sta Z h63 "com/example/coppice/coppice/log/Entry$Role" "OPERATION" "Lcom/example/coppice/coppice/log/Entry$Role;" (.ref wOPERATION) := (Sta.wr W63 (Sta.wr W59 (Sta.wr W55 (Sta.wr W51 (Sta.wr W47 (Sta.wr W43 (Sta.wr W39 (Sta.wr W35 (Sta.wr W31 (Sta.wr W27 (Sta.wr W23 (Sta.ext E9 hp24))))))))))))
    obtain ⟨T84, X84, e84, st84⟩ := getS2 X63 hx hZ hown (host := "") (Or.inl (hw _ (List.mem_of_getElem? (i := 40) rfl))) Via.refl e63 f83 (g := (mkF m 126 #[.val (.int x0), .val (.ref b9), .val (.int (3 : Int32)), .val (.ref wPUT_ATTRIBUTE), .unset] [])) rfl (hb hby at_126)
    refine own_go st84 ?_
    show own_Got p e below _ T84 (mkF m 129 #[.val (.int x0), .val (.ref b9), .val (.int (3 : Int32)), .val (.ref wPUT_ATTRIBUTE), .unset] [(.ref wOPERATION)])
    refine g_astore X84 hx hby #[.val (.int x0), .val (.ref b9), .val (.int (3 : Int32)), .val (.ref wPUT_ATTRIBUTE), .val (.ref wOPERATION)] at_129 rfl rfl (rfl : 129 + 2 = 131) ?_
    refine g_aloadN X84 hx hby at_131 rfl rfl (rfl : 131 + 1 = 132) ?_
    have f86 : Fld Z h63 wPUT_ATTRIBUTE "com/example/coppice/coppice/log/Entry$Kind" "_creates" "Lcom/example/coppice/coppice/revision/TreeKind$Layout;" .null := (Fld.other W63 (Fld.other W59 (Fld.other W55 (Fld.other W51 (Fld.other W47 (Fld.other W43 (Fld.other W39 (Fld.other W35 (Fld.other W31 (Fld.other W27 (Fld.other W23 (Fld.ext E9 hp31) (Or.inl ne13)) (Or.inl ne13)) (Or.inl ne13)) (Or.inl ne13)) (Or.inl ne13)) (Or.inl ne13)) (Or.inl ne13)) (Or.inl ne13)) (Or.inl ne13)) (Or.inl ne13)) (Or.inl ne13))
    have f87 : Fld Z h63 wPUT_ATTRIBUTE "com/example/coppice/coppice/log/Entry$Kind" "_operation" "Lcom/example/coppice/coppice/tree/Operation$Kind;" (.ref u_PUT_ATTRIBUTE_operation) := (Fld.other W63 (Fld.other W59 (Fld.other W55 (Fld.other W51 (Fld.other W47 (Fld.other W43 (Fld.other W39 (Fld.other W35 (Fld.other W31 (Fld.other W27 (Fld.other W23 (Fld.ext E9 hp32) (Or.inl ne13)) (Or.inl ne13)) (Or.inl ne13)) (Or.inl ne13)) (Or.inl ne13)) (Or.inl ne13)) (Or.inl ne13)) (Or.inl ne13)) (Or.inl ne13)) (Or.inl ne13)) (Or.inl ne13))
    have f88 : Exa Z h63 wPUT_ATTRIBUTE "com/example/coppice/coppice/log/Entry$Kind" := (Exa.wr W63 (Exa.wr W59 (Exa.wr W55 (Exa.wr W51 (Exa.wr W47 (Exa.wr W43 (Exa.wr W39 (Exa.wr W35 f36))))))))
    obtain ⟨cq85, kq85, q85a, q85b, q85c⟩ := isOf hZ e84 f88
    obtain ⟨_, _, ⟨T85, L85, k85, n85⟩, -, X85, ⟨Lc85, hQ85, l85, y85, z85⟩, st85⟩ := X84.virtualBack hx (y := (⟨"com/example/coppice/coppice/log/Entry$Kind", "role", "()Lcom/example/coppice/coppice/log/Entry$Role;"⟩ : MethodName)) (z := (⟨"com/example/coppice/coppice/log/Entry$Kind", "role", "()Lcom/example/coppice/coppice/log/Entry$Role;"⟩ : MethodName)) hown (mvT hZ (hw _ (List.mem_of_getElem? (i := 30) rfl))) (mvT hZ (hw _ (List.mem_of_getElem? (i := 31) rfl))) (notFace_of_selects (args := #[]) (mvT hZ (hw _ (List.mem_of_getElem? (i := 33) rfl)))) (mvT hZ (hw _ (List.mem_of_getElem? (i := 33) rfl))) (mvT hZ (hw _ (List.mem_of_getElem? (i := 32) rfl))) (by decide) (backOf (W := 0) (rm_roO l Z aT hw [] wPUT_ATTRIBUTE u_PUT_ATTRIBUTE_operation wOPERATION h63 n0 Z63 f86 f87 f83) hZ (hw _ (List.mem_of_getElem? (i := 34) rfl)) (hw _ (List.mem_of_getElem? (i := 3) rfl)) (by decide) (by decide)) q85a q85c (g := (mkF m 132 #[.val (.int x0), .val (.ref b9), .val (.int (3 : Int32)), .val (.ref wPUT_ATTRIBUTE), .val (.ref wOPERATION)] [(.ref wPUT_ATTRIBUTE)])) rfl (by rw [hml]; rfl) (Steps.refl _) (argsL := []) (rest := []) (lenOf pd0 rfl) rfl (by show 2 * 0 + _ ≤ _; exact Nat.le_of_eq rfl) (hb hby at_132) (fun _ _ => ⟨rfl, e84, (by decide : 1 + 0 ≤ _), (by decide : 11 + 0 ≤ _)⟩)
    dsimp only [Pt.U, Pt.locs, Pt.cells, Pt.slots] at X85 l85 y85 z85 st85 hQ85
    subst l85 y85 z85
    obtain ⟨rfl, N85q, eq85⟩ := hQ85
    have N85 := Fr.app N63 N85q
    refine own_tr st85 ?_
    show own_Got p e below _ T85 (mkF m 135 #[.val (.int x0), .val (.ref b9), .val (.int (3 : Int32)), .val (.ref wPUT_ATTRIBUTE), .val (.ref wOPERATION)] [(.ref wOPERATION)])
    refine g_aload X85 hx hby at_135 rfl rfl (rfl : 135 + 2 = 137) ?_
    refine g_acmp X85 hx hby (pc' := 140) true at_137 rfl rfl (decide_eq_true rfl) (by decide) (by decide) ?_
    refine g_iconst X85 hx hby (1 : Int32) at_140 (by decide) (rfl : 140 + 1 = 141) ?_
    refine g_goto X85 hx hby at_141 (by decide) (pc' := 145) (by decide) ?_
    refine own_retN X85 hx hby hlk (t := .boolean) hrt (by simp) at_145 (by decide) (by decide) ?_
    show Q_law Z x0 wCREATE_TREE wAPPEND_CHILD wDELETE_CHILD wPUT_ATTRIBUTE wDELETE_ATTRIBUTE wCOMMIT wPUSH_ROOT wCREATE_APPEND_TREE wCREATE_KEYED_TREE wINSERT_NODE wDELETE_NODE wCREATION wCOMMIT_POINT wOPERATION u_CREATE_TREE_creates u_APPEND_CHILD_operation u_DELETE_CHILD_operation u_PUT_ATTRIBUTE_operation u_DELETE_ATTRIBUTE_operation u_PUSH_ROOT_operation u_CREATE_APPEND_TREE_creates u_CREATE_KEYED_TREE_creates u_INSERT_NODE_operation u_DELETE_NODE_operation h0 n0 _ T85.heap _
    exact ⟨rfl, N85⟩
  · rw [hk65]
    refine g_aloadN X63 hx hby at_85 rfl rfl (rfl : 85 + 1 = 86) ?_
    refine g_iloadN X63 hx hby at_86 rfl (rfl : 86 + 1 = 87) ?_
    refine g_aaload X63 hx hby hZ e63 (v := (.ref wDELETE_ATTRIBUTE)) V63' rfl ⟨by decide, by decide⟩ rfl at_87 (rfl : 87 + 1 = 88) ?_
    refine g_astoreN X63 hx hby #[.val (.int x0), .val (.ref b9), .val (.int (4 : Int32)), .val (.ref wDELETE_ATTRIBUTE), .unset] at_88 rfl rfl (rfl : 88 + 1 = 89) ?_
    refine g_iloadN X63 hx hby at_89 rfl (rfl : 89 + 1 = 90) ?_
    refine g_ifF X63 hx hby at_90 ((if0 _ _).trans (feq (by decide : ¬ ((4 : Int32) = (0 : Int32)))).1) (rfl : 90 + 3 = 93) ?_
    refine g_iloadN X63 hx hby at_93 rfl (rfl : 93 + 1 = 94) ?_
    refine g_bipush X63 hx hby (7 : Int32) at_94 (by decide) (rfl : 94 + 2 = 96) ?_
    refine g_icF X63 hx hby at_96 (feq (by decide : ¬ ((4 : Int32) = (7 : Int32)))).1 (rfl : 96 + 3 = 99) ?_
    refine g_iloadN X63 hx hby at_99 rfl (rfl : 99 + 1 = 100) ?_
    refine g_bipush X63 hx hby (8 : Int32) at_100 (by decide) (rfl : 100 + 2 = 102) ?_
    refine g_icT X63 hx hby at_102 (feq (by decide : ¬ ((4 : Int32) = (8 : Int32)))).2 (by decide) (pc' := 113) (by decide) ?_
    refine g_iloadN X63 hx hby at_113 rfl (rfl : 113 + 1 = 114) ?_
    refine g_iconst X63 hx hby (5 : Int32) at_114 (by decide) (rfl : 114 + 1 = 115) ?_
    refine g_icT X63 hx hby at_115 (feq (by decide : ¬ ((4 : Int32) = (5 : Int32)))).2 (by decide) (pc' := 126) (by decide) ?_
    have f89 : Sta Z h63 "com/example/coppice/coppice/log/Entry$Role" "OPERATION" "Lcom/example/coppice/coppice/log/Entry$Role;" (.ref wOPERATION) := (Sta.wr W63 (Sta.wr W59 (Sta.wr W55 (Sta.wr W51 (Sta.wr W47 (Sta.wr W43 (Sta.wr W39 (Sta.wr W35 (Sta.wr W31 (Sta.wr W27 (Sta.wr W23 (Sta.ext E9 hp24))))))))))))
    obtain ⟨T90, X90, e90, st90⟩ := getS2 X63 hx hZ hown (host := "") (Or.inl (hw _ (List.mem_of_getElem? (i := 40) rfl))) Via.refl e63 f89 (g := (mkF m 126 #[.val (.int x0), .val (.ref b9), .val (.int (4 : Int32)), .val (.ref wDELETE_ATTRIBUTE), .unset] [])) rfl (hb hby at_126)
    refine own_go st90 ?_
    show own_Got p e below _ T90 (mkF m 129 #[.val (.int x0), .val (.ref b9), .val (.int (4 : Int32)), .val (.ref wDELETE_ATTRIBUTE), .unset] [(.ref wOPERATION)])
    refine g_astore X90 hx hby #[.val (.int x0), .val (.ref b9), .val (.int (4 : Int32)), .val (.ref wDELETE_ATTRIBUTE), .val (.ref wOPERATION)] at_129 rfl rfl (rfl : 129 + 2 = 131) ?_
    refine g_aloadN X90 hx hby at_131 rfl rfl (rfl : 131 + 1 = 132) ?_
    have f92 : Fld Z h63 wDELETE_ATTRIBUTE "com/example/coppice/coppice/log/Entry$Kind" "_creates" "Lcom/example/coppice/coppice/revision/TreeKind$Layout;" .null := (Fld.other W63 (Fld.other W59 (Fld.other W55 (Fld.other W51 (Fld.other W47 (Fld.other W43 (Fld.other W39 (Fld.other W35 (Fld.other W31 (Fld.other W27 (Fld.other W23 (Fld.ext E9 hp33) (Or.inl ne14)) (Or.inl ne14)) (Or.inl ne14)) (Or.inl ne14)) (Or.inl ne14)) (Or.inl ne14)) (Or.inl ne14)) (Or.inl ne14)) (Or.inl ne14)) (Or.inl ne14)) (Or.inl ne14))
    have f93 : Fld Z h63 wDELETE_ATTRIBUTE "com/example/coppice/coppice/log/Entry$Kind" "_operation" "Lcom/example/coppice/coppice/tree/Operation$Kind;" (.ref u_DELETE_ATTRIBUTE_operation) := (Fld.other W63 (Fld.other W59 (Fld.other W55 (Fld.other W51 (Fld.other W47 (Fld.other W43 (Fld.other W39 (Fld.other W35 (Fld.other W31 (Fld.other W27 (Fld.other W23 (Fld.ext E9 hp34) (Or.inl ne14)) (Or.inl ne14)) (Or.inl ne14)) (Or.inl ne14)) (Or.inl ne14)) (Or.inl ne14)) (Or.inl ne14)) (Or.inl ne14)) (Or.inl ne14)) (Or.inl ne14)) (Or.inl ne14))
    have f94 : Exa Z h63 wDELETE_ATTRIBUTE "com/example/coppice/coppice/log/Entry$Kind" := (Exa.wr W63 (Exa.wr W59 (Exa.wr W55 (Exa.wr W51 (Exa.wr W47 (Exa.wr W43 (Exa.wr W39 f40)))))))
    obtain ⟨cq91, kq91, q91a, q91b, q91c⟩ := isOf hZ e90 f94
    obtain ⟨_, _, ⟨T91, L91, k91, n91⟩, -, X91, ⟨Lc91, hQ91, l91, y91, z91⟩, st91⟩ := X90.virtualBack hx (y := (⟨"com/example/coppice/coppice/log/Entry$Kind", "role", "()Lcom/example/coppice/coppice/log/Entry$Role;"⟩ : MethodName)) (z := (⟨"com/example/coppice/coppice/log/Entry$Kind", "role", "()Lcom/example/coppice/coppice/log/Entry$Role;"⟩ : MethodName)) hown (mvT hZ (hw _ (List.mem_of_getElem? (i := 30) rfl))) (mvT hZ (hw _ (List.mem_of_getElem? (i := 31) rfl))) (notFace_of_selects (args := #[]) (mvT hZ (hw _ (List.mem_of_getElem? (i := 33) rfl)))) (mvT hZ (hw _ (List.mem_of_getElem? (i := 33) rfl))) (mvT hZ (hw _ (List.mem_of_getElem? (i := 32) rfl))) (by decide) (backOf (W := 0) (rm_roO l Z aT hw [] wDELETE_ATTRIBUTE u_DELETE_ATTRIBUTE_operation wOPERATION h63 n0 Z63 f92 f93 f89) hZ (hw _ (List.mem_of_getElem? (i := 34) rfl)) (hw _ (List.mem_of_getElem? (i := 3) rfl)) (by decide) (by decide)) q91a q91c (g := (mkF m 132 #[.val (.int x0), .val (.ref b9), .val (.int (4 : Int32)), .val (.ref wDELETE_ATTRIBUTE), .val (.ref wOPERATION)] [(.ref wDELETE_ATTRIBUTE)])) rfl (by rw [hml]; rfl) (Steps.refl _) (argsL := []) (rest := []) (lenOf pd0 rfl) rfl (by show 2 * 0 + _ ≤ _; exact Nat.le_of_eq rfl) (hb hby at_132) (fun _ _ => ⟨rfl, e90, (by decide : 1 + 0 ≤ _), (by decide : 11 + 0 ≤ _)⟩)
    dsimp only [Pt.U, Pt.locs, Pt.cells, Pt.slots] at X91 l91 y91 z91 st91 hQ91
    subst l91 y91 z91
    obtain ⟨rfl, N91q, eq91⟩ := hQ91
    have N91 := Fr.app N63 N91q
    refine own_tr st91 ?_
    show own_Got p e below _ T91 (mkF m 135 #[.val (.int x0), .val (.ref b9), .val (.int (4 : Int32)), .val (.ref wDELETE_ATTRIBUTE), .val (.ref wOPERATION)] [(.ref wOPERATION)])
    refine g_aload X91 hx hby at_135 rfl rfl (rfl : 135 + 2 = 137) ?_
    refine g_acmp X91 hx hby (pc' := 140) true at_137 rfl rfl (decide_eq_true rfl) (by decide) (by decide) ?_
    refine g_iconst X91 hx hby (1 : Int32) at_140 (by decide) (rfl : 140 + 1 = 141) ?_
    refine g_goto X91 hx hby at_141 (by decide) (pc' := 145) (by decide) ?_
    refine own_retN X91 hx hby hlk (t := .boolean) hrt (by simp) at_145 (by decide) (by decide) ?_
    show Q_law Z x0 wCREATE_TREE wAPPEND_CHILD wDELETE_CHILD wPUT_ATTRIBUTE wDELETE_ATTRIBUTE wCOMMIT wPUSH_ROOT wCREATE_APPEND_TREE wCREATE_KEYED_TREE wINSERT_NODE wDELETE_NODE wCREATION wCOMMIT_POINT wOPERATION u_CREATE_TREE_creates u_APPEND_CHILD_operation u_DELETE_CHILD_operation u_PUT_ATTRIBUTE_operation u_DELETE_ATTRIBUTE_operation u_PUSH_ROOT_operation u_CREATE_APPEND_TREE_creates u_CREATE_KEYED_TREE_creates u_INSERT_NODE_operation u_DELETE_NODE_operation h0 n0 _ T91.heap _
    exact ⟨rfl, N91⟩
  · rw [hk65]
    refine g_aloadN X63 hx hby at_85 rfl rfl (rfl : 85 + 1 = 86) ?_
    refine g_iloadN X63 hx hby at_86 rfl (rfl : 86 + 1 = 87) ?_
    refine g_aaload X63 hx hby hZ e63 (v := (.ref wCOMMIT)) V63' rfl ⟨by decide, by decide⟩ rfl at_87 (rfl : 87 + 1 = 88) ?_
    refine g_astoreN X63 hx hby #[.val (.int x0), .val (.ref b9), .val (.int (5 : Int32)), .val (.ref wCOMMIT), .unset] at_88 rfl rfl (rfl : 88 + 1 = 89) ?_
    refine g_iloadN X63 hx hby at_89 rfl (rfl : 89 + 1 = 90) ?_
    refine g_ifF X63 hx hby at_90 ((if0 _ _).trans (feq (by decide : ¬ ((5 : Int32) = (0 : Int32)))).1) (rfl : 90 + 3 = 93) ?_
    refine g_iloadN X63 hx hby at_93 rfl (rfl : 93 + 1 = 94) ?_
    refine g_bipush X63 hx hby (7 : Int32) at_94 (by decide) (rfl : 94 + 2 = 96) ?_
    refine g_icF X63 hx hby at_96 (feq (by decide : ¬ ((5 : Int32) = (7 : Int32)))).1 (rfl : 96 + 3 = 99) ?_
    refine g_iloadN X63 hx hby at_99 rfl (rfl : 99 + 1 = 100) ?_
    refine g_bipush X63 hx hby (8 : Int32) at_100 (by decide) (rfl : 100 + 2 = 102) ?_
    refine g_icT X63 hx hby at_102 (feq (by decide : ¬ ((5 : Int32) = (8 : Int32)))).2 (by decide) (pc' := 113) (by decide) ?_
    refine g_iloadN X63 hx hby at_113 rfl (rfl : 113 + 1 = 114) ?_
    refine g_iconst X63 hx hby (5 : Int32) at_114 (by decide) (rfl : 114 + 1 = 115) ?_
    refine g_icF X63 hx hby at_115 (teq (by decide : (5 : Int32) = (5 : Int32))).2 (rfl : 115 + 3 = 118) ?_
    have f95 : Sta Z h63 "com/example/coppice/coppice/log/Entry$Role" "COMMIT_POINT" "Lcom/example/coppice/coppice/log/Entry$Role;" (.ref wCOMMIT_POINT) := (Sta.wr W63 (Sta.wr W59 (Sta.wr W55 (Sta.wr W51 (Sta.wr W47 (Sta.wr W43 (Sta.wr W39 (Sta.wr W35 (Sta.wr W31 (Sta.wr W27 (Sta.wr W23 (Sta.ext E9 hp23))))))))))))
    obtain ⟨T96, X96, e96, st96⟩ := getS2 X63 hx hZ hown (host := "") (Or.inl (hw _ (List.mem_of_getElem? (i := 53) rfl))) Via.refl e63 f95 (g := (mkF m 118 #[.val (.int x0), .val (.ref b9), .val (.int (5 : Int32)), .val (.ref wCOMMIT), .unset] [])) rfl (hb hby at_118)
    refine own_go st96 ?_
    show own_Got p e below _ T96 (mkF m 121 #[.val (.int x0), .val (.ref b9), .val (.int (5 : Int32)), .val (.ref wCOMMIT), .unset] [(.ref wCOMMIT_POINT)])
    refine g_astore X96 hx hby #[.val (.int x0), .val (.ref b9), .val (.int (5 : Int32)), .val (.ref wCOMMIT), .val (.ref wCOMMIT_POINT)] at_121 rfl rfl (rfl : 121 + 2 = 123) ?_
    refine g_goto X96 hx hby at_123 (by decide) (pc' := 131) (by decide) ?_
    refine g_aloadN X96 hx hby at_131 rfl rfl (rfl : 131 + 1 = 132) ?_
    have f98 : Fld Z h63 wCOMMIT "com/example/coppice/coppice/log/Entry$Kind" "_creates" "Lcom/example/coppice/coppice/revision/TreeKind$Layout;" .null := (Fld.other W63 (Fld.other W59 (Fld.other W55 (Fld.other W51 (Fld.other W47 (Fld.other W43 (Fld.other W39 (Fld.other W35 (Fld.other W31 (Fld.other W27 (Fld.other W23 (Fld.ext E9 hp35) (Or.inl ne15)) (Or.inl ne15)) (Or.inl ne15)) (Or.inl ne15)) (Or.inl ne15)) (Or.inl ne15)) (Or.inl ne15)) (Or.inl ne15)) (Or.inl ne15)) (Or.inl ne15)) (Or.inl ne15))
    have f99 : Fld Z h63 wCOMMIT "com/example/coppice/coppice/log/Entry$Kind" "_operation" "Lcom/example/coppice/coppice/tree/Operation$Kind;" .null := (Fld.other W63 (Fld.other W59 (Fld.other W55 (Fld.other W51 (Fld.other W47 (Fld.other W43 (Fld.other W39 (Fld.other W35 (Fld.other W31 (Fld.other W27 (Fld.other W23 (Fld.ext E9 hp36) (Or.inl ne15)) (Or.inl ne15)) (Or.inl ne15)) (Or.inl ne15)) (Or.inl ne15)) (Or.inl ne15)) (Or.inl ne15)) (Or.inl ne15)) (Or.inl ne15)) (Or.inl ne15)) (Or.inl ne15))
    have f100 : Exa Z h63 wCOMMIT "com/example/coppice/coppice/log/Entry$Kind" := (Exa.wr W63 (Exa.wr W59 (Exa.wr W55 (Exa.wr W51 (Exa.wr W47 (Exa.wr W43 f44))))))
    obtain ⟨cq97, kq97, q97a, q97b, q97c⟩ := isOf hZ e96 f100
    obtain ⟨_, _, ⟨T97, L97, k97, n97⟩, -, X97, ⟨Lc97, hQ97, l97, y97, z97⟩, st97⟩ := X96.virtualBack hx (y := (⟨"com/example/coppice/coppice/log/Entry$Kind", "role", "()Lcom/example/coppice/coppice/log/Entry$Role;"⟩ : MethodName)) (z := (⟨"com/example/coppice/coppice/log/Entry$Kind", "role", "()Lcom/example/coppice/coppice/log/Entry$Role;"⟩ : MethodName)) hown (mvT hZ (hw _ (List.mem_of_getElem? (i := 30) rfl))) (mvT hZ (hw _ (List.mem_of_getElem? (i := 31) rfl))) (notFace_of_selects (args := #[]) (mvT hZ (hw _ (List.mem_of_getElem? (i := 33) rfl)))) (mvT hZ (hw _ (List.mem_of_getElem? (i := 33) rfl))) (mvT hZ (hw _ (List.mem_of_getElem? (i := 32) rfl))) (by decide) (backOf (W := 0) (rm_roP l Z aT hw [] wCOMMIT wCOMMIT_POINT h63 n0 Z63 f98 f99 f95) hZ (hw _ (List.mem_of_getElem? (i := 34) rfl)) (hw _ (List.mem_of_getElem? (i := 3) rfl)) (by decide) (by decide)) q97a q97c (g := (mkF m 132 #[.val (.int x0), .val (.ref b9), .val (.int (5 : Int32)), .val (.ref wCOMMIT), .val (.ref wCOMMIT_POINT)] [(.ref wCOMMIT)])) rfl (by rw [hml]; rfl) (Steps.refl _) (argsL := []) (rest := []) (lenOf pd0 rfl) rfl (by show 2 * 0 + _ ≤ _; exact Nat.le_of_eq rfl) (hb hby at_132) (fun _ _ => ⟨rfl, e96, (by decide : 1 + 0 ≤ _), (by decide : 11 + 0 ≤ _)⟩)
    dsimp only [Pt.U, Pt.locs, Pt.cells, Pt.slots] at X97 l97 y97 z97 st97 hQ97
    subst l97 y97 z97
    obtain ⟨rfl, N97q, eq97⟩ := hQ97
    have N97 := Fr.app N63 N97q
    refine own_tr st97 ?_
    show own_Got p e below _ T97 (mkF m 135 #[.val (.int x0), .val (.ref b9), .val (.int (5 : Int32)), .val (.ref wCOMMIT), .val (.ref wCOMMIT_POINT)] [(.ref wCOMMIT_POINT)])
    refine g_aload X97 hx hby at_135 rfl rfl (rfl : 135 + 2 = 137) ?_
    refine g_acmp X97 hx hby (pc' := 140) true at_137 rfl rfl (decide_eq_true rfl) (by decide) (by decide) ?_
    refine g_iconst X97 hx hby (1 : Int32) at_140 (by decide) (rfl : 140 + 1 = 141) ?_
    refine g_goto X97 hx hby at_141 (by decide) (pc' := 145) (by decide) ?_
    refine own_retN X97 hx hby hlk (t := .boolean) hrt (by simp) at_145 (by decide) (by decide) ?_
    show Q_law Z x0 wCREATE_TREE wAPPEND_CHILD wDELETE_CHILD wPUT_ATTRIBUTE wDELETE_ATTRIBUTE wCOMMIT wPUSH_ROOT wCREATE_APPEND_TREE wCREATE_KEYED_TREE wINSERT_NODE wDELETE_NODE wCREATION wCOMMIT_POINT wOPERATION u_CREATE_TREE_creates u_APPEND_CHILD_operation u_DELETE_CHILD_operation u_PUT_ATTRIBUTE_operation u_DELETE_ATTRIBUTE_operation u_PUSH_ROOT_operation u_CREATE_APPEND_TREE_creates u_CREATE_KEYED_TREE_creates u_INSERT_NODE_operation u_DELETE_NODE_operation h0 n0 _ T97.heap _
    exact ⟨rfl, N97⟩
  · rw [hk65]
    refine g_aloadN X63 hx hby at_85 rfl rfl (rfl : 85 + 1 = 86) ?_
    refine g_iloadN X63 hx hby at_86 rfl (rfl : 86 + 1 = 87) ?_
    refine g_aaload X63 hx hby hZ e63 (v := (.ref wPUSH_ROOT)) V63' rfl ⟨by decide, by decide⟩ rfl at_87 (rfl : 87 + 1 = 88) ?_
    refine g_astoreN X63 hx hby #[.val (.int x0), .val (.ref b9), .val (.int (6 : Int32)), .val (.ref wPUSH_ROOT), .unset] at_88 rfl rfl (rfl : 88 + 1 = 89) ?_
    refine g_iloadN X63 hx hby at_89 rfl (rfl : 89 + 1 = 90) ?_
    refine g_ifF X63 hx hby at_90 ((if0 _ _).trans (feq (by decide : ¬ ((6 : Int32) = (0 : Int32)))).1) (rfl : 90 + 3 = 93) ?_
    refine g_iloadN X63 hx hby at_93 rfl (rfl : 93 + 1 = 94) ?_
    refine g_bipush X63 hx hby (7 : Int32) at_94 (by decide) (rfl : 94 + 2 = 96) ?_
    refine g_icF X63 hx hby at_96 (feq (by decide : ¬ ((6 : Int32) = (7 : Int32)))).1 (rfl : 96 + 3 = 99) ?_
    refine g_iloadN X63 hx hby at_99 rfl (rfl : 99 + 1 = 100) ?_
    refine g_bipush X63 hx hby (8 : Int32) at_100 (by decide) (rfl : 100 + 2 = 102) ?_
    refine g_icT X63 hx hby at_102 (feq (by decide : ¬ ((6 : Int32) = (8 : Int32)))).2 (by decide) (pc' := 113) (by decide) ?_
    refine g_iloadN X63 hx hby at_113 rfl (rfl : 113 + 1 = 114) ?_
    refine g_iconst X63 hx hby (5 : Int32) at_114 (by decide) (rfl : 114 + 1 = 115) ?_
    refine g_icT X63 hx hby at_115 (feq (by decide : ¬ ((6 : Int32) = (5 : Int32)))).2 (by decide) (pc' := 126) (by decide) ?_
    have f101 : Sta Z h63 "com/example/coppice/coppice/log/Entry$Role" "OPERATION" "Lcom/example/coppice/coppice/log/Entry$Role;" (.ref wOPERATION) := (Sta.wr W63 (Sta.wr W59 (Sta.wr W55 (Sta.wr W51 (Sta.wr W47 (Sta.wr W43 (Sta.wr W39 (Sta.wr W35 (Sta.wr W31 (Sta.wr W27 (Sta.wr W23 (Sta.ext E9 hp24))))))))))))
    obtain ⟨T102, X102, e102, st102⟩ := getS2 X63 hx hZ hown (host := "") (Or.inl (hw _ (List.mem_of_getElem? (i := 40) rfl))) Via.refl e63 f101 (g := (mkF m 126 #[.val (.int x0), .val (.ref b9), .val (.int (6 : Int32)), .val (.ref wPUSH_ROOT), .unset] [])) rfl (hb hby at_126)
    refine own_go st102 ?_
    show own_Got p e below _ T102 (mkF m 129 #[.val (.int x0), .val (.ref b9), .val (.int (6 : Int32)), .val (.ref wPUSH_ROOT), .unset] [(.ref wOPERATION)])
    refine g_astore X102 hx hby #[.val (.int x0), .val (.ref b9), .val (.int (6 : Int32)), .val (.ref wPUSH_ROOT), .val (.ref wOPERATION)] at_129 rfl rfl (rfl : 129 + 2 = 131) ?_
    refine g_aloadN X102 hx hby at_131 rfl rfl (rfl : 131 + 1 = 132) ?_
    have f104 : Fld Z h63 wPUSH_ROOT "com/example/coppice/coppice/log/Entry$Kind" "_creates" "Lcom/example/coppice/coppice/revision/TreeKind$Layout;" .null := (Fld.other W63 (Fld.other W59 (Fld.other W55 (Fld.other W51 (Fld.other W47 (Fld.other W43 (Fld.other W39 (Fld.other W35 (Fld.other W31 (Fld.other W27 (Fld.other W23 (Fld.ext E9 hp37) (Or.inl ne16)) (Or.inl ne16)) (Or.inl ne16)) (Or.inl ne16)) (Or.inl ne16)) (Or.inl ne16)) (Or.inl ne16)) (Or.inl ne16)) (Or.inl ne16)) (Or.inl ne16)) (Or.inl ne16))
    have f105 : Fld Z h63 wPUSH_ROOT "com/example/coppice/coppice/log/Entry$Kind" "_operation" "Lcom/example/coppice/coppice/tree/Operation$Kind;" (.ref u_PUSH_ROOT_operation) := (Fld.other W63 (Fld.other W59 (Fld.other W55 (Fld.other W51 (Fld.other W47 (Fld.other W43 (Fld.other W39 (Fld.other W35 (Fld.other W31 (Fld.other W27 (Fld.other W23 (Fld.ext E9 hp38) (Or.inl ne16)) (Or.inl ne16)) (Or.inl ne16)) (Or.inl ne16)) (Or.inl ne16)) (Or.inl ne16)) (Or.inl ne16)) (Or.inl ne16)) (Or.inl ne16)) (Or.inl ne16)) (Or.inl ne16))
    have f106 : Exa Z h63 wPUSH_ROOT "com/example/coppice/coppice/log/Entry$Kind" := (Exa.wr W63 (Exa.wr W59 (Exa.wr W55 (Exa.wr W51 (Exa.wr W47 f48)))))
    obtain ⟨cq103, kq103, q103a, q103b, q103c⟩ := isOf hZ e102 f106
    obtain ⟨_, _, ⟨T103, L103, k103, n103⟩, -, X103, ⟨Lc103, hQ103, l103, y103, z103⟩, st103⟩ := X102.virtualBack hx (y := (⟨"com/example/coppice/coppice/log/Entry$Kind", "role", "()Lcom/example/coppice/coppice/log/Entry$Role;"⟩ : MethodName)) (z := (⟨"com/example/coppice/coppice/log/Entry$Kind", "role", "()Lcom/example/coppice/coppice/log/Entry$Role;"⟩ : MethodName)) hown (mvT hZ (hw _ (List.mem_of_getElem? (i := 30) rfl))) (mvT hZ (hw _ (List.mem_of_getElem? (i := 31) rfl))) (notFace_of_selects (args := #[]) (mvT hZ (hw _ (List.mem_of_getElem? (i := 33) rfl)))) (mvT hZ (hw _ (List.mem_of_getElem? (i := 33) rfl))) (mvT hZ (hw _ (List.mem_of_getElem? (i := 32) rfl))) (by decide) (backOf (W := 0) (rm_roO l Z aT hw [] wPUSH_ROOT u_PUSH_ROOT_operation wOPERATION h63 n0 Z63 f104 f105 f101) hZ (hw _ (List.mem_of_getElem? (i := 34) rfl)) (hw _ (List.mem_of_getElem? (i := 3) rfl)) (by decide) (by decide)) q103a q103c (g := (mkF m 132 #[.val (.int x0), .val (.ref b9), .val (.int (6 : Int32)), .val (.ref wPUSH_ROOT), .val (.ref wOPERATION)] [(.ref wPUSH_ROOT)])) rfl (by rw [hml]; rfl) (Steps.refl _) (argsL := []) (rest := []) (lenOf pd0 rfl) rfl (by show 2 * 0 + _ ≤ _; exact Nat.le_of_eq rfl) (hb hby at_132) (fun _ _ => ⟨rfl, e102, (by decide : 1 + 0 ≤ _), (by decide : 11 + 0 ≤ _)⟩)
    dsimp only [Pt.U, Pt.locs, Pt.cells, Pt.slots] at X103 l103 y103 z103 st103 hQ103
    subst l103 y103 z103
    obtain ⟨rfl, N103q, eq103⟩ := hQ103
    have N103 := Fr.app N63 N103q
    refine own_tr st103 ?_
    show own_Got p e below _ T103 (mkF m 135 #[.val (.int x0), .val (.ref b9), .val (.int (6 : Int32)), .val (.ref wPUSH_ROOT), .val (.ref wOPERATION)] [(.ref wOPERATION)])
    refine g_aload X103 hx hby at_135 rfl rfl (rfl : 135 + 2 = 137) ?_
    refine g_acmp X103 hx hby (pc' := 140) true at_137 rfl rfl (decide_eq_true rfl) (by decide) (by decide) ?_
    refine g_iconst X103 hx hby (1 : Int32) at_140 (by decide) (rfl : 140 + 1 = 141) ?_
    refine g_goto X103 hx hby at_141 (by decide) (pc' := 145) (by decide) ?_
    refine own_retN X103 hx hby hlk (t := .boolean) hrt (by simp) at_145 (by decide) (by decide) ?_
    show Q_law Z x0 wCREATE_TREE wAPPEND_CHILD wDELETE_CHILD wPUT_ATTRIBUTE wDELETE_ATTRIBUTE wCOMMIT wPUSH_ROOT wCREATE_APPEND_TREE wCREATE_KEYED_TREE wINSERT_NODE wDELETE_NODE wCREATION wCOMMIT_POINT wOPERATION u_CREATE_TREE_creates u_APPEND_CHILD_operation u_DELETE_CHILD_operation u_PUT_ATTRIBUTE_operation u_DELETE_ATTRIBUTE_operation u_PUSH_ROOT_operation u_CREATE_APPEND_TREE_creates u_CREATE_KEYED_TREE_creates u_INSERT_NODE_operation u_DELETE_NODE_operation h0 n0 _ T103.heap _
    exact ⟨rfl, N103⟩
  · rw [hk65]
    refine g_aloadN X63 hx hby at_85 rfl rfl (rfl : 85 + 1 = 86) ?_
    refine g_iloadN X63 hx hby at_86 rfl (rfl : 86 + 1 = 87) ?_
    refine g_aaload X63 hx hby hZ e63 (v := (.ref wCREATE_APPEND_TREE)) V63' rfl ⟨by decide, by decide⟩ rfl at_87 (rfl : 87 + 1 = 88) ?_
    refine g_astoreN X63 hx hby #[.val (.int x0), .val (.ref b9), .val (.int (7 : Int32)), .val (.ref wCREATE_APPEND_TREE), .unset] at_88 rfl rfl (rfl : 88 + 1 = 89) ?_
    refine g_iloadN X63 hx hby at_89 rfl (rfl : 89 + 1 = 90) ?_
    refine g_ifF X63 hx hby at_90 ((if0 _ _).trans (feq (by decide : ¬ ((7 : Int32) = (0 : Int32)))).1) (rfl : 90 + 3 = 93) ?_
    refine g_iloadN X63 hx hby at_93 rfl (rfl : 93 + 1 = 94) ?_
    refine g_bipush X63 hx hby (7 : Int32) at_94 (by decide) (rfl : 94 + 2 = 96) ?_
    refine g_icT X63 hx hby at_96 (teq (by decide : (7 : Int32) = (7 : Int32))).1 (by decide) (pc' := 105) (by decide) ?_
    have f107 : Sta Z h63 "com/example/coppice/coppice/log/Entry$Role" "CREATION" "Lcom/example/coppice/coppice/log/Entry$Role;" (.ref wCREATION) := (Sta.wr W63 (Sta.wr W59 (Sta.wr W55 (Sta.wr W51 (Sta.wr W47 (Sta.wr W43 (Sta.wr W39 (Sta.wr W35 (Sta.wr W31 (Sta.wr W27 (Sta.wr W23 (Sta.ext E9 hp22))))))))))))
    obtain ⟨T108, X108, e108, st108⟩ := getS2 X63 hx hZ hown (host := "") (Or.inl (hw _ (List.mem_of_getElem? (i := 27) rfl))) Via.refl e63 f107 (g := (mkF m 105 #[.val (.int x0), .val (.ref b9), .val (.int (7 : Int32)), .val (.ref wCREATE_APPEND_TREE), .unset] [])) rfl (hb hby at_105)
    refine own_go st108 ?_
    show own_Got p e below _ T108 (mkF m 108 #[.val (.int x0), .val (.ref b9), .val (.int (7 : Int32)), .val (.ref wCREATE_APPEND_TREE), .unset] [(.ref wCREATION)])
    refine g_astore X108 hx hby #[.val (.int x0), .val (.ref b9), .val (.int (7 : Int32)), .val (.ref wCREATE_APPEND_TREE), .val (.ref wCREATION)] at_108 rfl rfl (rfl : 108 + 2 = 110) ?_
    refine g_goto X108 hx hby at_110 (by decide) (pc' := 131) (by decide) ?_
    refine g_aloadN X108 hx hby at_131 rfl rfl (rfl : 131 + 1 = 132) ?_
    have f110 : Fld Z h63 wCREATE_APPEND_TREE "com/example/coppice/coppice/log/Entry$Kind" "_creates" "Lcom/example/coppice/coppice/revision/TreeKind$Layout;" (.ref u_CREATE_APPEND_TREE_creates) := (Fld.other W63 (Fld.other W59 (Fld.other W55 (Fld.other W51 (Fld.other W47 (Fld.other W43 (Fld.other W39 (Fld.other W35 (Fld.other W31 (Fld.other W27 (Fld.other W23 (Fld.ext E9 hp39) (Or.inl ne17)) (Or.inl ne17)) (Or.inl ne17)) (Or.inl ne17)) (Or.inl ne17)) (Or.inl ne17)) (Or.inl ne17)) (Or.inl ne17)) (Or.inl ne17)) (Or.inl ne17)) (Or.inl ne17))
    have f111 : Exa Z h63 wCREATE_APPEND_TREE "com/example/coppice/coppice/log/Entry$Kind" := (Exa.wr W63 (Exa.wr W59 (Exa.wr W55 (Exa.wr W51 f52))))
    obtain ⟨cq109, kq109, q109a, q109b, q109c⟩ := isOf hZ e108 f111
    obtain ⟨_, _, ⟨T109, L109, k109, n109⟩, -, X109, ⟨Lc109, hQ109, l109, y109, z109⟩, st109⟩ := X108.virtualBack hx (y := (⟨"com/example/coppice/coppice/log/Entry$Kind", "role", "()Lcom/example/coppice/coppice/log/Entry$Role;"⟩ : MethodName)) (z := (⟨"com/example/coppice/coppice/log/Entry$Kind", "role", "()Lcom/example/coppice/coppice/log/Entry$Role;"⟩ : MethodName)) hown (mvT hZ (hw _ (List.mem_of_getElem? (i := 30) rfl))) (mvT hZ (hw _ (List.mem_of_getElem? (i := 31) rfl))) (notFace_of_selects (args := #[]) (mvT hZ (hw _ (List.mem_of_getElem? (i := 33) rfl)))) (mvT hZ (hw _ (List.mem_of_getElem? (i := 33) rfl))) (mvT hZ (hw _ (List.mem_of_getElem? (i := 32) rfl))) (by decide) (backOf (W := 0) (rm_roC l Z aT hw [] wCREATE_APPEND_TREE u_CREATE_APPEND_TREE_creates wCREATION h63 n0 Z63 f110 f107) hZ (hw _ (List.mem_of_getElem? (i := 34) rfl)) (hw _ (List.mem_of_getElem? (i := 3) rfl)) (by decide) (by decide)) q109a q109c (g := (mkF m 132 #[.val (.int x0), .val (.ref b9), .val (.int (7 : Int32)), .val (.ref wCREATE_APPEND_TREE), .val (.ref wCREATION)] [(.ref wCREATE_APPEND_TREE)])) rfl (by rw [hml]; rfl) (Steps.refl _) (argsL := []) (rest := []) (lenOf pd0 rfl) rfl (by show 2 * 0 + _ ≤ _; exact Nat.le_of_eq rfl) (hb hby at_132) (fun _ _ => ⟨rfl, e108, (by decide : 1 + 0 ≤ _), (by decide : 11 + 0 ≤ _)⟩)
    dsimp only [Pt.U, Pt.locs, Pt.cells, Pt.slots] at X109 l109 y109 z109 st109 hQ109
    subst l109 y109 z109
    obtain ⟨rfl, N109q, eq109⟩ := hQ109
    have N109 := Fr.app N63 N109q
    refine own_tr st109 ?_
    show own_Got p e below _ T109 (mkF m 135 #[.val (.int x0), .val (.ref b9), .val (.int (7 : Int32)), .val (.ref wCREATE_APPEND_TREE), .val (.ref wCREATION)] [(.ref wCREATION)])
    refine g_aload X109 hx hby at_135 rfl rfl (rfl : 135 + 2 = 137) ?_
    refine g_acmp X109 hx hby (pc' := 140) true at_137 rfl rfl (decide_eq_true rfl) (by decide) (by decide) ?_
    refine g_iconst X109 hx hby (1 : Int32) at_140 (by decide) (rfl : 140 + 1 = 141) ?_
    refine g_goto X109 hx hby at_141 (by decide) (pc' := 145) (by decide) ?_
    refine own_retN X109 hx hby hlk (t := .boolean) hrt (by simp) at_145 (by decide) (by decide) ?_
    show Q_law Z x0 wCREATE_TREE wAPPEND_CHILD wDELETE_CHILD wPUT_ATTRIBUTE wDELETE_ATTRIBUTE wCOMMIT wPUSH_ROOT wCREATE_APPEND_TREE wCREATE_KEYED_TREE wINSERT_NODE wDELETE_NODE wCREATION wCOMMIT_POINT wOPERATION u_CREATE_TREE_creates u_APPEND_CHILD_operation u_DELETE_CHILD_operation u_PUT_ATTRIBUTE_operation u_DELETE_ATTRIBUTE_operation u_PUSH_ROOT_operation u_CREATE_APPEND_TREE_creates u_CREATE_KEYED_TREE_creates u_INSERT_NODE_operation u_DELETE_NODE_operation h0 n0 _ T109.heap _
    exact ⟨rfl, N109⟩
  · rw [hk65]
    refine g_aloadN X63 hx hby at_85 rfl rfl (rfl : 85 + 1 = 86) ?_
    refine g_iloadN X63 hx hby at_86 rfl (rfl : 86 + 1 = 87) ?_
    refine g_aaload X63 hx hby hZ e63 (v := (.ref wCREATE_KEYED_TREE)) V63' rfl ⟨by decide, by decide⟩ rfl at_87 (rfl : 87 + 1 = 88) ?_
    refine g_astoreN X63 hx hby #[.val (.int x0), .val (.ref b9), .val (.int (8 : Int32)), .val (.ref wCREATE_KEYED_TREE), .unset] at_88 rfl rfl (rfl : 88 + 1 = 89) ?_
    refine g_iloadN X63 hx hby at_89 rfl (rfl : 89 + 1 = 90) ?_
    refine g_ifF X63 hx hby at_90 ((if0 _ _).trans (feq (by decide : ¬ ((8 : Int32) = (0 : Int32)))).1) (rfl : 90 + 3 = 93) ?_
    refine g_iloadN X63 hx hby at_93 rfl (rfl : 93 + 1 = 94) ?_
    refine g_bipush X63 hx hby (7 : Int32) at_94 (by decide) (rfl : 94 + 2 = 96) ?_
    refine g_icF X63 hx hby at_96 (feq (by decide : ¬ ((8 : Int32) = (7 : Int32)))).1 (rfl : 96 + 3 = 99) ?_
    refine g_iloadN X63 hx hby at_99 rfl (rfl : 99 + 1 = 100) ?_
    refine g_bipush X63 hx hby (8 : Int32) at_100 (by decide) (rfl : 100 + 2 = 102) ?_
    refine g_icF X63 hx hby at_102 (teq (by decide : (8 : Int32) = (8 : Int32))).2 (rfl : 102 + 3 = 105) ?_
    have f112 : Sta Z h63 "com/example/coppice/coppice/log/Entry$Role" "CREATION" "Lcom/example/coppice/coppice/log/Entry$Role;" (.ref wCREATION) := (Sta.wr W63 (Sta.wr W59 (Sta.wr W55 (Sta.wr W51 (Sta.wr W47 (Sta.wr W43 (Sta.wr W39 (Sta.wr W35 (Sta.wr W31 (Sta.wr W27 (Sta.wr W23 (Sta.ext E9 hp22))))))))))))
    obtain ⟨T113, X113, e113, st113⟩ := getS2 X63 hx hZ hown (host := "") (Or.inl (hw _ (List.mem_of_getElem? (i := 27) rfl))) Via.refl e63 f112 (g := (mkF m 105 #[.val (.int x0), .val (.ref b9), .val (.int (8 : Int32)), .val (.ref wCREATE_KEYED_TREE), .unset] [])) rfl (hb hby at_105)
    refine own_go st113 ?_
    show own_Got p e below _ T113 (mkF m 108 #[.val (.int x0), .val (.ref b9), .val (.int (8 : Int32)), .val (.ref wCREATE_KEYED_TREE), .unset] [(.ref wCREATION)])
    refine g_astore X113 hx hby #[.val (.int x0), .val (.ref b9), .val (.int (8 : Int32)), .val (.ref wCREATE_KEYED_TREE), .val (.ref wCREATION)] at_108 rfl rfl (rfl : 108 + 2 = 110) ?_
    refine g_goto X113 hx hby at_110 (by decide) (pc' := 131) (by decide) ?_
    refine g_aloadN X113 hx hby at_131 rfl rfl (rfl : 131 + 1 = 132) ?_
    have f115 : Fld Z h63 wCREATE_KEYED_TREE "com/example/coppice/coppice/log/Entry$Kind" "_creates" "Lcom/example/coppice/coppice/revision/TreeKind$Layout;" (.ref u_CREATE_KEYED_TREE_creates) := (Fld.other W63 (Fld.other W59 (Fld.other W55 (Fld.other W51 (Fld.other W47 (Fld.other W43 (Fld.other W39 (Fld.other W35 (Fld.other W31 (Fld.other W27 (Fld.other W23 (Fld.ext E9 hp41) (Or.inl ne18)) (Or.inl ne18)) (Or.inl ne18)) (Or.inl ne18)) (Or.inl ne18)) (Or.inl ne18)) (Or.inl ne18)) (Or.inl ne18)) (Or.inl ne18)) (Or.inl ne18)) (Or.inl ne18))
    have f116 : Exa Z h63 wCREATE_KEYED_TREE "com/example/coppice/coppice/log/Entry$Kind" := (Exa.wr W63 (Exa.wr W59 (Exa.wr W55 f56)))
    obtain ⟨cq114, kq114, q114a, q114b, q114c⟩ := isOf hZ e113 f116
    obtain ⟨_, _, ⟨T114, L114, k114, n114⟩, -, X114, ⟨Lc114, hQ114, l114, y114, z114⟩, st114⟩ := X113.virtualBack hx (y := (⟨"com/example/coppice/coppice/log/Entry$Kind", "role", "()Lcom/example/coppice/coppice/log/Entry$Role;"⟩ : MethodName)) (z := (⟨"com/example/coppice/coppice/log/Entry$Kind", "role", "()Lcom/example/coppice/coppice/log/Entry$Role;"⟩ : MethodName)) hown (mvT hZ (hw _ (List.mem_of_getElem? (i := 30) rfl))) (mvT hZ (hw _ (List.mem_of_getElem? (i := 31) rfl))) (notFace_of_selects (args := #[]) (mvT hZ (hw _ (List.mem_of_getElem? (i := 33) rfl)))) (mvT hZ (hw _ (List.mem_of_getElem? (i := 33) rfl))) (mvT hZ (hw _ (List.mem_of_getElem? (i := 32) rfl))) (by decide) (backOf (W := 0) (rm_roC l Z aT hw [] wCREATE_KEYED_TREE u_CREATE_KEYED_TREE_creates wCREATION h63 n0 Z63 f115 f112) hZ (hw _ (List.mem_of_getElem? (i := 34) rfl)) (hw _ (List.mem_of_getElem? (i := 3) rfl)) (by decide) (by decide)) q114a q114c (g := (mkF m 132 #[.val (.int x0), .val (.ref b9), .val (.int (8 : Int32)), .val (.ref wCREATE_KEYED_TREE), .val (.ref wCREATION)] [(.ref wCREATE_KEYED_TREE)])) rfl (by rw [hml]; rfl) (Steps.refl _) (argsL := []) (rest := []) (lenOf pd0 rfl) rfl (by show 2 * 0 + _ ≤ _; exact Nat.le_of_eq rfl) (hb hby at_132) (fun _ _ => ⟨rfl, e113, (by decide : 1 + 0 ≤ _), (by decide : 11 + 0 ≤ _)⟩)
    dsimp only [Pt.U, Pt.locs, Pt.cells, Pt.slots] at X114 l114 y114 z114 st114 hQ114
    subst l114 y114 z114
    obtain ⟨rfl, N114q, eq114⟩ := hQ114
    have N114 := Fr.app N63 N114q
    refine own_tr st114 ?_
    show own_Got p e below _ T114 (mkF m 135 #[.val (.int x0), .val (.ref b9), .val (.int (8 : Int32)), .val (.ref wCREATE_KEYED_TREE), .val (.ref wCREATION)] [(.ref wCREATION)])
    refine g_aload X114 hx hby at_135 rfl rfl (rfl : 135 + 2 = 137) ?_
    refine g_acmp X114 hx hby (pc' := 140) true at_137 rfl rfl (decide_eq_true rfl) (by decide) (by decide) ?_
    refine g_iconst X114 hx hby (1 : Int32) at_140 (by decide) (rfl : 140 + 1 = 141) ?_
    refine g_goto X114 hx hby at_141 (by decide) (pc' := 145) (by decide) ?_
    refine own_retN X114 hx hby hlk (t := .boolean) hrt (by simp) at_145 (by decide) (by decide) ?_
    show Q_law Z x0 wCREATE_TREE wAPPEND_CHILD wDELETE_CHILD wPUT_ATTRIBUTE wDELETE_ATTRIBUTE wCOMMIT wPUSH_ROOT wCREATE_APPEND_TREE wCREATE_KEYED_TREE wINSERT_NODE wDELETE_NODE wCREATION wCOMMIT_POINT wOPERATION u_CREATE_TREE_creates u_APPEND_CHILD_operation u_DELETE_CHILD_operation u_PUT_ATTRIBUTE_operation u_DELETE_ATTRIBUTE_operation u_PUSH_ROOT_operation u_CREATE_APPEND_TREE_creates u_CREATE_KEYED_TREE_creates u_INSERT_NODE_operation u_DELETE_NODE_operation h0 n0 _ T114.heap _
    exact ⟨rfl, N114⟩
  · rw [hk65]
    refine g_aloadN X63 hx hby at_85 rfl rfl (rfl : 85 + 1 = 86) ?_
    refine g_iloadN X63 hx hby at_86 rfl (rfl : 86 + 1 = 87) ?_
    refine g_aaload X63 hx hby hZ e63 (v := (.ref wINSERT_NODE)) V63' rfl ⟨by decide, by decide⟩ rfl at_87 (rfl : 87 + 1 = 88) ?_
    refine g_astoreN X63 hx hby #[.val (.int x0), .val (.ref b9), .val (.int (9 : Int32)), .val (.ref wINSERT_NODE), .unset] at_88 rfl rfl (rfl : 88 + 1 = 89) ?_
    refine g_iloadN X63 hx hby at_89 rfl (rfl : 89 + 1 = 90) ?_
    refine g_ifF X63 hx hby at_90 ((if0 _ _).trans (feq (by decide : ¬ ((9 : Int32) = (0 : Int32)))).1) (rfl : 90 + 3 = 93) ?_
    refine g_iloadN X63 hx hby at_93 rfl (rfl : 93 + 1 = 94) ?_
    refine g_bipush X63 hx hby (7 : Int32) at_94 (by decide) (rfl : 94 + 2 = 96) ?_
    refine g_icF X63 hx hby at_96 (feq (by decide : ¬ ((9 : Int32) = (7 : Int32)))).1 (rfl : 96 + 3 = 99) ?_
    refine g_iloadN X63 hx hby at_99 rfl (rfl : 99 + 1 = 100) ?_
    refine g_bipush X63 hx hby (8 : Int32) at_100 (by decide) (rfl : 100 + 2 = 102) ?_
    refine g_icT X63 hx hby at_102 (feq (by decide : ¬ ((9 : Int32) = (8 : Int32)))).2 (by decide) (pc' := 113) (by decide) ?_
    refine g_iloadN X63 hx hby at_113 rfl (rfl : 113 + 1 = 114) ?_
    refine g_iconst X63 hx hby (5 : Int32) at_114 (by decide) (rfl : 114 + 1 = 115) ?_
    refine g_icT X63 hx hby at_115 (feq (by decide : ¬ ((9 : Int32) = (5 : Int32)))).2 (by decide) (pc' := 126) (by decide) ?_
    have f117 : Sta Z h63 "com/example/coppice/coppice/log/Entry$Role" "OPERATION" "Lcom/example/coppice/coppice/log/Entry$Role;" (.ref wOPERATION) := (Sta.wr W63 (Sta.wr W59 (Sta.wr W55 (Sta.wr W51 (Sta.wr W47 (Sta.wr W43 (Sta.wr W39 (Sta.wr W35 (Sta.wr W31 (Sta.wr W27 (Sta.wr W23 (Sta.ext E9 hp24))))))))))))
    obtain ⟨T118, X118, e118, st118⟩ := getS2 X63 hx hZ hown (host := "") (Or.inl (hw _ (List.mem_of_getElem? (i := 40) rfl))) Via.refl e63 f117 (g := (mkF m 126 #[.val (.int x0), .val (.ref b9), .val (.int (9 : Int32)), .val (.ref wINSERT_NODE), .unset] [])) rfl (hb hby at_126)
    refine own_go st118 ?_
    show own_Got p e below _ T118 (mkF m 129 #[.val (.int x0), .val (.ref b9), .val (.int (9 : Int32)), .val (.ref wINSERT_NODE), .unset] [(.ref wOPERATION)])
    refine g_astore X118 hx hby #[.val (.int x0), .val (.ref b9), .val (.int (9 : Int32)), .val (.ref wINSERT_NODE), .val (.ref wOPERATION)] at_129 rfl rfl (rfl : 129 + 2 = 131) ?_
    refine g_aloadN X118 hx hby at_131 rfl rfl (rfl : 131 + 1 = 132) ?_
    have f120 : Fld Z h63 wINSERT_NODE "com/example/coppice/coppice/log/Entry$Kind" "_creates" "Lcom/example/coppice/coppice/revision/TreeKind$Layout;" .null := (Fld.other W63 (Fld.other W59 (Fld.other W55 (Fld.other W51 (Fld.other W47 (Fld.other W43 (Fld.other W39 (Fld.other W35 (Fld.other W31 (Fld.other W27 (Fld.other W23 (Fld.ext E9 hp43) (Or.inl ne19)) (Or.inl ne19)) (Or.inl ne19)) (Or.inl ne19)) (Or.inl ne19)) (Or.inl ne19)) (Or.inl ne19)) (Or.inl ne19)) (Or.inl ne19)) (Or.inl ne19)) (Or.inl ne19))
    have f121 : Fld Z h63 wINSERT_NODE "com/example/coppice/coppice/log/Entry$Kind" "_operation" "Lcom/example/coppice/coppice/tree/Operation$Kind;" (.ref u_INSERT_NODE_operation) := (Fld.other W63 (Fld.other W59 (Fld.other W55 (Fld.other W51 (Fld.other W47 (Fld.other W43 (Fld.other W39 (Fld.other W35 (Fld.other W31 (Fld.other W27 (Fld.other W23 (Fld.ext E9 hp44) (Or.inl ne19)) (Or.inl ne19)) (Or.inl ne19)) (Or.inl ne19)) (Or.inl ne19)) (Or.inl ne19)) (Or.inl ne19)) (Or.inl ne19)) (Or.inl ne19)) (Or.inl ne19)) (Or.inl ne19))
    have f122 : Exa Z h63 wINSERT_NODE "com/example/coppice/coppice/log/Entry$Kind" := (Exa.wr W63 (Exa.wr W59 f60))
    obtain ⟨cq119, kq119, q119a, q119b, q119c⟩ := isOf hZ e118 f122
    obtain ⟨_, _, ⟨T119, L119, k119, n119⟩, -, X119, ⟨Lc119, hQ119, l119, y119, z119⟩, st119⟩ := X118.virtualBack hx (y := (⟨"com/example/coppice/coppice/log/Entry$Kind", "role", "()Lcom/example/coppice/coppice/log/Entry$Role;"⟩ : MethodName)) (z := (⟨"com/example/coppice/coppice/log/Entry$Kind", "role", "()Lcom/example/coppice/coppice/log/Entry$Role;"⟩ : MethodName)) hown (mvT hZ (hw _ (List.mem_of_getElem? (i := 30) rfl))) (mvT hZ (hw _ (List.mem_of_getElem? (i := 31) rfl))) (notFace_of_selects (args := #[]) (mvT hZ (hw _ (List.mem_of_getElem? (i := 33) rfl)))) (mvT hZ (hw _ (List.mem_of_getElem? (i := 33) rfl))) (mvT hZ (hw _ (List.mem_of_getElem? (i := 32) rfl))) (by decide) (backOf (W := 0) (rm_roO l Z aT hw [] wINSERT_NODE u_INSERT_NODE_operation wOPERATION h63 n0 Z63 f120 f121 f117) hZ (hw _ (List.mem_of_getElem? (i := 34) rfl)) (hw _ (List.mem_of_getElem? (i := 3) rfl)) (by decide) (by decide)) q119a q119c (g := (mkF m 132 #[.val (.int x0), .val (.ref b9), .val (.int (9 : Int32)), .val (.ref wINSERT_NODE), .val (.ref wOPERATION)] [(.ref wINSERT_NODE)])) rfl (by rw [hml]; rfl) (Steps.refl _) (argsL := []) (rest := []) (lenOf pd0 rfl) rfl (by show 2 * 0 + _ ≤ _; exact Nat.le_of_eq rfl) (hb hby at_132) (fun _ _ => ⟨rfl, e118, (by decide : 1 + 0 ≤ _), (by decide : 11 + 0 ≤ _)⟩)
    dsimp only [Pt.U, Pt.locs, Pt.cells, Pt.slots] at X119 l119 y119 z119 st119 hQ119
    subst l119 y119 z119
    obtain ⟨rfl, N119q, eq119⟩ := hQ119
    have N119 := Fr.app N63 N119q
    refine own_tr st119 ?_
    show own_Got p e below _ T119 (mkF m 135 #[.val (.int x0), .val (.ref b9), .val (.int (9 : Int32)), .val (.ref wINSERT_NODE), .val (.ref wOPERATION)] [(.ref wOPERATION)])
    refine g_aload X119 hx hby at_135 rfl rfl (rfl : 135 + 2 = 137) ?_
    refine g_acmp X119 hx hby (pc' := 140) true at_137 rfl rfl (decide_eq_true rfl) (by decide) (by decide) ?_
    refine g_iconst X119 hx hby (1 : Int32) at_140 (by decide) (rfl : 140 + 1 = 141) ?_
    refine g_goto X119 hx hby at_141 (by decide) (pc' := 145) (by decide) ?_
    refine own_retN X119 hx hby hlk (t := .boolean) hrt (by simp) at_145 (by decide) (by decide) ?_
    show Q_law Z x0 wCREATE_TREE wAPPEND_CHILD wDELETE_CHILD wPUT_ATTRIBUTE wDELETE_ATTRIBUTE wCOMMIT wPUSH_ROOT wCREATE_APPEND_TREE wCREATE_KEYED_TREE wINSERT_NODE wDELETE_NODE wCREATION wCOMMIT_POINT wOPERATION u_CREATE_TREE_creates u_APPEND_CHILD_operation u_DELETE_CHILD_operation u_PUT_ATTRIBUTE_operation u_DELETE_ATTRIBUTE_operation u_PUSH_ROOT_operation u_CREATE_APPEND_TREE_creates u_CREATE_KEYED_TREE_creates u_INSERT_NODE_operation u_DELETE_NODE_operation h0 n0 _ T119.heap _
    exact ⟨rfl, N119⟩
  · rw [hk65]
    refine g_aloadN X63 hx hby at_85 rfl rfl (rfl : 85 + 1 = 86) ?_
    refine g_iloadN X63 hx hby at_86 rfl (rfl : 86 + 1 = 87) ?_
    refine g_aaload X63 hx hby hZ e63 (v := (.ref wDELETE_NODE)) V63' rfl ⟨by decide, by decide⟩ rfl at_87 (rfl : 87 + 1 = 88) ?_
    refine g_astoreN X63 hx hby #[.val (.int x0), .val (.ref b9), .val (.int (10 : Int32)), .val (.ref wDELETE_NODE), .unset] at_88 rfl rfl (rfl : 88 + 1 = 89) ?_
    refine g_iloadN X63 hx hby at_89 rfl (rfl : 89 + 1 = 90) ?_
    refine g_ifF X63 hx hby at_90 ((if0 _ _).trans (feq (by decide : ¬ ((10 : Int32) = (0 : Int32)))).1) (rfl : 90 + 3 = 93) ?_
    refine g_iloadN X63 hx hby at_93 rfl (rfl : 93 + 1 = 94) ?_
    refine g_bipush X63 hx hby (7 : Int32) at_94 (by decide) (rfl : 94 + 2 = 96) ?_
    refine g_icF X63 hx hby at_96 (feq (by decide : ¬ ((10 : Int32) = (7 : Int32)))).1 (rfl : 96 + 3 = 99) ?_
    refine g_iloadN X63 hx hby at_99 rfl (rfl : 99 + 1 = 100) ?_
    refine g_bipush X63 hx hby (8 : Int32) at_100 (by decide) (rfl : 100 + 2 = 102) ?_
    refine g_icT X63 hx hby at_102 (feq (by decide : ¬ ((10 : Int32) = (8 : Int32)))).2 (by decide) (pc' := 113) (by decide) ?_
    refine g_iloadN X63 hx hby at_113 rfl (rfl : 113 + 1 = 114) ?_
    refine g_iconst X63 hx hby (5 : Int32) at_114 (by decide) (rfl : 114 + 1 = 115) ?_
    refine g_icT X63 hx hby at_115 (feq (by decide : ¬ ((10 : Int32) = (5 : Int32)))).2 (by decide) (pc' := 126) (by decide) ?_
    have f123 : Sta Z h63 "com/example/coppice/coppice/log/Entry$Role" "OPERATION" "Lcom/example/coppice/coppice/log/Entry$Role;" (.ref wOPERATION) := (Sta.wr W63 (Sta.wr W59 (Sta.wr W55 (Sta.wr W51 (Sta.wr W47 (Sta.wr W43 (Sta.wr W39 (Sta.wr W35 (Sta.wr W31 (Sta.wr W27 (Sta.wr W23 (Sta.ext E9 hp24))))))))))))
    obtain ⟨T124, X124, e124, st124⟩ := getS2 X63 hx hZ hown (host := "") (Or.inl (hw _ (List.mem_of_getElem? (i := 40) rfl))) Via.refl e63 f123 (g := (mkF m 126 #[.val (.int x0), .val (.ref b9), .val (.int (10 : Int32)), .val (.ref wDELETE_NODE), .unset] [])) rfl (hb hby at_126)
    refine own_go st124 ?_
    show own_Got p e below _ T124 (mkF m 129 #[.val (.int x0), .val (.ref b9), .val (.int (10 : Int32)), .val (.ref wDELETE_NODE), .unset] [(.ref wOPERATION)])
    refine g_astore X124 hx hby #[.val (.int x0), .val (.ref b9), .val (.int (10 : Int32)), .val (.ref wDELETE_NODE), .val (.ref wOPERATION)] at_129 rfl rfl (rfl : 129 + 2 = 131) ?_
    refine g_aloadN X124 hx hby at_131 rfl rfl (rfl : 131 + 1 = 132) ?_
    have f126 : Fld Z h63 wDELETE_NODE "com/example/coppice/coppice/log/Entry$Kind" "_creates" "Lcom/example/coppice/coppice/revision/TreeKind$Layout;" .null := (Fld.other W63 (Fld.other W59 (Fld.other W55 (Fld.other W51 (Fld.other W47 (Fld.other W43 (Fld.other W39 (Fld.other W35 (Fld.other W31 (Fld.other W27 (Fld.other W23 (Fld.ext E9 hp45) (Or.inl ne20)) (Or.inl ne20)) (Or.inl ne20)) (Or.inl ne20)) (Or.inl ne20)) (Or.inl ne20)) (Or.inl ne20)) (Or.inl ne20)) (Or.inl ne20)) (Or.inl ne20)) (Or.inl ne20))
    have f127 : Fld Z h63 wDELETE_NODE "com/example/coppice/coppice/log/Entry$Kind" "_operation" "Lcom/example/coppice/coppice/tree/Operation$Kind;" (.ref u_DELETE_NODE_operation) := (Fld.other W63 (Fld.other W59 (Fld.other W55 (Fld.other W51 (Fld.other W47 (Fld.other W43 (Fld.other W39 (Fld.other W35 (Fld.other W31 (Fld.other W27 (Fld.other W23 (Fld.ext E9 hp46) (Or.inl ne20)) (Or.inl ne20)) (Or.inl ne20)) (Or.inl ne20)) (Or.inl ne20)) (Or.inl ne20)) (Or.inl ne20)) (Or.inl ne20)) (Or.inl ne20)) (Or.inl ne20)) (Or.inl ne20))
    have f128 : Exa Z h63 wDELETE_NODE "com/example/coppice/coppice/log/Entry$Kind" := (Exa.wr W63 f64)
    obtain ⟨cq125, kq125, q125a, q125b, q125c⟩ := isOf hZ e124 f128
    obtain ⟨_, _, ⟨T125, L125, k125, n125⟩, -, X125, ⟨Lc125, hQ125, l125, y125, z125⟩, st125⟩ := X124.virtualBack hx (y := (⟨"com/example/coppice/coppice/log/Entry$Kind", "role", "()Lcom/example/coppice/coppice/log/Entry$Role;"⟩ : MethodName)) (z := (⟨"com/example/coppice/coppice/log/Entry$Kind", "role", "()Lcom/example/coppice/coppice/log/Entry$Role;"⟩ : MethodName)) hown (mvT hZ (hw _ (List.mem_of_getElem? (i := 30) rfl))) (mvT hZ (hw _ (List.mem_of_getElem? (i := 31) rfl))) (notFace_of_selects (args := #[]) (mvT hZ (hw _ (List.mem_of_getElem? (i := 33) rfl)))) (mvT hZ (hw _ (List.mem_of_getElem? (i := 33) rfl))) (mvT hZ (hw _ (List.mem_of_getElem? (i := 32) rfl))) (by decide) (backOf (W := 0) (rm_roO l Z aT hw [] wDELETE_NODE u_DELETE_NODE_operation wOPERATION h63 n0 Z63 f126 f127 f123) hZ (hw _ (List.mem_of_getElem? (i := 34) rfl)) (hw _ (List.mem_of_getElem? (i := 3) rfl)) (by decide) (by decide)) q125a q125c (g := (mkF m 132 #[.val (.int x0), .val (.ref b9), .val (.int (10 : Int32)), .val (.ref wDELETE_NODE), .val (.ref wOPERATION)] [(.ref wDELETE_NODE)])) rfl (by rw [hml]; rfl) (Steps.refl _) (argsL := []) (rest := []) (lenOf pd0 rfl) rfl (by show 2 * 0 + _ ≤ _; exact Nat.le_of_eq rfl) (hb hby at_132) (fun _ _ => ⟨rfl, e124, (by decide : 1 + 0 ≤ _), (by decide : 11 + 0 ≤ _)⟩)
    dsimp only [Pt.U, Pt.locs, Pt.cells, Pt.slots] at X125 l125 y125 z125 st125 hQ125
    subst l125 y125 z125
    obtain ⟨rfl, N125q, eq125⟩ := hQ125
    have N125 := Fr.app N63 N125q
    refine own_tr st125 ?_
    show own_Got p e below _ T125 (mkF m 135 #[.val (.int x0), .val (.ref b9), .val (.int (10 : Int32)), .val (.ref wDELETE_NODE), .val (.ref wOPERATION)] [(.ref wOPERATION)])
    refine g_aload X125 hx hby at_135 rfl rfl (rfl : 135 + 2 = 137) ?_
    refine g_acmp X125 hx hby (pc' := 140) true at_137 rfl rfl (decide_eq_true rfl) (by decide) (by decide) ?_
    refine g_iconst X125 hx hby (1 : Int32) at_140 (by decide) (rfl : 140 + 1 = 141) ?_
    refine g_goto X125 hx hby at_141 (by decide) (pc' := 145) (by decide) ?_
    refine own_retN X125 hx hby hlk (t := .boolean) hrt (by simp) at_145 (by decide) (by decide) ?_
    show Q_law Z x0 wCREATE_TREE wAPPEND_CHILD wDELETE_CHILD wPUT_ATTRIBUTE wDELETE_ATTRIBUTE wCOMMIT wPUSH_ROOT wCREATE_APPEND_TREE wCREATE_KEYED_TREE wINSERT_NODE wDELETE_NODE wCREATION wCOMMIT_POINT wOPERATION u_CREATE_TREE_creates u_APPEND_CHILD_operation u_DELETE_CHILD_operation u_PUT_ATTRIBUTE_operation u_DELETE_ATTRIBUTE_operation u_PUSH_ROOT_operation u_CREATE_APPEND_TREE_creates u_CREATE_KEYED_TREE_creates u_INSERT_NODE_operation u_DELETE_NODE_operation h0 n0 _ T125.heap _
    exact ⟨rfl, N125⟩
set_option maxRecDepth 65536 in
set_option maxHeartbeats 40000000 in
theorem comes_1 {Post : Tables → Env → Array Value → State → Outcome → State → Prop} (hpost : ∀ tb e args s v u, (limb_1_1.after args s (.returned v) u = true ∧ limb_1_2.after args s (.returned v) u = true ∧ True) → FrameEnd s (.returned v) u (Jvm.fieldLocs frame_1_writes args s ++ Jvm.arrayLocs frame_1_arrays args s ++ Jvm.staticLocs frame_1_statics s) 16 128 → Post tb e args s (.returned v) u) :
    ArmFor flags0 classFile x code maxLocals ret World_1 tables_1 room_1 Calls_1 rest_1 Pre_1 Post := by
  intro l hfl _ _ p e ha hc hk s m args below hf hA hF happ hP
  obtain ⟨hcalls, hrest, hpre⟩ := hP
  obtain ⟨-, -, -, hnamed, -, -, -, hat⟩ := (Spec.applies_iff hf).mp happ
  obtain ⟨hg, hn⟩ := and_e (Cond.before_iff.mp (show (Jvm.Cond.and given_1 narrow_1).before args s = true from hpre))
  obtain ⟨hcnt, hg0⟩ := and_e hg
  obtain ⟨w0, rfl⟩ : ∃ w0 : Value, args = #[w0] := by
    have hs : args.size = 1 := by simpa [Cond.value, given_1] using hcnt
    obtain ⟨L⟩ := args
    match L, hs with
    | [w0], _ => exact ⟨w0, rfl⟩
  have hw := fun d (hd : d ∈ tables_1) => atoms_spec (ws := Jvm.Cond.code x code maxLocals ret :: tables_1) hat d (List.mem_cons_of_mem _ hd)
  have hfit : Fit s := fun {y c} hc i hi => by
    obtain ⟨ha, rfl⟩ := Array.getElem?_eq_some_iff.mp hc
    have q := List.all_eq_true.mp ((Array.all_eq_true_iff_forall_mem.mp hF) _ (Array.getElem_mem ha)) i (List.mem_range.mpr hi)
    simpa [Array.getElem?_eq_getElem hi] using q
  obtain ⟨i0, ei0⟩ := is_v hg0
  obtain rfl : w0 = (.int i0) := Option.some.inj ei0
  obtain ⟨nn0, nr0⟩ := and_e hn
  obtain ⟨nn1, nr1⟩ := and_e nr0
  obtain ⟨nn2, nr2⟩ := and_e nr1
  obtain ⟨nn3, nr3⟩ := and_e nr2
  obtain ⟨nn4, nr4⟩ := and_e nr3
  obtain ⟨nn5, nr5⟩ := and_e nr4
  obtain ⟨nn6, nr6⟩ := and_e nr5
  obtain ⟨nn7, nr7⟩ := and_e nr6
  obtain ⟨nn8, nr8⟩ := and_e nr7
  obtain ⟨nn9, nr9⟩ := and_e nr8
  obtain ⟨nn10, nr10⟩ := and_e nr9
  obtain ⟨nn11, nr11⟩ := and_e nr10
  obtain ⟨nn12, nr12⟩ := and_e nr11
  obtain ⟨nn13, nr13⟩ := and_e nr12
  obtain ⟨nn14, nr14⟩ := and_e nr13
  obtain ⟨nn15, nr15⟩ := and_e nr14
  obtain ⟨nn16, nr16⟩ := and_e nr15
  obtain ⟨nn17, nr17⟩ := and_e nr16
  obtain ⟨nn18, nr18⟩ := and_e nr17
  obtain ⟨nn19, nr19⟩ := and_e nr18
  obtain ⟨nn20, nr20⟩ := and_e nr19
  obtain ⟨nn21, nr21⟩ := and_e nr20
  obtain ⟨nn22, nr22⟩ := and_e nr21
  obtain ⟨nn23, nr23⟩ := and_e nr22
  obtain ⟨nn24, nr24⟩ := and_e nr23
  obtain ⟨nn25, nr25⟩ := and_e nr24
  obtain ⟨nn26, nr26⟩ := and_e nr25
  obtain ⟨nn27, nr27⟩ := and_e nr26
  obtain ⟨nn28, nr28⟩ := and_e nr27
  obtain ⟨nn29, nr29⟩ := and_e nr28
  obtain ⟨nn30, nr30⟩ := and_e nr29
  obtain ⟨nn31, nr31⟩ := and_e nr30
  obtain ⟨nn32, nr32⟩ := and_e nr31
  obtain ⟨nn33, nr33⟩ := and_e nr32
  obtain ⟨nn34, nr34⟩ := and_e nr33
  obtain ⟨nn35, nr35⟩ := and_e nr34
  obtain ⟨nn36, nr36⟩ := and_e nr35
  obtain ⟨nn37, nr37⟩ := and_e nr36
  obtain ⟨nn38, nr38⟩ := and_e nr37
  obtain ⟨nn39, nr39⟩ := and_e nr38
  obtain ⟨nn40, nr40⟩ := and_e nr39
  obtain ⟨nn41, nr41⟩ := and_e nr40
  obtain ⟨nn42, nr42⟩ := and_e nr41
  obtain ⟨nn43, nr43⟩ := and_e nr42
  obtain ⟨nn44, nr44⟩ := and_e nr43
  obtain ⟨r_Kind_CREATE_TREE, ev_Kind_CREATE_TREE⟩ := exa_v nn0
  have S_Kind_CREATE_TREE := Sta.start ev_Kind_CREATE_TREE (Or.inr ⟨hw _ (List.mem_of_getElem? (i := 3) rfl), hw _ (List.mem_of_getElem? (i := 4) rfl)⟩)
  have A_Kind_CREATE_TREE := Exa.start ev_Kind_CREATE_TREE nn0
  obtain ⟨r_Kind_APPEND_CHILD, ev_Kind_APPEND_CHILD⟩ := exa_v nn1
  have S_Kind_APPEND_CHILD := Sta.start ev_Kind_APPEND_CHILD (Or.inr ⟨hw _ (List.mem_of_getElem? (i := 3) rfl), hw _ (List.mem_of_getElem? (i := 7) rfl)⟩)
  have A_Kind_APPEND_CHILD := Exa.start ev_Kind_APPEND_CHILD nn1
  obtain ⟨r_Kind_DELETE_CHILD, ev_Kind_DELETE_CHILD⟩ := exa_v nn2
  have S_Kind_DELETE_CHILD := Sta.start ev_Kind_DELETE_CHILD (Or.inr ⟨hw _ (List.mem_of_getElem? (i := 3) rfl), hw _ (List.mem_of_getElem? (i := 9) rfl)⟩)
  have A_Kind_DELETE_CHILD := Exa.start ev_Kind_DELETE_CHILD nn2
  obtain ⟨r_Kind_PUT_ATTRIBUTE, ev_Kind_PUT_ATTRIBUTE⟩ := exa_v nn3
  have S_Kind_PUT_ATTRIBUTE := Sta.start ev_Kind_PUT_ATTRIBUTE (Or.inr ⟨hw _ (List.mem_of_getElem? (i := 3) rfl), hw _ (List.mem_of_getElem? (i := 11) rfl)⟩)
  have A_Kind_PUT_ATTRIBUTE := Exa.start ev_Kind_PUT_ATTRIBUTE nn3
  obtain ⟨r_Kind_DELETE_ATTRIBUTE, ev_Kind_DELETE_ATTRIBUTE⟩ := exa_v nn4
  have S_Kind_DELETE_ATTRIBUTE := Sta.start ev_Kind_DELETE_ATTRIBUTE (Or.inr ⟨hw _ (List.mem_of_getElem? (i := 3) rfl), hw _ (List.mem_of_getElem? (i := 13) rfl)⟩)
  have A_Kind_DELETE_ATTRIBUTE := Exa.start ev_Kind_DELETE_ATTRIBUTE nn4
  obtain ⟨r_Kind_COMMIT, ev_Kind_COMMIT⟩ := exa_v nn5
  have S_Kind_COMMIT := Sta.start ev_Kind_COMMIT (Or.inr ⟨hw _ (List.mem_of_getElem? (i := 3) rfl), hw _ (List.mem_of_getElem? (i := 15) rfl)⟩)
  have A_Kind_COMMIT := Exa.start ev_Kind_COMMIT nn5
  obtain ⟨r_Kind_PUSH_ROOT, ev_Kind_PUSH_ROOT⟩ := exa_v nn6
  have S_Kind_PUSH_ROOT := Sta.start ev_Kind_PUSH_ROOT (Or.inr ⟨hw _ (List.mem_of_getElem? (i := 3) rfl), hw _ (List.mem_of_getElem? (i := 17) rfl)⟩)
  have A_Kind_PUSH_ROOT := Exa.start ev_Kind_PUSH_ROOT nn6
  obtain ⟨r_Kind_CREATE_APPEND_TREE, ev_Kind_CREATE_APPEND_TREE⟩ := exa_v nn7
  have S_Kind_CREATE_APPEND_TREE := Sta.start ev_Kind_CREATE_APPEND_TREE (Or.inr ⟨hw _ (List.mem_of_getElem? (i := 3) rfl), hw _ (List.mem_of_getElem? (i := 19) rfl)⟩)
  have A_Kind_CREATE_APPEND_TREE := Exa.start ev_Kind_CREATE_APPEND_TREE nn7
  obtain ⟨r_Kind_CREATE_KEYED_TREE, ev_Kind_CREATE_KEYED_TREE⟩ := exa_v nn8
  have S_Kind_CREATE_KEYED_TREE := Sta.start ev_Kind_CREATE_KEYED_TREE (Or.inr ⟨hw _ (List.mem_of_getElem? (i := 3) rfl), hw _ (List.mem_of_getElem? (i := 21) rfl)⟩)
  have A_Kind_CREATE_KEYED_TREE := Exa.start ev_Kind_CREATE_KEYED_TREE nn8
  obtain ⟨r_Kind_INSERT_NODE, ev_Kind_INSERT_NODE⟩ := exa_v nn9
  have S_Kind_INSERT_NODE := Sta.start ev_Kind_INSERT_NODE (Or.inr ⟨hw _ (List.mem_of_getElem? (i := 3) rfl), hw _ (List.mem_of_getElem? (i := 23) rfl)⟩)
  have A_Kind_INSERT_NODE := Exa.start ev_Kind_INSERT_NODE nn9
  obtain ⟨r_Kind_DELETE_NODE, ev_Kind_DELETE_NODE⟩ := exa_v nn10
  have S_Kind_DELETE_NODE := Sta.start ev_Kind_DELETE_NODE (Or.inr ⟨hw _ (List.mem_of_getElem? (i := 3) rfl), hw _ (List.mem_of_getElem? (i := 25) rfl)⟩)
  have A_Kind_DELETE_NODE := Exa.start ev_Kind_DELETE_NODE nn10
  obtain ⟨r_Role_CREATION, ev_Role_CREATION⟩ := exa_v nn11
  have S_Role_CREATION := Sta.start ev_Role_CREATION (Or.inr ⟨hw _ (List.mem_of_getElem? (i := 28) rfl), hw _ (List.mem_of_getElem? (i := 29) rfl)⟩)
  have A_Role_CREATION := Exa.start ev_Role_CREATION nn11
  obtain ⟨r_Layout_PLAIN, ev_Layout_PLAIN⟩ := exa_v nn12
  have S_Layout_PLAIN := Sta.start ev_Layout_PLAIN (Or.inr ⟨hw _ (List.mem_of_getElem? (i := 37) rfl), hw _ (List.mem_of_getElem? (i := 38) rfl)⟩)
  have A_Layout_PLAIN := Exa.start ev_Layout_PLAIN nn12
  obtain ⟨r_Role_OPERATION, ev_Role_OPERATION⟩ := exa_v nn14
  have S_Role_OPERATION := Sta.start ev_Role_OPERATION (Or.inr ⟨hw _ (List.mem_of_getElem? (i := 28) rfl), hw _ (List.mem_of_getElem? (i := 41) rfl)⟩)
  have A_Role_OPERATION := Exa.start ev_Role_OPERATION nn14
  obtain ⟨r_Operation_Kind_PUT_ATTRIBUTE, ev_Operation_Kind_PUT_ATTRIBUTE⟩ := exa_v nn16
  have S_Operation_Kind_PUT_ATTRIBUTE := Sta.start ev_Operation_Kind_PUT_ATTRIBUTE (Or.inr ⟨hw _ (List.mem_of_getElem? (i := 44) rfl), hw _ (List.mem_of_getElem? (i := 45) rfl)⟩)
  have A_Operation_Kind_PUT_ATTRIBUTE := Exa.start ev_Operation_Kind_PUT_ATTRIBUTE nn16
  obtain ⟨r_Layout_APPEND, ev_Layout_APPEND⟩ := exa_v nn18
  have S_Layout_APPEND := Sta.start ev_Layout_APPEND (Or.inr ⟨hw _ (List.mem_of_getElem? (i := 37) rfl), hw _ (List.mem_of_getElem? (i := 47) rfl)⟩)
  have A_Layout_APPEND := Exa.start ev_Layout_APPEND nn18
  obtain ⟨r_Layout_KEYED, ev_Layout_KEYED⟩ := exa_v nn20
  have S_Layout_KEYED := Sta.start ev_Layout_KEYED (Or.inr ⟨hw _ (List.mem_of_getElem? (i := 37) rfl), hw _ (List.mem_of_getElem? (i := 48) rfl)⟩)
  have A_Layout_KEYED := Exa.start ev_Layout_KEYED nn20
  obtain ⟨r_Operation_Kind_DELETE_CHILD, ev_Operation_Kind_DELETE_CHILD⟩ := exa_v nn23
  have S_Operation_Kind_DELETE_CHILD := Sta.start ev_Operation_Kind_DELETE_CHILD (Or.inr ⟨hw _ (List.mem_of_getElem? (i := 44) rfl), hw _ (List.mem_of_getElem? (i := 49) rfl)⟩)
  have A_Operation_Kind_DELETE_CHILD := Exa.start ev_Operation_Kind_DELETE_CHILD nn23
  obtain ⟨r_Operation_Kind_DELETE_NODE, ev_Operation_Kind_DELETE_NODE⟩ := exa_v nn26
  have S_Operation_Kind_DELETE_NODE := Sta.start ev_Operation_Kind_DELETE_NODE (Or.inr ⟨hw _ (List.mem_of_getElem? (i := 44) rfl), hw _ (List.mem_of_getElem? (i := 50) rfl)⟩)
  have A_Operation_Kind_DELETE_NODE := Exa.start ev_Operation_Kind_DELETE_NODE nn26
  obtain ⟨r_Operation_Kind_APPEND_CHILD, ev_Operation_Kind_APPEND_CHILD⟩ := exa_v nn29
  have S_Operation_Kind_APPEND_CHILD := Sta.start ev_Operation_Kind_APPEND_CHILD (Or.inr ⟨hw _ (List.mem_of_getElem? (i := 44) rfl), hw _ (List.mem_of_getElem? (i := 51) rfl)⟩)
  have A_Operation_Kind_APPEND_CHILD := Exa.start ev_Operation_Kind_APPEND_CHILD nn29
  obtain ⟨r_Operation_Kind_INSERT_NODE, ev_Operation_Kind_INSERT_NODE⟩ := exa_v nn32
  have S_Operation_Kind_INSERT_NODE := Sta.start ev_Operation_Kind_INSERT_NODE (Or.inr ⟨hw _ (List.mem_of_getElem? (i := 44) rfl), hw _ (List.mem_of_getElem? (i := 52) rfl)⟩)
  have A_Operation_Kind_INSERT_NODE := Exa.start ev_Operation_Kind_INSERT_NODE nn32
  obtain ⟨r_Role_COMMIT_POINT, ev_Role_COMMIT_POINT⟩ := exa_v nn34
  have S_Role_COMMIT_POINT := Sta.start ev_Role_COMMIT_POINT (Or.inr ⟨hw _ (List.mem_of_getElem? (i := 28) rfl), hw _ (List.mem_of_getElem? (i := 54) rfl)⟩)
  have A_Role_COMMIT_POINT := Exa.start ev_Role_COMMIT_POINT nn34
  obtain ⟨r_Operation_Kind_PUSH_ROOT, ev_Operation_Kind_PUSH_ROOT⟩ := exa_v nn38
  have S_Operation_Kind_PUSH_ROOT := Sta.start ev_Operation_Kind_PUSH_ROOT (Or.inr ⟨hw _ (List.mem_of_getElem? (i := 44) rfl), hw _ (List.mem_of_getElem? (i := 56) rfl)⟩)
  have A_Operation_Kind_PUSH_ROOT := Exa.start ev_Operation_Kind_PUSH_ROOT nn38
  obtain ⟨r_Operation_Kind_DELETE_ATTRIBUTE, ev_Operation_Kind_DELETE_ATTRIBUTE⟩ := exa_v nn41
  have S_Operation_Kind_DELETE_ATTRIBUTE := Sta.start ev_Operation_Kind_DELETE_ATTRIBUTE (Or.inr ⟨hw _ (List.mem_of_getElem? (i := 44) rfl), hw _ (List.mem_of_getElem? (i := 57) rfl)⟩)
  have A_Operation_Kind_DELETE_ATTRIBUTE := Exa.start ev_Operation_Kind_DELETE_ATTRIBUTE nn41
  have F_Kind_CREATE_TREE__creates := Fld.start ((fld_at ev_Kind_CREATE_TREE).symm.trans (own_eqR nn13 ev_Layout_PLAIN))
  have F_Kind_PUT_ATTRIBUTE__creates := Fld.start ((fld_at ev_Kind_PUT_ATTRIBUTE).symm.trans (null_v nn15))
  have F_Kind_PUT_ATTRIBUTE__operation := Fld.start ((fld_at ev_Kind_PUT_ATTRIBUTE).symm.trans (own_eqR nn17 ev_Operation_Kind_PUT_ATTRIBUTE))
  have F_Kind_CREATE_APPEND_TREE__creates := Fld.start ((fld_at ev_Kind_CREATE_APPEND_TREE).symm.trans (own_eqR nn19 ev_Layout_APPEND))
  have F_Kind_CREATE_KEYED_TREE__creates := Fld.start ((fld_at ev_Kind_CREATE_KEYED_TREE).symm.trans (own_eqR nn21 ev_Layout_KEYED))
  have F_Kind_DELETE_CHILD__creates := Fld.start ((fld_at ev_Kind_DELETE_CHILD).symm.trans (null_v nn22))
  have F_Kind_DELETE_CHILD__operation := Fld.start ((fld_at ev_Kind_DELETE_CHILD).symm.trans (own_eqR nn24 ev_Operation_Kind_DELETE_CHILD))
  have F_Kind_DELETE_NODE__creates := Fld.start ((fld_at ev_Kind_DELETE_NODE).symm.trans (null_v nn25))
  have F_Kind_DELETE_NODE__operation := Fld.start ((fld_at ev_Kind_DELETE_NODE).symm.trans (own_eqR nn27 ev_Operation_Kind_DELETE_NODE))
  have F_Kind_APPEND_CHILD__creates := Fld.start ((fld_at ev_Kind_APPEND_CHILD).symm.trans (null_v nn28))
  have F_Kind_APPEND_CHILD__operation := Fld.start ((fld_at ev_Kind_APPEND_CHILD).symm.trans (own_eqR nn30 ev_Operation_Kind_APPEND_CHILD))
  have F_Kind_INSERT_NODE__creates := Fld.start ((fld_at ev_Kind_INSERT_NODE).symm.trans (null_v nn31))
  have F_Kind_INSERT_NODE__operation := Fld.start ((fld_at ev_Kind_INSERT_NODE).symm.trans (own_eqR nn33 ev_Operation_Kind_INSERT_NODE))
  have F_Kind_COMMIT__creates := Fld.start ((fld_at ev_Kind_COMMIT).symm.trans (null_v nn35))
  have F_Kind_COMMIT__operation := Fld.start ((fld_at ev_Kind_COMMIT).symm.trans (null_v nn36))
  have F_Kind_PUSH_ROOT__creates := Fld.start ((fld_at ev_Kind_PUSH_ROOT).symm.trans (null_v nn37))
  have F_Kind_PUSH_ROOT__operation := Fld.start ((fld_at ev_Kind_PUSH_ROOT).symm.trans (own_eqR nn39 ev_Operation_Kind_PUSH_ROOT))
  have F_Kind_DELETE_ATTRIBUTE__creates := Fld.start ((fld_at ev_Kind_DELETE_ATTRIBUTE).symm.trans (null_v nn40))
  have F_Kind_DELETE_ATTRIBUTE__operation := Fld.start ((fld_at ev_Kind_DELETE_ATTRIBUTE).symm.trans (own_eqR nn42 ev_Operation_Kind_DELETE_ATTRIBUTE))
  have F_Kind_CREATE_TREE__operation := Fld.start ((fld_at ev_Kind_CREATE_TREE).symm.trans (null_v nn43))
  have F_Kind_CREATE_APPEND_TREE__operation := Fld.start ((fld_at ev_Kind_CREATE_APPEND_TREE).symm.trans (null_v nn44))
  have F_Kind_CREATE_KEYED_TREE__operation := Fld.start ((fld_at ev_Kind_CREATE_KEYED_TREE).symm.trans (null_v nr44))
  obtain ⟨n, o, h1, h2, h3, _, L, rfl, ⟨hv, N⟩, hq⟩ := rm_law l s _ hw tables_1 i0 r_Kind_CREATE_TREE r_Kind_APPEND_CHILD r_Kind_DELETE_CHILD r_Kind_PUT_ATTRIBUTE r_Kind_DELETE_ATTRIBUTE r_Kind_COMMIT r_Kind_PUSH_ROOT r_Kind_CREATE_APPEND_TREE r_Kind_CREATE_KEYED_TREE r_Kind_INSERT_NODE r_Kind_DELETE_NODE r_Role_CREATION r_Role_COMMIT_POINT r_Role_OPERATION r_Layout_PLAIN r_Operation_Kind_APPEND_CHILD r_Operation_Kind_DELETE_CHILD r_Operation_Kind_PUT_ATTRIBUTE r_Operation_Kind_DELETE_ATTRIBUTE r_Operation_Kind_PUSH_ROOT r_Layout_APPEND r_Layout_KEYED r_Operation_Kind_INSERT_NODE r_Operation_Kind_DELETE_NODE s.heap s.heap.size (Nat.le_refl _) S_Kind_CREATE_TREE S_Kind_APPEND_CHILD S_Kind_DELETE_CHILD S_Kind_PUT_ATTRIBUTE S_Kind_DELETE_ATTRIBUTE S_Kind_COMMIT S_Kind_PUSH_ROOT S_Kind_CREATE_APPEND_TREE S_Kind_CREATE_KEYED_TREE S_Kind_INSERT_NODE S_Kind_DELETE_NODE A_Kind_CREATE_TREE A_Kind_APPEND_CHILD A_Kind_DELETE_CHILD A_Kind_PUT_ATTRIBUTE A_Kind_DELETE_ATTRIBUTE A_Kind_COMMIT A_Kind_PUSH_ROOT A_Kind_CREATE_APPEND_TREE A_Kind_CREATE_KEYED_TREE A_Kind_INSERT_NODE A_Kind_DELETE_NODE S_Role_CREATION S_Role_COMMIT_POINT S_Role_OPERATION F_Kind_CREATE_TREE__creates F_Kind_CREATE_TREE__operation F_Kind_APPEND_CHILD__creates F_Kind_APPEND_CHILD__operation F_Kind_DELETE_CHILD__creates F_Kind_DELETE_CHILD__operation F_Kind_PUT_ATTRIBUTE__creates F_Kind_PUT_ATTRIBUTE__operation F_Kind_DELETE_ATTRIBUTE__creates F_Kind_DELETE_ATTRIBUTE__operation F_Kind_COMMIT__creates F_Kind_COMMIT__operation F_Kind_PUSH_ROOT__creates F_Kind_PUSH_ROOT__operation F_Kind_CREATE_APPEND_TREE__creates F_Kind_CREATE_APPEND_TREE__operation F_Kind_CREATE_KEYED_TREE__creates F_Kind_CREATE_KEYED_TREE__operation F_Kind_INSERT_NODE__creates F_Kind_INSERT_NODE__operation F_Kind_DELETE_NODE__creates F_Kind_DELETE_NODE__operation p e ha hc hk s m _ below hf ((Spec.applies_iff_loose hf).mp happ).1 ⟨rfl, State.Warmed39.refl s, rfl⟩ trivial
  subst hv
  refine ⟨n, _, h1, h2, h3, hpost _ _ _ _ _ _ ⟨Cond.after_iff.mpr rfl, Cond.after_iff.mpr (eq_i res_at (Term.int_eval (1)) rfl), trivial⟩ ⟨hq.1, hq.2.1, (hq.2.2.sift fun y hy => Or.inr (N y hy)).mono (by decide) (by decide)⟩⟩
theorem main_1_1 : Claimed_1_1 := comes_1 fun _ _ _ _ _ _ h hF => ⟨h.1, hF⟩
theorem main_1_2 : Claimed_1_2 := comes_1 fun _ _ _ _ _ _ h hF => ⟨h.2.1, hF⟩
end Jvm.Pilot.@@N@@
namespace Jvm.Pilot.@@N@@
open Jvm Jvm.ClassFile Sem Op Lib Jvm.Free Jvm.Stand Jvm.Pilot.@@N@@.Jvm.D
/-! MADE BY PROGRAM (witnessworld.py) out of the Statement's table words and the real class files: 16 classes; the members and pool entries that the words name. The judged class is class 1, her method 1. -/
namespace start1
open Jvm.ClassFile
def u (s : String) : CpInfo := .utf8 (stringToUtf16 s)
/-- a pool by its gaps: so many unusable entries, then the entry; so many at the end -/
def gap : Nat → List CpInfo → List CpInfo
  | 0, r => r
  | n + 1, r => .unusable :: gap n r
def poolList (es : List (Nat × CpInfo)) (last : Nat) : List CpInfo := es.foldr (fun e r => gap e.1 (e.2 :: r)) (gap last [])
def pool (es : List (Nat × CpInfo)) (last : Nat) : Array CpInfo := ⟨poolList es last⟩
def fileOf (pool : Array CpInfo) (this : Nat) (attrs : Array Attribute := #[]) (ms : Array MethodInfo := #[]) (fl : Nat := 33) (sup : Nat := 0) (ifs : Array Nat := #[]) (fds : Array FieldInfo := #[]) : ClassFile where
  minorVersion := 0
  majorVersion := 65
  constantPool := pool
  accessFlags := fl
  thisClass := this
  superClass := sup
  interfaces := ifs
  fields := fds
  methods := ms
  attributes := attrs
def plain (name : String) (sup : Option ClassId) : Class where
  name := name
  kind := .ordinary
  loader := none
  accessFlags := 33
  super := sup
  interfaces := #[]
  cf := none
  fields := #[]
  methods := #[]
  instanceTypes := #[]
  staticTypes := #[]
  resolved := #[]
  callSites := []
  init := .initialized
  statics := none
  mirror := none

def pool0 : Array CpInfo := pool [(5, u "<init>"), (0, u "()V"), (1, .class_ 10), (1, u "java/lang/Object")] 113

def k0m0 : Method := { name := "<init>", desc := "()V", sig := { parameters := [], returnType := none }, accessFlags := 1, code := none }
/-- java/lang/Object -/
def k0 : Class := { plain "java/lang/Object" none with
  accessFlags := 33
  interfaces := #[]
  cf := some (fileOf pool0 8 #[] #[{ accessFlags := 1, nameIndex := 5, descriptorIndex := 6, attributes := #[] }] 33 0 #[] #[])
  fields := #[]
  methods := #[k0m0]
  instanceTypes := #[]
  staticTypes := #[]
  resolved := Array.replicate 124 none
  statics := none }

def pool1 : Array CpInfo := pool [(2, .class_ 4), (1, u "java/lang/Object"), (0, u "<init>"), (0, u "()V"), (0, .class_ 8), (0, u "com/example/coppice/coppice/log/Entry$Kind"), (0, .fieldref 7 10), (0, .nameAndType 11 12), (0, u "CREATE_TREE"), (0, u "Lcom/example/coppice/coppice/log/Entry$Kind;"), (0, .fieldref 7 14), (0, .nameAndType 15 12), (0, u "APPEND_CHILD"), (0, .fieldref 7 17), (0, .nameAndType 18 12), (0, u "DELETE_CHILD"), (0, .fieldref 7 20), (0, .nameAndType 21 12), (0, u "PUT_ATTRIBUTE"), (0, .fieldref 7 23), (0, .nameAndType 24 12), (0, u "DELETE_ATTRIBUTE"), (0, .fieldref 7 26), (0, .nameAndType 27 12), (0, u "COMMIT"), (0, .fieldref 7 29), (0, .nameAndType 30 12), (0, u "PUSH_ROOT"), (0, .fieldref 7 32), (0, .nameAndType 33 12), (0, u "CREATE_APPEND_TREE"), (0, .fieldref 7 35), (0, .nameAndType 36 12), (0, u "CREATE_KEYED_TREE"), (0, .fieldref 7 38), (0, .nameAndType 39 12), (0, u "INSERT_NODE"), (0, .fieldref 7 41), (0, .nameAndType 42 12), (0, u "DELETE_NODE"), (0, .integer 2147483647), (0, .fieldref 45 46), (0, .class_ 47), (0, .nameAndType 48 49), (0, u "com/example/coppice/coppice/log/Entry$Role"), (0, u "CREATION"), (0, u "Lcom/example/coppice/coppice/log/Entry$Role;"), (0, .fieldref 45 51), (0, .nameAndType 52 49), (0, u "COMMIT_POINT"), (0, .fieldref 45 54), (0, .nameAndType 55 49), (0, u "OPERATION"), (0, .methodref 7 57), (0, .nameAndType 58 59), (0, u "role"), (0, u "()Lcom/example/coppice/coppice/log/Entry$Role;"), (0, .class_ 61), (0, u "com/example/coppice/coppice/log/KindRolePinLaw"), (2, u "law"), (0, u "(I)Z")] 10

def k1m0 : Method := { name := "<init>", desc := "()V", sig := { parameters := [], returnType := none }, accessFlags := 1, code := none }
def k1c1 : Code := { maxStack := 4, maxLocals := 5, code := code, exceptionTable := #[], attributes := #[] }
def k1m1 : Method := { name := "law", desc := "(I)Z", sig := { parameters := [.int], returnType := some .boolean }, accessFlags := 9, code := some k1c1 }
/-- com/example/coppice/coppice/log/KindRolePinLaw -/
def k1 : Class := { plain "com/example/coppice/coppice/log/KindRolePinLaw" (some 0) with
  accessFlags := 49
  interfaces := #[]
  cf := some (fileOf pool1 60 #[] #[{ accessFlags := 1, nameIndex := 5, descriptorIndex := 6, attributes := #[] }, { accessFlags := 9, nameIndex := 64, descriptorIndex := 65, attributes := #[] }] 49 2 #[] #[])
  fields := #[]
  methods := #[k1m0, k1m1]
  instanceTypes := #[]
  staticTypes := #[]
  resolved := Array.replicate 76 none
  statics := none }

def pool2 : Array CpInfo := pool [(1, .class_ 2), (0, u "java/lang/constant/Constable"), (0, .class_ 4), (0, u "java/lang/Object")] 6

/-- java/lang/constant/Constable -/
def k2 : Class := { plain "java/lang/constant/Constable" (some 0) with
  accessFlags := 1537
  interfaces := #[]
  cf := some (fileOf pool2 1 #[] #[] 1537 3 #[] #[])
  fields := #[]
  methods := #[]
  instanceTypes := #[]
  staticTypes := #[]
  resolved := Array.replicate 11 none
  statics := none }

def pool3 : Array CpInfo := pool [(1, .class_ 2), (0, u "java/lang/Comparable"), (0, .class_ 4), (0, u "java/lang/Object")] 7

/-- java/lang/Comparable -/
def k3 : Class := { plain "java/lang/Comparable" (some 0) with
  accessFlags := 1537
  interfaces := #[]
  cf := some (fileOf pool3 1 #[] #[] 1537 3 #[] #[])
  fields := #[]
  methods := #[]
  instanceTypes := #[]
  staticTypes := #[]
  resolved := Array.replicate 12 none
  statics := none }

def pool4 : Array CpInfo := pool [(1, .class_ 2), (0, u "java/io/Serializable"), (0, .class_ 4), (0, u "java/lang/Object")] 2

/-- java/io/Serializable -/
def k4 : Class := { plain "java/io/Serializable" (some 0) with
  accessFlags := 1537
  interfaces := #[]
  cf := some (fileOf pool4 1 #[] #[] 1537 3 #[] #[])
  fields := #[]
  methods := #[]
  instanceTypes := #[]
  staticTypes := #[]
  resolved := Array.replicate 7 none
  statics := none }

def pool5 : Array CpInfo := pool [(2, .class_ 4), (1, u "java/lang/Enum"), (0, u "name"), (0, u "Ljava/lang/String;"), (2, u "ordinal"), (0, u "I"), (1, .class_ 14), (1, u "java/lang/Object"), (4, u "hash"), (86, .class_ 108), (1, u "java/lang/Enum$EnumDesc"), (2, .class_ 112), (0, u "java/lang/constant/Constable"), (0, .class_ 114), (0, u "java/lang/Comparable"), (0, .class_ 116), (0, u "java/io/Serializable")] 87

/-- java/lang/Enum -/
def k5 : Class := { plain "java/lang/Enum" (some 0) with
  accessFlags := 1057
  interfaces := #[2, 3, 4]
  cf := some (fileOf pool5 2 #[.nestMembers #[106]] #[] 1057 12 #[111, 113, 115] #[{ accessFlags := 18, nameIndex := 5, descriptorIndex := 6, attributes := #[] }, { accessFlags := 18, nameIndex := 9, descriptorIndex := 10, attributes := #[] }, { accessFlags := 2, nameIndex := 19, descriptorIndex := 10, attributes := #[] }])
  fields := #[{ name := "name", type := (.object "java/lang/String"), accessFlags := 18, slot := 0, constantValue := 0 }, { name := "ordinal", type := .int, accessFlags := 18, slot := 1, constantValue := 0 }, { name := "hash", type := .int, accessFlags := 2, slot := 2, constantValue := 0 }]
  methods := #[]
  instanceTypes := #[(.object "java/lang/String"), .int, .int]
  staticTypes := #[]
  resolved := Array.replicate 204 none
  statics := none }

def pool6 : Array CpInfo := pool [(1, .class_ 2), (0, u "com/example/coppice/coppice/log/Entry$Kind"), (2, u "CREATE_TREE"), (0, u "Lcom/example/coppice/coppice/log/Entry$Kind;"), (2, u "APPEND_CHILD"), (2, u "DELETE_CHILD"), (2, u "PUT_ATTRIBUTE"), (2, u "DELETE_ATTRIBUTE"), (2, u "COMMIT"), (2, u "PUSH_ROOT"), (2, u "CREATE_APPEND_TREE"), (2, u "CREATE_KEYED_TREE"), (2, u "INSERT_NODE"), (2, u "DELETE_NODE"), (2, u "$VALUES"), (0, u "[Lcom/example/coppice/coppice/log/Entry$Kind;"), (6, .class_ 49), (1, u "java/lang/Enum"), (8, u "_code"), (0, u "I"), (0, .fieldref 1 61), (0, .nameAndType 62 63), (0, u "_operation"), (0, u "Lcom/example/coppice/coppice/tree/Operation$Kind;"), (0, .fieldref 1 65), (0, .nameAndType 66 67), (0, u "_creates"), (0, u "Lcom/example/coppice/coppice/revision/TreeKind$Layout;"), (0, .fieldref 69 70), (0, .class_ 71), (0, .nameAndType 72 73), (0, u "com/example/coppice/coppice/log/Entry$Role"), (0, u "CREATION"), (0, u "Lcom/example/coppice/coppice/log/Entry$Role;"), (0, .fieldref 69 75), (0, .nameAndType 76 73), (0, u "OPERATION"), (0, .fieldref 69 78), (0, .nameAndType 79 73), (0, u "COMMIT_POINT"), (81, u "role"), (0, u "()Lcom/example/coppice/coppice/log/Entry$Role;"), (17, .class_ 181), (0, u "com/example/coppice/coppice/log/Entry")] 24

def k6c0 : Code := { maxStack := 1, maxLocals := 1, code := prog_29_method_5_code, exceptionTable := #[], attributes := #[] }
def k6m0 : Method := { name := "role", desc := "()Lcom/example/coppice/coppice/log/Entry$Role;", sig := { parameters := [], returnType := some (.object "com/example/coppice/coppice/log/Entry$Role") }, accessFlags := 0, code := some k6c0 }
/-- com/example/coppice/coppice/log/Entry$Kind -/
def k6 : Class := { plain "com/example/coppice/coppice/log/Entry$Kind" (some 5) with
  accessFlags := 16432
  interfaces := #[]
  cf := some (fileOf pool6 1 #[.nestHost 180] #[{ accessFlags := 0, nameIndex := 161, descriptorIndex := 162, attributes := #[] }] 16432 47 #[] #[{ accessFlags := 16409, nameIndex := 5, descriptorIndex := 6, attributes := #[] }, { accessFlags := 16409, nameIndex := 9, descriptorIndex := 6, attributes := #[] }, { accessFlags := 16409, nameIndex := 12, descriptorIndex := 6, attributes := #[] }, { accessFlags := 16409, nameIndex := 15, descriptorIndex := 6, attributes := #[] }, { accessFlags := 16409, nameIndex := 18, descriptorIndex := 6, attributes := #[] }, { accessFlags := 16409, nameIndex := 21, descriptorIndex := 6, attributes := #[] }, { accessFlags := 16409, nameIndex := 24, descriptorIndex := 6, attributes := #[] }, { accessFlags := 16409, nameIndex := 27, descriptorIndex := 6, attributes := #[] }, { accessFlags := 16409, nameIndex := 30, descriptorIndex := 6, attributes := #[] }, { accessFlags := 16409, nameIndex := 33, descriptorIndex := 6, attributes := #[] }, { accessFlags := 16409, nameIndex := 36, descriptorIndex := 6, attributes := #[] }, { accessFlags := 18, nameIndex := 58, descriptorIndex := 59, attributes := #[] }, { accessFlags := 18, nameIndex := 62, descriptorIndex := 63, attributes := #[] }, { accessFlags := 18, nameIndex := 66, descriptorIndex := 67, attributes := #[] }, { accessFlags := 4122, nameIndex := 39, descriptorIndex := 40, attributes := #[] }])
  fields := #[{ name := "CREATE_TREE", type := (.object "com/example/coppice/coppice/log/Entry$Kind"), accessFlags := 16409, slot := 0, constantValue := 0 }, { name := "APPEND_CHILD", type := (.object "com/example/coppice/coppice/log/Entry$Kind"), accessFlags := 16409, slot := 1, constantValue := 0 }, { name := "DELETE_CHILD", type := (.object "com/example/coppice/coppice/log/Entry$Kind"), accessFlags := 16409, slot := 2, constantValue := 0 }, { name := "PUT_ATTRIBUTE", type := (.object "com/example/coppice/coppice/log/Entry$Kind"), accessFlags := 16409, slot := 3, constantValue := 0 }, { name := "DELETE_ATTRIBUTE", type := (.object "com/example/coppice/coppice/log/Entry$Kind"), accessFlags := 16409, slot := 4, constantValue := 0 }, { name := "COMMIT", type := (.object "com/example/coppice/coppice/log/Entry$Kind"), accessFlags := 16409, slot := 5, constantValue := 0 }, { name := "PUSH_ROOT", type := (.object "com/example/coppice/coppice/log/Entry$Kind"), accessFlags := 16409, slot := 6, constantValue := 0 }, { name := "CREATE_APPEND_TREE", type := (.object "com/example/coppice/coppice/log/Entry$Kind"), accessFlags := 16409, slot := 7, constantValue := 0 }, { name := "CREATE_KEYED_TREE", type := (.object "com/example/coppice/coppice/log/Entry$Kind"), accessFlags := 16409, slot := 8, constantValue := 0 }, { name := "INSERT_NODE", type := (.object "com/example/coppice/coppice/log/Entry$Kind"), accessFlags := 16409, slot := 9, constantValue := 0 }, { name := "DELETE_NODE", type := (.object "com/example/coppice/coppice/log/Entry$Kind"), accessFlags := 16409, slot := 10, constantValue := 0 }, { name := "_code", type := .int, accessFlags := 18, slot := 3, constantValue := 0 }, { name := "_operation", type := (.object "com/example/coppice/coppice/tree/Operation$Kind"), accessFlags := 18, slot := 4, constantValue := 0 }, { name := "_creates", type := (.object "com/example/coppice/coppice/revision/TreeKind$Layout"), accessFlags := 18, slot := 5, constantValue := 0 }, { name := "$VALUES", type := (.array (.object "com/example/coppice/coppice/log/Entry$Kind")), accessFlags := 4122, slot := 11, constantValue := 0 }]
  methods := #[k6m0]
  instanceTypes := #[(.object "java/lang/String"), .int, .int, .int, (.object "com/example/coppice/coppice/tree/Operation$Kind"), (.object "com/example/coppice/coppice/revision/TreeKind$Layout")]
  staticTypes := #[(.object "com/example/coppice/coppice/log/Entry$Kind"), (.object "com/example/coppice/coppice/log/Entry$Kind"), (.object "com/example/coppice/coppice/log/Entry$Kind"), (.object "com/example/coppice/coppice/log/Entry$Kind"), (.object "com/example/coppice/coppice/log/Entry$Kind"), (.object "com/example/coppice/coppice/log/Entry$Kind"), (.object "com/example/coppice/coppice/log/Entry$Kind"), (.object "com/example/coppice/coppice/log/Entry$Kind"), (.object "com/example/coppice/coppice/log/Entry$Kind"), (.object "com/example/coppice/coppice/log/Entry$Kind"), (.object "com/example/coppice/coppice/log/Entry$Kind"), (.array (.object "com/example/coppice/coppice/log/Entry$Kind"))]
  resolved := Array.replicate 206 none
  statics := some 0 }

def pool7 : Array CpInfo := pool [(1, .class_ 2), (0, u "com/example/coppice/coppice/log/Entry$Role"), (2, u "CREATION"), (0, u "Lcom/example/coppice/coppice/log/Entry$Role;"), (2, u "OPERATION"), (2, u "COMMIT_POINT"), (2, u "$VALUES"), (0, u "[Lcom/example/coppice/coppice/log/Entry$Role;"), (6, .class_ 25), (1, u "java/lang/Enum"), (26, .class_ 53), (0, u "com/example/coppice/coppice/log/Entry")] 2

/-- com/example/coppice/coppice/log/Entry$Role -/
def k7 : Class := { plain "com/example/coppice/coppice/log/Entry$Role" (some 5) with
  accessFlags := 16432
  interfaces := #[]
  cf := some (fileOf pool7 1 #[.nestHost 52] #[] 16432 23 #[] #[{ accessFlags := 16409, nameIndex := 5, descriptorIndex := 6, attributes := #[] }, { accessFlags := 16409, nameIndex := 9, descriptorIndex := 6, attributes := #[] }, { accessFlags := 16409, nameIndex := 12, descriptorIndex := 6, attributes := #[] }, { accessFlags := 4122, nameIndex := 15, descriptorIndex := 16, attributes := #[] }])
  fields := #[{ name := "CREATION", type := (.object "com/example/coppice/coppice/log/Entry$Role"), accessFlags := 16409, slot := 0, constantValue := 0 }, { name := "OPERATION", type := (.object "com/example/coppice/coppice/log/Entry$Role"), accessFlags := 16409, slot := 1, constantValue := 0 }, { name := "COMMIT_POINT", type := (.object "com/example/coppice/coppice/log/Entry$Role"), accessFlags := 16409, slot := 2, constantValue := 0 }, { name := "$VALUES", type := (.array (.object "com/example/coppice/coppice/log/Entry$Role")), accessFlags := 4122, slot := 3, constantValue := 0 }]
  methods := #[]
  instanceTypes := #[(.object "java/lang/String"), .int, .int]
  staticTypes := #[(.object "com/example/coppice/coppice/log/Entry$Role"), (.object "com/example/coppice/coppice/log/Entry$Role"), (.object "com/example/coppice/coppice/log/Entry$Role"), (.array (.object "com/example/coppice/coppice/log/Entry$Role"))]
  resolved := Array.replicate 56 none
  statics := some 1 }

def pool8 : Array CpInfo := pool [(1, .class_ 2), (0, u "com/example/coppice/coppice/revision/TreeKind$Layout"), (2, u "PLAIN"), (0, u "Lcom/example/coppice/coppice/revision/TreeKind$Layout;"), (2, u "APPEND"), (2, u "KEYED"), (2, u "$VALUES"), (0, u "[Lcom/example/coppice/coppice/revision/TreeKind$Layout;"), (6, .class_ 25), (1, u "java/lang/Enum"), (26, .class_ 53), (0, u "com/example/coppice/coppice/revision/TreeKind")] 2

/-- com/example/coppice/coppice/revision/TreeKind$Layout -/
def k8 : Class := { plain "com/example/coppice/coppice/revision/TreeKind$Layout" (some 5) with
  accessFlags := 16433
  interfaces := #[]
  cf := some (fileOf pool8 1 #[.nestHost 52] #[] 16433 23 #[] #[{ accessFlags := 16409, nameIndex := 5, descriptorIndex := 6, attributes := #[] }, { accessFlags := 16409, nameIndex := 9, descriptorIndex := 6, attributes := #[] }, { accessFlags := 16409, nameIndex := 12, descriptorIndex := 6, attributes := #[] }, { accessFlags := 4122, nameIndex := 15, descriptorIndex := 16, attributes := #[] }])
  fields := #[{ name := "PLAIN", type := (.object "com/example/coppice/coppice/revision/TreeKind$Layout"), accessFlags := 16409, slot := 0, constantValue := 0 }, { name := "APPEND", type := (.object "com/example/coppice/coppice/revision/TreeKind$Layout"), accessFlags := 16409, slot := 1, constantValue := 0 }, { name := "KEYED", type := (.object "com/example/coppice/coppice/revision/TreeKind$Layout"), accessFlags := 16409, slot := 2, constantValue := 0 }, { name := "$VALUES", type := (.array (.object "com/example/coppice/coppice/revision/TreeKind$Layout")), accessFlags := 4122, slot := 3, constantValue := 0 }]
  methods := #[]
  instanceTypes := #[(.object "java/lang/String"), .int, .int]
  staticTypes := #[(.object "com/example/coppice/coppice/revision/TreeKind$Layout"), (.object "com/example/coppice/coppice/revision/TreeKind$Layout"), (.object "com/example/coppice/coppice/revision/TreeKind$Layout"), (.array (.object "com/example/coppice/coppice/revision/TreeKind$Layout"))]
  resolved := Array.replicate 56 none
  statics := some 2 }

def pool9 : Array CpInfo := pool [(1, .class_ 2), (0, u "com/example/coppice/coppice/tree/Operation$Kind"), (2, u "APPEND_CHILD"), (0, u "Lcom/example/coppice/coppice/tree/Operation$Kind;"), (2, u "DELETE_CHILD"), (2, u "PUT_ATTRIBUTE"), (2, u "DELETE_ATTRIBUTE"), (2, u "PUSH_ROOT"), (2, u "INSERT_NODE"), (2, u "DELETE_NODE"), (2, u "$VALUES"), (0, u "[Lcom/example/coppice/coppice/tree/Operation$Kind;"), (6, .class_ 37), (1, u "java/lang/Enum"), (14, u "_fields"), (0, u "Ljava/util/List;"), (46, .class_ 101), (0, u "com/example/coppice/coppice/tree/Operation")] 3

/-- com/example/coppice/coppice/tree/Operation$Kind -/
def k9 : Class := { plain "com/example/coppice/coppice/tree/Operation$Kind" (some 5) with
  accessFlags := 16433
  interfaces := #[]
  cf := some (fileOf pool9 1 #[.nestHost 100] #[] 16433 35 #[] #[{ accessFlags := 16409, nameIndex := 5, descriptorIndex := 6, attributes := #[] }, { accessFlags := 16409, nameIndex := 9, descriptorIndex := 6, attributes := #[] }, { accessFlags := 16409, nameIndex := 12, descriptorIndex := 6, attributes := #[] }, { accessFlags := 16409, nameIndex := 15, descriptorIndex := 6, attributes := #[] }, { accessFlags := 16409, nameIndex := 18, descriptorIndex := 6, attributes := #[] }, { accessFlags := 16409, nameIndex := 21, descriptorIndex := 6, attributes := #[] }, { accessFlags := 16409, nameIndex := 24, descriptorIndex := 6, attributes := #[] }, { accessFlags := 18, nameIndex := 52, descriptorIndex := 53, attributes := #[] }, { accessFlags := 4122, nameIndex := 27, descriptorIndex := 28, attributes := #[] }])
  fields := #[{ name := "APPEND_CHILD", type := (.object "com/example/coppice/coppice/tree/Operation$Kind"), accessFlags := 16409, slot := 0, constantValue := 0 }, { name := "DELETE_CHILD", type := (.object "com/example/coppice/coppice/tree/Operation$Kind"), accessFlags := 16409, slot := 1, constantValue := 0 }, { name := "PUT_ATTRIBUTE", type := (.object "com/example/coppice/coppice/tree/Operation$Kind"), accessFlags := 16409, slot := 2, constantValue := 0 }, { name := "DELETE_ATTRIBUTE", type := (.object "com/example/coppice/coppice/tree/Operation$Kind"), accessFlags := 16409, slot := 3, constantValue := 0 }, { name := "PUSH_ROOT", type := (.object "com/example/coppice/coppice/tree/Operation$Kind"), accessFlags := 16409, slot := 4, constantValue := 0 }, { name := "INSERT_NODE", type := (.object "com/example/coppice/coppice/tree/Operation$Kind"), accessFlags := 16409, slot := 5, constantValue := 0 }, { name := "DELETE_NODE", type := (.object "com/example/coppice/coppice/tree/Operation$Kind"), accessFlags := 16409, slot := 6, constantValue := 0 }, { name := "_fields", type := (.object "java/util/List"), accessFlags := 18, slot := 3, constantValue := 0 }, { name := "$VALUES", type := (.array (.object "com/example/coppice/coppice/tree/Operation$Kind")), accessFlags := 4122, slot := 7, constantValue := 0 }]
  methods := #[]
  instanceTypes := #[(.object "java/lang/String"), .int, .int, (.object "java/util/List")]
  staticTypes := #[(.object "com/example/coppice/coppice/tree/Operation$Kind"), (.object "com/example/coppice/coppice/tree/Operation$Kind"), (.object "com/example/coppice/coppice/tree/Operation$Kind"), (.object "com/example/coppice/coppice/tree/Operation$Kind"), (.object "com/example/coppice/coppice/tree/Operation$Kind"), (.object "com/example/coppice/coppice/tree/Operation$Kind"), (.object "com/example/coppice/coppice/tree/Operation$Kind"), (.array (.object "com/example/coppice/coppice/tree/Operation$Kind"))]
  resolved := Array.replicate 105 none
  statics := some 3 }

def pool10 : Array CpInfo := pool [(1, u "java/lang/Cloneable"), (0, .class_ 1), (0, u "java/lang/Object"), (0, .class_ 3)] 3

/-- java/lang/Cloneable -/
def k10 : Class := { plain "java/lang/Cloneable" (some 0) with
  accessFlags := 1537
  interfaces := #[]
  cf := some (fileOf pool10 2 #[] #[] 1537 4 #[] #[])
  fields := #[]
  methods := #[]
  instanceTypes := #[]
  staticTypes := #[]
  resolved := Array.replicate 8 none
  statics := none }

/-- the primitive byte -/
def k11 : Class := { plain "byte" none with kind := .primitive 'B', accessFlags := 0x411 }
/-- [B -/
def k12 : Class := { plain "[B" (some 0) with kind := .array 11 .byte, interfaces := #[10, 4], accessFlags := 1041 }

/-- the primitive int -/
def k13 : Class := { plain "int" none with kind := .primitive 'I', accessFlags := 0x411 }
/-- [I -/
def k14 : Class := { plain "[I" (some 0) with kind := .array 13 .int, interfaces := #[10, 4], accessFlags := 1041 }

/-- [Lcom/example/coppice/coppice/log/Entry$Kind; -/
def k15 : Class := { plain "[Lcom/example/coppice/coppice/log/Entry$Kind;" (some 0) with kind := .array 6 (.object "com/example/coppice/coppice/log/Entry$Kind"), interfaces := #[10, 4], accessFlags := 1041 }

def heap : Heap := #[{ cls := 6, slots := #[.ref 4, .ref 5, .ref 6, .ref 7, .ref 8, .ref 9, .ref 10, .ref 11, .ref 12, .ref 13, .ref 14, .null], vm := .statics 6 },
  { cls := 7, slots := #[.ref 15, .ref 17, .ref 25, .null], vm := .statics 7 },
  { cls := 8, slots := #[.ref 16, .ref 19, .ref 20, .null], vm := .statics 8 },
  { cls := 9, slots := #[.ref 23, .ref 21, .ref 18, .ref 27, .ref 26, .ref 24, .ref 22, .null], vm := .statics 9 },
  { cls := 6, slots := #[.null, .int 0, .int 0, .int 0, .null, .ref 16], vm := .none },
  { cls := 6, slots := #[.null, .int 0, .int 0, .int 0, .ref 23, .null], vm := .none },
  { cls := 6, slots := #[.null, .int 0, .int 0, .int 0, .ref 21, .null], vm := .none },
  { cls := 6, slots := #[.null, .int 0, .int 0, .int 0, .ref 18, .null], vm := .none },
  { cls := 6, slots := #[.null, .int 0, .int 0, .int 0, .ref 27, .null], vm := .none },
  { cls := 6, slots := #[.null, .int 0, .int 0, .int 0, .null, .null], vm := .none },
  { cls := 6, slots := #[.null, .int 0, .int 0, .int 0, .ref 26, .null], vm := .none },
  { cls := 6, slots := #[.null, .int 0, .int 0, .int 0, .null, .ref 19], vm := .none },
  { cls := 6, slots := #[.null, .int 0, .int 0, .int 0, .null, .ref 20], vm := .none },
  { cls := 6, slots := #[.null, .int 0, .int 0, .int 0, .ref 24, .null], vm := .none },
  { cls := 6, slots := #[.null, .int 0, .int 0, .int 0, .ref 22, .null], vm := .none },
  { cls := 7, slots := #[.null, .int 0, .int 0], vm := .none },
  { cls := 8, slots := #[.null, .int 0, .int 0], vm := .none },
  { cls := 7, slots := #[.null, .int 0, .int 0], vm := .none },
  { cls := 9, slots := #[.null, .int 0, .int 0, .null], vm := .none },
  { cls := 8, slots := #[.null, .int 0, .int 0], vm := .none },
  { cls := 8, slots := #[.null, .int 0, .int 0], vm := .none },
  { cls := 9, slots := #[.null, .int 0, .int 0, .null], vm := .none },
  { cls := 9, slots := #[.null, .int 0, .int 0, .null], vm := .none },
  { cls := 9, slots := #[.null, .int 0, .int 0, .null], vm := .none },
  { cls := 9, slots := #[.null, .int 0, .int 0, .null], vm := .none },
  { cls := 7, slots := #[.null, .int 0, .int 0], vm := .none },
  { cls := 9, slots := #[.null, .int 0, .int 0, .null], vm := .none },
  { cls := 9, slots := #[.null, .int 0, .int 0, .null], vm := .none }]
def classes : Array Class := #[k0, k1, k2, k3, k4, k5, k6, k7, k8, k9, k10, k11, k12, k13, k14, k15]
def interned : List (Array UInt16 × Addr) := []
def slotsUsed : Nat := 140
def theMethod : MethodId := ⟨1, 1⟩
def args0 : Array Value := #[.int 5]
def aboutOver (below : List Frame) : State where
  vm := { classes := classes, interned := interned.toArray }
  heap := heap
  slotsUsed := slotsUsed
  threads := #[{ frames := .invoking theMethod args0 :: below }]
def below0 : List Frame := [.native { method := ⟨0, 0⟩, args := #[] }]
def about1 : State := aboutOver below0
def p0 : Program := .bare "" "" ""
def e0 : Env := launch0.env 0 0 0
theorem w_frames : about1.frames = Frame.invoking theMethod args0 :: below0 := rfl
set_option maxRecDepth 65536 in
theorem w_args : argsFit about1.vm theMethod args0 = true := by decide +kernel
set_option maxRecDepth 65536 in
theorem w_heap : heapFits about1 = true := by decide +kernel
set_option maxRecDepth 65536 in
theorem w_runnable : about1.curStatus? = some .runnable := by decide +kernel
set_option maxRecDepth 65536 in
theorem w_alone : about1.alone = true := by decide +kernel
set_option maxRecDepth 65536 in
theorem w_named : about1.methodNamed? x = some theMethod := by decide +kernel
set_option maxRecDepth 65536 in
theorem w_hears : about1.hears theMethod below0 = true := by decide +kernel
set_option maxRecDepth 65536 in
theorem w_ripe : about1.ripe theMethod args0 below0 = true := by decide +kernel
theorem w_running : about1.status = .running := rfl
set_option maxRecDepth 65536 in
theorem w_room : about1.hasRoom e0.platform room_1 = true :=
  launch0.hasRoom_least _ room_1 (by decide +kernel) (by decide +kernel) (by decide +kernel) (by decide +kernel) (by decide +kernel) (by decide +kernel)
theorem allAtoms_all (ts : List Jvm.Cond) (a : Array Jvm.Value) (st : Jvm.State) : (allAtoms ts).before a st = ts.all (fun c => c.before a st) := by
  induction ts with
  | nil => rfl
  | cons c t ih =>
    show (Jvm.Cond.and c (allAtoms t)).before a st = _
    rw [Jvm.Cond.before_and, ih, List.all_cons]
def words1 : List Jvm.Cond := Jvm.Cond.code x code maxLocals ret :: tables_1
/-- a 'code' word, met by the world's own term for the bytes: nothing is compared byte by byte -/
theorem code_word {y : MethodName} {bytes : ByteArray} {mx : Nat} {rt : Option FieldType} {a : Array Value} {s : State} {m : MethodId} {meth : Method} {c : Code} (h1 : s.methodNamed? y = some m) (h2 : s.vm.method? m = some meth) (h3 : meth.code = some c) (h4 : c.code = bytes)
    (h5 : (c.maxLocals == mx && c.exceptionTable.isEmpty && decide (c.maxStack ≤ mostOperands) && decide (meth.sig.returnType = rt) && !meth.locks && decide (parseMethodDescriptor y.desc = some meth.sig)) = true) : (Jvm.Cond.code y bytes mx rt).before a s = true := by
  simp only [Bool.and_eq_true, beq_iff_eq, Bool.not_eq_true', decide_eq_true_eq] at h5
  obtain ⟨⟨⟨⟨⟨g1, g2⟩, g3⟩, g4⟩, g5⟩, g6⟩ := h5
  simp [Cond.before, Cond.holds, Cond.value, h1, h2, h3, h4, g1, g2, g3, g4, g5, g6]
def isCode : Jvm.Cond → Bool
  | .code _ _ _ _ => true
  | _ => false
theorem all_split {L : List Jvm.Cond} {P : Jvm.Cond → Bool} (h1 : L.all (fun c => isCode c || P c) = true) (h2 : ∀ c ∈ L.filter isCode, P c = true) : L.all P = true := by
  refine List.all_eq_true.mpr fun c hc => ?_
  have h := List.all_eq_true.mp h1 c hc
  rcases Bool.eq_false_or_eq_true (isCode c) with hi | hi
  · exact h2 c (List.mem_filter.mpr ⟨hc, hi⟩)
  · simpa [hi] using h
set_option maxRecDepth 65536 in
theorem w_c0 : (Jvm.Cond.code x code maxLocals ret).before args0 about1 = true := code_word (m := ⟨1, 1⟩) (meth := k1m1) (c := k1c1) (by decide +kernel) rfl rfl rfl (by decide +kernel)
set_option maxRecDepth 65536 in
theorem w_c1 : (Jvm.Cond.code ({ cls := "com/example/coppice/coppice/log/Entry$Kind", name := "role", desc := "()Lcom/example/coppice/coppice/log/Entry$Role;" } : Jvm.MethodName) prog_29_method_5_code (1 : Nat) (Option.some (Jvm.ClassFile.FieldType.object "com/example/coppice/coppice/log/Entry$Role"))).before args0 about1 = true := code_word (m := ⟨6, 0⟩) (meth := k6m0) (c := k6c0) (by decide +kernel) rfl rfl rfl (by decide +kernel)
def codes1 : List Jvm.Cond := [Jvm.Cond.code x code maxLocals ret, Jvm.Cond.code ({ cls := "com/example/coppice/coppice/log/Entry$Kind", name := "role", desc := "()Lcom/example/coppice/coppice/log/Entry$Role;" } : Jvm.MethodName) prog_29_method_5_code (1 : Nat) (Option.some (Jvm.ClassFile.FieldType.object "com/example/coppice/coppice/log/Entry$Role"))]
set_option maxRecDepth 65536 in
theorem codes_eq : words1.filter isCode = codes1 := rfl
theorem w_codes : ∀ c ∈ words1.filter isCode, c.before args0 about1 = true := by
  rw [codes_eq]
  intro c hc
  simp only [codes1, List.mem_cons, List.not_mem_nil, or_false] at hc
  rcases hc with rfl | rfl
  · exact w_c0
  · exact w_c1
set_option maxRecDepth 65536 in
theorem w_t1 : (words1.take 24).all (fun c => isCode c || c.before args0 about1) = true := by decide +kernel
set_option maxRecDepth 65536 in
theorem w_t2 : ((words1.drop 24).take 24).all (fun c => isCode c || c.before args0 about1) = true := by decide +kernel
set_option maxRecDepth 65536 in
theorem w_t3 : ((words1.drop 24).drop 24).all (fun c => isCode c || c.before args0 about1) = true := by decide +kernel
theorem w_tables : (allAtoms (Jvm.Cond.code x code maxLocals ret :: tables_1)).before args0 about1 = true := by
  rw [allAtoms_all]
  show words1.all (fun c => c.before args0 about1) = true
  refine all_split ?_ w_codes
  rw [← List.take_append_drop 24 words1, List.all_append, w_t1, ← List.take_append_drop 24 (words1.drop 24), List.all_append, w_t2, w_t3]
  rfl
set_option maxRecDepth 65536 in
theorem w_case : (Jvm.Cond.and given_1 narrow_1).before args0 about1 = true := by decide +kernel
theorem w_applies : (headSpec (Jvm.Cond.code x code maxLocals ret :: tables_1) room_1).applies x e0.platform about1 = true :=
  (Spec.applies_iff w_frames).mpr ⟨w_running, w_runnable, w_alone, w_named, w_hears, w_ripe, w_room, w_tables⟩
theorem atStart : AtStart classFile x code maxLocals ret World_1 tables_1 room_1 Calls_1 rest_1 Pre_1 launch0 p0 e0 about1 theMethod args0 below0 :=
  ⟨lists_1, trivial, launch0.admits_env _ _ _, launch0.least_env, fairChoices_fair.cas, fairChoices_fair.clock, w_frames, w_args, w_heap, w_applies, trivial, trivial, w_case⟩
end start1
theorem witness_1 : WitnessClaimed_1 := ⟨start1.p0, start1.e0, start1.about1, start1.theMethod, start1.args0, start1.below0, start1.atStart⟩
end Jvm.Pilot.@@N@@
