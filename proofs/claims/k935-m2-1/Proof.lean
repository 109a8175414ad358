import JvmDerived
import JvmDerived.Pilot.@@N@@Statement
import JvmDerived.Pilot.@@N@@Code
set_option linter.unusedVariables false
set_option linter.unusedSimpArgs false
namespace Jvm.Pilot.@@N@@
namespace W
open Jvm Jvm.ClassFile Sem Op Lib Jvm.Free Jvm.Stand Jvm.LawKit Jvm.RoadKit Bundle
/-- from U the run comes to an end that says G -/
def Go (tb : Tables) (e : Env) (below : List Frame) (G : Outcome → State → Prop) (U : State) : Prop := ∃ s₂ o, Steps tb e below U s₂ ∧ s₂.status = .running ∧ Ended s₂ below o ∧ G o s₂
theorem Go.via {tb : Tables} {e : Env} {below : List Frame} {G : Outcome → State → Prop} {U V : State} (f : ∀ t, Steps tb e below V t → Steps tb e below U t) (k : Go tb e below G V) : Go tb e below G U := by
  obtain ⟨s₂, o, h1, h⟩ := k; exact ⟨s₂, o, f _ h1, h⟩
theorem Go.tr {tb : Tables} {e : Env} {below : List Frame} {G : Outcome → State → Prop} {U V : State} (f : Steps tb e below U V) (k : Go tb e below G V) : Go tb e below G U := by
  obtain ⟨s₂, o, h1, h⟩ := k; exact ⟨s₂, o, f.trans h1, h⟩
/-- what a comparison of two ints says -/
abbrev cv (cd : ClassFile.Cond) (a b : Int32) : Prop := match cd with
  | .eq => a = b
  | .ne => ¬ a = b
  | .lt => a < b
  | .ge => ¬ a < b
  | .gt => b < a
  | .le => ¬ b < a
theorem cvY {cd : ClassFile.Cond} {a b : Int32} (q : cv cd a b) : if_icmp.holds cd a b = true := by
  cases cd
  · exact (teq q).1
  · exact (feq q).2
  · exact (tlt q).1
  · exact (flt q).2.1
  · exact (tlt q).2.2.1
  · exact (flt q).2.2.2
theorem cvN {cd : ClassFile.Cond} {a b : Int32} (q : ¬ cv cd a b) : if_icmp.holds cd a b = false := by
  cases cd
  · exact (feq q).1
  · exact (teq (Decidable.byContradiction q)).2
  · exact (flt q).1
  · exact (tlt (Decidable.byContradiction q)).2.1
  · exact (flt q).2.2.1
  · exact (tlt (Decidable.byContradiction q)).2.2.2
theorem cvD (cd : ClassFile.Cond) (a b : Int32) : cv cd a b ∨ ¬ cv cd a b := Classical.em _
abbrev Q0 (p : Program) (T : State) (m : MethodId) (c : Code) (below : List Frame) (code : ByteArray) : Prop := At T m c below ∧ p.tables.exec = Jvm.exec ∧ c.code = code
theorem catR {v : Value} (h : v.isRef = true) : v.category = 1 := by cases v <;> first | rfl | cases h
theorem stR {ls ls2 : Array Slot} {k : Nat} {v : Value} {o : Slot} (hv : v.isRef = true) (hold : ls[k]? = some o) (ho : One o) (h2 : ls.setIfInBounds k (.val v) = ls2) : storeLocals ls k v = some ls2 := by
  rw [← h2]; exact Jvm.Free.XS.store1 hold ho (catR hv)
section Plain
variable {p : Program} {e : Env} {below : List Frame} {G : Outcome → State → Prop} {T : State} {m : MethodId} {c : Code} {code : ByteArray} {pc pc1 pc2 : Nat} {ls ls2 : Array Slot} {st : List Value}

theorem g_iloadN (q : Q0 p T m c below code) {k : Fin 4} {v : Int32} (hd : decode code pc = .ok (.iload_n k, 1)) (hl : ls[k.val]? = some (.val (.int v))) (hp : pc + 1 = pc1) (K : Go p.tables e below G (T.setTop (mkF m pc1 ls (.int v :: st)))) : Go p.tables e below G (T.setTop (mkF m pc ls st)) := by
  subst hp; exact Go.via (fun _ k => Jvm.Free.XS.iloadN q.1 q.2.1 rfl (hb q.2.2 hd) hl k) K
theorem g_aloadN (q : Q0 p T m c below code) {k : Fin 4} {v : Value} (hd : decode code pc = .ok (.aload_n k, 1)) (hl : ls[k.val]? = some (.val v)) (hv : v.isRef = true) (hp : pc + 1 = pc1) (K : Go p.tables e below G (T.setTop (mkF m pc1 ls (v :: st)))) : Go p.tables e below G (T.setTop (mkF m pc ls st)) := by
  subst hp; exact Go.via (fun _ k => Jvm.Free.XS.aloadN q.1 q.2.1 rfl (hb q.2.2 hd) hl hv k) K
theorem g_istoreN (q : Q0 p T m c below code) {k : Fin 4} {v : Int32} (hd : decode code pc = .ok (.istore_n k, 1)) (hl : storeLocals ls k.val (.int v) = some ls2) (hp : pc + 1 = pc1) (K : Go p.tables e below G (T.setTop (mkF m pc1 ls2 st))) : Go p.tables e below G (T.setTop (mkF m pc ls (.int v :: st))) := by
  subst hp; exact Go.via (fun _ k => Jvm.Free.XS.istoreN q.1 q.2.1 rfl (hb q.2.2 hd) rfl hl k) K
theorem g_astoreN (q : Q0 p T m c below code) {k : Fin 4} {v : Value} (hd : decode code pc = .ok (.astore_n k, 1)) (hv : v.isRef = true) (hl : storeLocals ls k.val v = some ls2) (hp : pc + 1 = pc1) (K : Go p.tables e below G (T.setTop (mkF m pc1 ls2 st))) : Go p.tables e below G (T.setTop (mkF m pc ls (v :: st))) := by
  subst hp; exact Go.via (fun _ k => Jvm.Free.XS.astoreN q.1 q.2.1 rfl (hb q.2.2 hd) rfl hv hl k) K
theorem g_lloadN (q : Q0 p T m c below code) {k : Fin 4} {v : Int64} (hd : decode code pc = .ok (.lload_n k, 1)) (hl : ls[k.val]? = some (.val (.long v))) (hp : pc + 1 = pc1) (K : Go p.tables e below G (T.setTop (mkF m pc1 ls (.long v :: st)))) : Go p.tables e below G (T.setTop (mkF m pc ls st)) := by
  subst hp; exact Go.via (fun _ k => Jvm.Free.XT.lloadN q.1 q.2.1 rfl (hb q.2.2 hd) hl k) K
theorem g_lstoreN (q : Q0 p T m c below code) {k : Fin 4} {v : Int64} (hd : decode code pc = .ok (.lstore_n k, 1)) (hl : storeLocals ls k.val (.long v) = some ls2) (hp : pc + 1 = pc1) (K : Go p.tables e below G (T.setTop (mkF m pc1 ls2 st))) : Go p.tables e below G (T.setTop (mkF m pc ls (.long v :: st))) := by
  subst hp; exact Go.via (fun _ k => Jvm.Free.XT.lstoreN q.1 q.2.1 rfl (hb q.2.2 hd) rfl hl k) K
theorem g_iload (q : Q0 p T m c below code) {k : Nat} {v : Int32} (hd : decode code pc = .ok (.iload k, 2)) (hl : ls[k]? = some (.val (.int v))) (hp : pc + 2 = pc1) (K : Go p.tables e below G (T.setTop (mkF m pc1 ls (.int v :: st)))) : Go p.tables e below G (T.setTop (mkF m pc ls st)) := by
  subst hp; exact Go.via (fun _ k => Jvm.Free.XS.iload q.1 q.2.1 rfl (hb q.2.2 hd) hl k) K
theorem g_aload (q : Q0 p T m c below code) {k : Nat} {v : Value} (hd : decode code pc = .ok (.aload k, 2)) (hl : ls[k]? = some (.val v)) (hv : v.isRef = true) (hp : pc + 2 = pc1) (K : Go p.tables e below G (T.setTop (mkF m pc1 ls (v :: st)))) : Go p.tables e below G (T.setTop (mkF m pc ls st)) := by
  subst hp; exact Go.via (fun _ k => Jvm.Free.XS.aload q.1 q.2.1 rfl (hb q.2.2 hd) hl hv k) K
theorem g_istore (q : Q0 p T m c below code) {k : Nat} {v : Int32} (hd : decode code pc = .ok (.istore k, 2)) (hl : storeLocals ls k (.int v) = some ls2) (hp : pc + 2 = pc1) (K : Go p.tables e below G (T.setTop (mkF m pc1 ls2 st))) : Go p.tables e below G (T.setTop (mkF m pc ls (.int v :: st))) := by
  subst hp; exact Go.via (fun _ k => Jvm.Free.XS.istore q.1 q.2.1 rfl (hb q.2.2 hd) rfl hl k) K
theorem g_astore (q : Q0 p T m c below code) {k : Nat} {v : Value} (hd : decode code pc = .ok (.astore k, 2)) (hv : v.isRef = true) (hl : storeLocals ls k v = some ls2) (hp : pc + 2 = pc1) (K : Go p.tables e below G (T.setTop (mkF m pc1 ls2 st))) : Go p.tables e below G (T.setTop (mkF m pc ls (v :: st))) := by
  subst hp; exact Go.via (fun _ k => Jvm.Free.XS.astore q.1 q.2.1 rfl (hb q.2.2 hd) rfl hv hl k) K
theorem g_lload (q : Q0 p T m c below code) {k : Nat} {v : Int64} (hd : decode code pc = .ok (.lload k, 2)) (hl : ls[k]? = some (.val (.long v))) (hp : pc + 2 = pc1) (K : Go p.tables e below G (T.setTop (mkF m pc1 ls (.long v :: st)))) : Go p.tables e below G (T.setTop (mkF m pc ls st)) := by
  subst hp; exact Go.via (fun _ k => Jvm.Free.XT.lload q.1 q.2.1 rfl (hb q.2.2 hd) hl k) K
theorem g_lstore (q : Q0 p T m c below code) {k : Nat} {v : Int64} (hd : decode code pc = .ok (.lstore k, 2)) (hl : storeLocals ls k (.long v) = some ls2) (hp : pc + 2 = pc1) (K : Go p.tables e below G (T.setTop (mkF m pc1 ls2 st))) : Go p.tables e below G (T.setTop (mkF m pc ls (.long v :: st))) := by
  subst hp; exact Go.via (fun _ k => Jvm.Free.XT.lstore q.1 q.2.1 rfl (hb q.2.2 hd) rfl hl k) K
theorem g_iconst (q : Q0 p T m c below code) {i : Int} {v : Int32} (hd : decode code pc = .ok (.iconst i, 1)) (hv : Int32.ofInt i = v) (hp : pc + 1 = pc1) (K : Go p.tables e below G (T.setTop (mkF m pc1 ls (.int v :: st)))) : Go p.tables e below G (T.setTop (mkF m pc ls st)) := by
  subst hp; exact Go.via (fun _ k => Jvm.Free.XS.iconst q.1 q.2.1 rfl (hb q.2.2 hd) (hv ▸ k)) K
theorem g_bipush (q : Q0 p T m c below code) {i : Int} {v : Int32} (hd : decode code pc = .ok (.bipush i, 2)) (hv : (Int8.ofInt i).toInt32 = v) (hp : pc + 2 = pc1) (K : Go p.tables e below G (T.setTop (mkF m pc1 ls (.int v :: st)))) : Go p.tables e below G (T.setTop (mkF m pc ls st)) := by
  subst hp; exact Go.via (fun _ k => Jvm.Free.XS.bipush q.1 q.2.1 rfl (hb q.2.2 hd) (hv ▸ k)) K
theorem g_sipush (q : Q0 p T m c below code) {i : Int} {v : Int32} (hd : decode code pc = .ok (.sipush i, 3)) (hv : (Int16.ofInt i).toInt32 = v) (hp : pc + 3 = pc1) (K : Go p.tables e below G (T.setTop (mkF m pc1 ls (.int v :: st)))) : Go p.tables e below G (T.setTop (mkF m pc ls st)) := by
  subst hp; exact Go.via (fun _ k => Jvm.Free.XS.sipush q.1 q.2.1 rfl (hb q.2.2 hd) (hv ▸ k)) K
theorem g_null (q : Q0 p T m c below code)  (hd : decode code pc = .ok (.aconst_null, 1))  (hp : pc + 1 = pc1) (K : Go p.tables e below G (T.setTop (mkF m pc1 ls (.null :: st)))) : Go p.tables e below G (T.setTop (mkF m pc ls st)) := by
  subst hp; exact Go.via (fun _ k => Jvm.Free.XS.aconstNull q.1 q.2.1 rfl (hb q.2.2 hd) k) K
theorem g_iadd (q : Q0 p T m c below code) {x y : Int32} (hd : decode code pc = .ok (.iadd, 1))  (hp : pc + 1 = pc1) (K : Go p.tables e below G (T.setTop (mkF m pc1 ls (.int (x + y) :: st)))) : Go p.tables e below G (T.setTop (mkF m pc ls (.int y :: .int x :: st))) := by
  subst hp; exact Go.via (fun _ k => Jvm.Free.XS.iadd q.1 q.2.1 rfl (hb q.2.2 hd) rfl k) K
theorem g_isub (q : Q0 p T m c below code) {x y : Int32} (hd : decode code pc = .ok (.isub, 1))  (hp : pc + 1 = pc1) (K : Go p.tables e below G (T.setTop (mkF m pc1 ls (.int (x - y) :: st)))) : Go p.tables e below G (T.setTop (mkF m pc ls (.int y :: .int x :: st))) := by
  subst hp; exact Go.via (fun _ k => Jvm.Free.XS.isub q.1 q.2.1 rfl (hb q.2.2 hd) rfl k) K
theorem g_iand (q : Q0 p T m c below code) {x y : Int32} (hd : decode code pc = .ok (.iand, 1))  (hp : pc + 1 = pc1) (K : Go p.tables e below G (T.setTop (mkF m pc1 ls (.int (x &&& y) :: st)))) : Go p.tables e below G (T.setTop (mkF m pc ls (.int y :: .int x :: st))) := by
  subst hp; exact Go.via (fun _ k => Jvm.Free.XS.iand q.1 q.2.1 rfl (hb q.2.2 hd) rfl k) K
theorem g_imul (q : Q0 p T m c below code) {x y : Int32} (hd : decode code pc = .ok (.imul, 1))  (hp : pc + 1 = pc1) (K : Go p.tables e below G (T.setTop (mkF m pc1 ls (.int (x * y) :: st)))) : Go p.tables e below G (T.setTop (mkF m pc ls (.int y :: .int x :: st))) := by
  subst hp; exact Go.via (fun _ k => Jvm.Free.XS.imul q.1 q.2.1 rfl (hb q.2.2 hd) rfl k) K
theorem g_irem (q : Q0 p T m c below code) {x y : Int32} (hd : decode code pc = .ok (.irem, 1)) (hy : y ≠ 0) (hp : pc + 1 = pc1) (K : Go p.tables e below G (T.setTop (mkF m pc1 ls (.int (x - (x / y) * y) :: st)))) : Go p.tables e below G (T.setTop (mkF m pc ls (.int y :: .int x :: st))) := by
  subst hp; exact Go.via (fun _ k => Jvm.Free.XS.irem q.1 q.2.1 rfl (hb q.2.2 hd) rfl hy k) K
theorem g_idiv (q : Q0 p T m c below code) {x y : Int32} (hd : decode code pc = .ok (.idiv, 1)) (hy : y ≠ 0) (hp : pc + 1 = pc1) (K : Go p.tables e below G (T.setTop (mkF m pc1 ls (.int (x / y) :: st)))) : Go p.tables e below G (T.setTop (mkF m pc ls (.int y :: .int x :: st))) := by
  subst hp; exact Go.via (fun _ k => Jvm.Free.XS.idiv q.1 q.2.1 rfl (hb q.2.2 hd) rfl hy k) K
theorem g_ineg (q : Q0 p T m c below code) {x : Int32} (hd : decode code pc = .ok (.ineg, 1))  (hp : pc + 1 = pc1) (K : Go p.tables e below G (T.setTop (mkF m pc1 ls (.int (-x) :: st)))) : Go p.tables e below G (T.setTop (mkF m pc ls (.int x :: st))) := by
  subst hp; exact Go.via (fun _ k => Jvm.Free.XS.ineg q.1 q.2.1 rfl (hb q.2.2 hd) rfl k) K
theorem g_ior (q : Q0 p T m c below code) {x y : Int32} (hd : decode code pc = .ok (.ior, 1))  (hp : pc + 1 = pc1) (K : Go p.tables e below G (T.setTop (mkF m pc1 ls (.int (x ||| y) :: st)))) : Go p.tables e below G (T.setTop (mkF m pc ls (.int y :: .int x :: st))) := by
  subst hp; exact Go.via (fun _ k => Jvm.Free.XT.ior q.1 q.2.1 rfl (hb q.2.2 hd) rfl k) K
theorem g_ixor (q : Q0 p T m c below code) {x y : Int32} (hd : decode code pc = .ok (.ixor, 1))  (hp : pc + 1 = pc1) (K : Go p.tables e below G (T.setTop (mkF m pc1 ls (.int (x ^^^ y) :: st)))) : Go p.tables e below G (T.setTop (mkF m pc ls (.int y :: .int x :: st))) := by
  subst hp; exact Go.via (fun _ k => Jvm.Free.XT.ixor q.1 q.2.1 rfl (hb q.2.2 hd) rfl k) K
theorem g_ishl (q : Q0 p T m c below code) {x y : Int32} (hd : decode code pc = .ok (.ishl, 1))  (hp : pc + 1 = pc1) (K : Go p.tables e below G (T.setTop (mkF m pc1 ls (.int (x <<< (y &&& 31)) :: st)))) : Go p.tables e below G (T.setTop (mkF m pc ls (.int y :: .int x :: st))) := by
  subst hp; exact Go.via (fun _ k => Jvm.Free.XT.ishl q.1 q.2.1 rfl (hb q.2.2 hd) rfl k) K
theorem g_ishr (q : Q0 p T m c below code) {x y : Int32} (hd : decode code pc = .ok (.ishr, 1))  (hp : pc + 1 = pc1) (K : Go p.tables e below G (T.setTop (mkF m pc1 ls (.int (x >>> (y &&& 31)) :: st)))) : Go p.tables e below G (T.setTop (mkF m pc ls (.int y :: .int x :: st))) := by
  subst hp; exact Go.via (fun _ k => Jvm.Free.XT.ishr q.1 q.2.1 rfl (hb q.2.2 hd) rfl k) K
theorem g_iushr (q : Q0 p T m c below code) {x y : Int32} (hd : decode code pc = .ok (.iushr, 1))  (hp : pc + 1 = pc1) (K : Go p.tables e below G (T.setTop (mkF m pc1 ls (.int (Jvm.Free.XT.ushr x y) :: st)))) : Go p.tables e below G (T.setTop (mkF m pc ls (.int y :: .int x :: st))) := by
  subst hp; exact Go.via (fun _ k => Jvm.Free.XT.iushr q.1 q.2.1 rfl (hb q.2.2 hd) rfl k) K
theorem g_i2b (q : Q0 p T m c below code) {x : Int32} (hd : decode code pc = .ok (.i2b, 1))  (hp : pc + 1 = pc1) (K : Go p.tables e below G (T.setTop (mkF m pc1 ls (.int (x.toInt8.toInt32) :: st)))) : Go p.tables e below G (T.setTop (mkF m pc ls (.int x :: st))) := by
  subst hp; exact Go.via (fun _ k => Jvm.Free.XT.i2b q.1 q.2.1 rfl (hb q.2.2 hd) rfl k) K
theorem g_i2c (q : Q0 p T m c below code) {x : Int32} (hd : decode code pc = .ok (.i2c, 1))  (hp : pc + 1 = pc1) (K : Go p.tables e below G (T.setTop (mkF m pc1 ls (.int (x.toUInt32.toUInt16.toUInt32.toInt32) :: st)))) : Go p.tables e below G (T.setTop (mkF m pc ls (.int x :: st))) := by
  subst hp; exact Go.via (fun _ k => Jvm.Free.XT.i2c q.1 q.2.1 rfl (hb q.2.2 hd) rfl k) K
theorem g_i2s (q : Q0 p T m c below code) {x : Int32} (hd : decode code pc = .ok (.i2s, 1))  (hp : pc + 1 = pc1) (K : Go p.tables e below G (T.setTop (mkF m pc1 ls (.int (x.toInt16.toInt32) :: st)))) : Go p.tables e below G (T.setTop (mkF m pc ls (.int x :: st))) := by
  subst hp; exact Go.via (fun _ k => Jvm.Free.XT.i2s q.1 q.2.1 rfl (hb q.2.2 hd) rfl k) K
theorem g_i2l (q : Q0 p T m c below code) {x : Int32} (hd : decode code pc = .ok (.i2l, 1))  (hp : pc + 1 = pc1) (K : Go p.tables e below G (T.setTop (mkF m pc1 ls (.long x.toInt64 :: st)))) : Go p.tables e below G (T.setTop (mkF m pc ls (.int x :: st))) := by
  subst hp; exact Go.via (fun _ k => Jvm.Free.XT.i2l q.1 q.2.1 rfl (hb q.2.2 hd) rfl k) K
theorem g_l2i (q : Q0 p T m c below code) {x : Int64} (hd : decode code pc = .ok (.l2i, 1))  (hp : pc + 1 = pc1) (K : Go p.tables e below G (T.setTop (mkF m pc1 ls (.int x.toInt32 :: st)))) : Go p.tables e below G (T.setTop (mkF m pc ls (.long x :: st))) := by
  subst hp; exact Go.via (fun _ k => Jvm.Free.XT.l2i q.1 q.2.1 rfl (hb q.2.2 hd) rfl k) K
theorem g_ladd (q : Q0 p T m c below code) {x y : Int64} (hd : decode code pc = .ok (.ladd, 1))  (hp : pc + 1 = pc1) (K : Go p.tables e below G (T.setTop (mkF m pc1 ls (.long (x + y) :: st)))) : Go p.tables e below G (T.setTop (mkF m pc ls (.long y :: .long x :: st))) := by
  subst hp; exact Go.via (fun _ k => Jvm.Free.XT.ladd q.1 q.2.1 rfl (hb q.2.2 hd) rfl k) K
theorem g_lsub (q : Q0 p T m c below code) {x y : Int64} (hd : decode code pc = .ok (.lsub, 1))  (hp : pc + 1 = pc1) (K : Go p.tables e below G (T.setTop (mkF m pc1 ls (.long (x - y) :: st)))) : Go p.tables e below G (T.setTop (mkF m pc ls (.long y :: .long x :: st))) := by
  subst hp; exact Go.via (fun _ k => Jvm.Free.XT.lsub q.1 q.2.1 rfl (hb q.2.2 hd) rfl k) K
theorem g_lmul (q : Q0 p T m c below code) {x y : Int64} (hd : decode code pc = .ok (.lmul, 1))  (hp : pc + 1 = pc1) (K : Go p.tables e below G (T.setTop (mkF m pc1 ls (.long (x * y) :: st)))) : Go p.tables e below G (T.setTop (mkF m pc ls (.long y :: .long x :: st))) := by
  subst hp; exact Go.via (fun _ k => Jvm.Free.XT.lmul q.1 q.2.1 rfl (hb q.2.2 hd) rfl k) K
theorem g_land (q : Q0 p T m c below code) {x y : Int64} (hd : decode code pc = .ok (.land, 1))  (hp : pc + 1 = pc1) (K : Go p.tables e below G (T.setTop (mkF m pc1 ls (.long (x &&& y) :: st)))) : Go p.tables e below G (T.setTop (mkF m pc ls (.long y :: .long x :: st))) := by
  subst hp; exact Go.via (fun _ k => Jvm.Free.XT.land q.1 q.2.1 rfl (hb q.2.2 hd) rfl k) K
theorem g_lor (q : Q0 p T m c below code) {x y : Int64} (hd : decode code pc = .ok (.lor, 1))  (hp : pc + 1 = pc1) (K : Go p.tables e below G (T.setTop (mkF m pc1 ls (.long (x ||| y) :: st)))) : Go p.tables e below G (T.setTop (mkF m pc ls (.long y :: .long x :: st))) := by
  subst hp; exact Go.via (fun _ k => Jvm.Free.XT.lor q.1 q.2.1 rfl (hb q.2.2 hd) rfl k) K
theorem g_lshl (q : Q0 p T m c below code) {x : Int64} {y : Int32} (hd : decode code pc = .ok (.lshl, 1))  (hp : pc + 1 = pc1) (K : Go p.tables e below G (T.setTop (mkF m pc1 ls (.long (x <<< (y.toInt64 &&& 63)) :: st)))) : Go p.tables e below G (T.setTop (mkF m pc ls (.int y :: .long x :: st))) := by
  subst hp; exact Go.via (fun _ k => Jvm.Free.XT.lshl q.1 q.2.1 rfl (hb q.2.2 hd) rfl k) K
theorem g_lshr (q : Q0 p T m c below code) {x : Int64} {y : Int32} (hd : decode code pc = .ok (.lshr, 1))  (hp : pc + 1 = pc1) (K : Go p.tables e below G (T.setTop (mkF m pc1 ls (.long (x >>> (y.toInt64 &&& 63)) :: st)))) : Go p.tables e below G (T.setTop (mkF m pc ls (.int y :: .long x :: st))) := by
  subst hp; exact Go.via (fun _ k => Jvm.Free.XT.lshr q.1 q.2.1 rfl (hb q.2.2 hd) rfl k) K
theorem g_lushr (q : Q0 p T m c below code) {x : Int64} {y : Int32} (hd : decode code pc = .ok (.lushr, 1))  (hp : pc + 1 = pc1) (K : Go p.tables e below G (T.setTop (mkF m pc1 ls (.long (Jvm.Free.XT.ushrL x y) :: st)))) : Go p.tables e below G (T.setTop (mkF m pc ls (.int y :: .long x :: st))) := by
  subst hp; exact Go.via (fun _ k => Jvm.Free.XT.lushr q.1 q.2.1 rfl (hb q.2.2 hd) rfl k) K
theorem g_lrem (q : Q0 p T m c below code) {x y : Int64} (hd : decode code pc = .ok (.lrem, 1)) (hy : y ≠ 0) (hp : pc + 1 = pc1) (K : Go p.tables e below G (T.setTop (mkF m pc1 ls (.long (x - (x / y) * y) :: st)))) : Go p.tables e below G (T.setTop (mkF m pc ls (.long y :: .long x :: st))) := by
  subst hp; exact Go.via (fun _ k => Jvm.Free.XT.lrem q.1 q.2.1 rfl (hb q.2.2 hd) rfl hy k) K
theorem g_lneg (q : Q0 p T m c below code) {x : Int64} (hd : decode code pc = .ok (.lneg, 1))  (hp : pc + 1 = pc1) (K : Go p.tables e below G (T.setTop (mkF m pc1 ls (.long (-x) :: st)))) : Go p.tables e below G (T.setTop (mkF m pc ls (.long x :: st))) := by
  subst hp; exact Go.via (fun _ k => Jvm.Free.XT.lneg q.1 q.2.1 rfl (hb q.2.2 hd) rfl k) K
theorem g_lcmp (q : Q0 p T m c below code) {x y : Int64} (hd : decode code pc = .ok (.lcmp, 1))  (hp : pc + 1 = pc1) (K : Go p.tables e below G (T.setTop (mkF m pc1 ls (.int (Jvm.Free.XT.cmpL x y) :: st)))) : Go p.tables e below G (T.setTop (mkF m pc ls (.long y :: .long x :: st))) := by
  subst hp; exact Go.via (fun _ k => Jvm.Free.XT.lcmp q.1 q.2.1 rfl (hb q.2.2 hd) rfl k) K
theorem g_lconst (q : Q0 p T m c below code) {i : Fin 2} {v : Int64} (hd : decode code pc = .ok (.lconst i, 1)) (hv : Int64.ofNat i.val = v) (hp : pc + 1 = pc1) (K : Go p.tables e below G (T.setTop (mkF m pc1 ls (.long v :: st)))) : Go p.tables e below G (T.setTop (mkF m pc ls st)) := by
  subst hp; exact Go.via (fun _ k => Jvm.Free.XT.lconst q.1 q.2.1 rfl (hb q.2.2 hd) (hv ▸ k)) K
theorem g_iinc (q : Q0 p T m c below code) {k : Nat} {i : Int} {v : Int32} (hd : decode code pc = .ok (.iinc k i, 3)) (hl : ls[k]? = some (.val (.int v))) (hl2 : storeLocals ls k (.int (v + Int32.ofInt i)) = some ls2) (hp : pc + 3 = pc1) (K : Go p.tables e below G (T.setTop (mkF m pc1 ls2 st))) : Go p.tables e below G (T.setTop (mkF m pc ls st)) := by
  subst hp; exact Go.via (fun _ k => Jvm.Free.XS.iinc q.1 q.2.1 rfl (hb q.2.2 hd) hl hl2 k) K
theorem g_dup (q : Q0 p T m c below code) {x : Value} (hd : decode code pc = .ok (.dup, 1)) (hc : x.category = 1) (hp : pc + 1 = pc1) (K : Go p.tables e below G (T.setTop (mkF m pc1 ls (x :: x :: st)))) : Go p.tables e below G (T.setTop (mkF m pc ls (x :: st))) := by
  subst hp; exact Go.via (fun _ k => Jvm.Free.XS.dup q.1 q.2.1 rfl (hb q.2.2 hd) rfl hc k) K
theorem g_pop (q : Q0 p T m c below code) {x : Value} (hd : decode code pc = .ok (.pop, 1)) (hc : x.category = 1) (hp : pc + 1 = pc1) (K : Go p.tables e below G (T.setTop (mkF m pc1 ls st))) : Go p.tables e below G (T.setTop (mkF m pc ls (x :: st))) := by
  subst hp; exact Go.via (fun _ k => Jvm.Free.XT.pop q.1 q.2.1 rfl (hb q.2.2 hd) rfl hc k) K
theorem g_dup2 (q : Q0 p T m c below code) {x y : Value} (hd : decode code pc = .ok (.dup2, 1)) (hc : x.category = 1) (hc2 : y.category = 1) (hp : pc + 1 = pc1) (K : Go p.tables e below G (T.setTop (mkF m pc1 ls (x :: y :: x :: y :: st)))) : Go p.tables e below G (T.setTop (mkF m pc ls (x :: y :: st))) := by
  subst hp; exact Go.via (fun _ k => Jvm.Free.XT.dup2 q.1 q.2.1 rfl (hb q.2.2 hd) rfl hc hc2 k) K
theorem g_dloadN (q : Q0 p T m c below code) {k : Fin 4} {v : UInt64} (hd : decode code pc = .ok (.dload_n k, 1)) (hl : ls[k.val]? = some (.val (.double v))) (hp : pc + 1 = pc1) (K : Go p.tables e below G (T.setTop (mkF m pc1 ls (.double v :: st)))) : Go p.tables e below G (T.setTop (mkF m pc ls st)) := by
  subst hp; exact Go.via (fun _ k => Jvm.Free.XS.dloadN q.1 q.2.1 rfl (hb q.2.2 hd) hl k) K
theorem g_dstoreN (q : Q0 p T m c below code) {k : Fin 4} {v : UInt64} (hd : decode code pc = .ok (.dstore_n k, 1)) (hl : storeLocals ls k.val (.double v) = some ls2) (hp : pc + 1 = pc1) (K : Go p.tables e below G (T.setTop (mkF m pc1 ls2 st))) : Go p.tables e below G (T.setTop (mkF m pc ls (.double v :: st))) := by
  subst hp; exact Go.via (fun _ k => Jvm.Free.XS.dstoreN q.1 q.2.1 rfl (hb q.2.2 hd) rfl hl k) K
theorem g_dload (q : Q0 p T m c below code) {k : Nat} {v : UInt64} (hd : decode code pc = .ok (.dload k, 2)) (hl : ls[k]? = some (.val (.double v))) (hp : pc + 2 = pc1) (K : Go p.tables e below G (T.setTop (mkF m pc1 ls (.double v :: st)))) : Go p.tables e below G (T.setTop (mkF m pc ls st)) := by
  subst hp; exact Go.via (fun _ k => Jvm.Free.XS.dload q.1 q.2.1 rfl (hb q.2.2 hd) hl k) K
theorem g_dstore (q : Q0 p T m c below code) {k : Nat} {v : UInt64} (hd : decode code pc = .ok (.dstore k, 2)) (hl : storeLocals ls k (.double v) = some ls2) (hp : pc + 2 = pc1) (K : Go p.tables e below G (T.setTop (mkF m pc1 ls2 st))) : Go p.tables e below G (T.setTop (mkF m pc ls (.double v :: st))) := by
  subst hp; exact Go.via (fun _ k => Jvm.Free.XS.dstore q.1 q.2.1 rfl (hb q.2.2 hd) rfl hl k) K
theorem g_dconst0 (q : Q0 p T m c below code)  (hd : decode code pc = .ok (.dconst 0, 1))  (hp : pc + 1 = pc1) (K : Go p.tables e below G (T.setTop (mkF m pc1 ls (.double 0 :: st)))) : Go p.tables e below G (T.setTop (mkF m pc ls st)) := by
  subst hp; exact Go.via (fun _ k => Jvm.Free.XS.dconst0 q.1 q.2.1 rfl (hb q.2.2 hd) (by decide +kernel) k) K
theorem g_i2d (q : Q0 p T m c below code) {x : Int32} (hd : decode code pc = .ok (.i2d, 1))  (hp : pc + 1 = pc1) (K : Go p.tables e below G (T.setTop (mkF m pc1 ls (.double (FP.i2d x) :: st)))) : Go p.tables e below G (T.setTop (mkF m pc ls (.int x :: st))) := by
  subst hp; exact Go.via (fun _ k => Jvm.Free.XS.i2dS q.1 q.2.1 rfl (hb q.2.2 hd) rfl rfl k) K
theorem g_l2d (q : Q0 p T m c below code) {x : Int64} (hd : decode code pc = .ok (.l2d, 1))  (hp : pc + 1 = pc1) (K : Go p.tables e below G (T.setTop (mkF m pc1 ls (.double (FP.l2d x) :: st)))) : Go p.tables e below G (T.setTop (mkF m pc ls (.long x :: st))) := by
  subst hp; exact Go.via (fun _ k => Jvm.Free.XS.l2dS q.1 q.2.1 rfl (hb q.2.2 hd) rfl rfl k) K
theorem g_dcmp (q : Q0 p T m c below code) {o : CmpOp} {x y : UInt64} (hd : decode code pc = .ok (.dcmp o, 1))  (hp : pc + 1 = pc1) (K : Go p.tables e below G (T.setTop (mkF m pc1 ls (.int (cmpValue (FP.dcmp x y) o) :: st)))) : Go p.tables e below G (T.setTop (mkF m pc ls (.double y :: .double x :: st))) := by
  subst hp; exact Go.via (fun _ k => Jvm.Free.XS.dcmpS q.1 q.2.1 rfl (hb q.2.2 hd) rfl rfl k) K
theorem g_dadd (q : Q0 p T m c below code) {x y : UInt64} (hd : decode code pc = .ok (.dadd, 1)) (hn : Jvm.Free.Fl.NoNaN64 (FP.dadd x y)) (hp : pc + 1 = pc1) (K : Go p.tables e below G (T.setTop (mkF m pc1 ls (.double (FP.dadd x y) :: st)))) : Go p.tables e below G (T.setTop (mkF m pc ls (.double y :: .double x :: st))) := by
  subst hp; exact Go.via (fun _ k => Jvm.Free.XS.daddS q.1 q.2.1 rfl (hb q.2.2 hd) rfl hn rfl k) K
theorem g_dmul (q : Q0 p T m c below code) {x y : UInt64} (hd : decode code pc = .ok (.dmul, 1)) (hn : Jvm.Free.Fl.NoNaN64 (FP.dmul x y)) (hp : pc + 1 = pc1) (K : Go p.tables e below G (T.setTop (mkF m pc1 ls (.double (FP.dmul x y) :: st)))) : Go p.tables e below G (T.setTop (mkF m pc ls (.double y :: .double x :: st))) := by
  subst hp; exact Go.via (fun _ k => Jvm.Free.XS.dmulS q.1 q.2.1 rfl (hb q.2.2 hd) rfl hn rfl k) K
theorem g_floadN (q : Q0 p T m c below code) {k : Fin 4} {v : UInt32} (hd : decode code pc = .ok (.fload_n k, 1)) (hl : ls[k.val]? = some (.val (.float v))) (hp : pc + 1 = pc1) (K : Go p.tables e below G (T.setTop (mkF m pc1 ls (.float v :: st)))) : Go p.tables e below G (T.setTop (mkF m pc ls st)) := by
  subst hp; exact Go.via (fun _ k => Jvm.Free.XS.floadN q.1 q.2.1 rfl (hb q.2.2 hd) hl k) K
theorem g_fstoreN (q : Q0 p T m c below code) {k : Fin 4} {v : UInt32} (hd : decode code pc = .ok (.fstore_n k, 1)) (hl : storeLocals ls k.val (.float v) = some ls2) (hp : pc + 1 = pc1) (K : Go p.tables e below G (T.setTop (mkF m pc1 ls2 st))) : Go p.tables e below G (T.setTop (mkF m pc ls (.float v :: st))) := by
  subst hp; exact Go.via (fun _ k => Jvm.Free.XS.fstoreN q.1 q.2.1 rfl (hb q.2.2 hd) rfl hl k) K
theorem g_fload (q : Q0 p T m c below code) {k : Nat} {v : UInt32} (hd : decode code pc = .ok (.fload k, 2)) (hl : ls[k]? = some (.val (.float v))) (hp : pc + 2 = pc1) (K : Go p.tables e below G (T.setTop (mkF m pc1 ls (.float v :: st)))) : Go p.tables e below G (T.setTop (mkF m pc ls st)) := by
  subst hp; exact Go.via (fun _ k => Jvm.Free.XS.fload q.1 q.2.1 rfl (hb q.2.2 hd) hl k) K
theorem g_fstore (q : Q0 p T m c below code) {k : Nat} {v : UInt32} (hd : decode code pc = .ok (.fstore k, 2)) (hl : storeLocals ls k (.float v) = some ls2) (hp : pc + 2 = pc1) (K : Go p.tables e below G (T.setTop (mkF m pc1 ls2 st))) : Go p.tables e below G (T.setTop (mkF m pc ls (.float v :: st))) := by
  subst hp; exact Go.via (fun _ k => Jvm.Free.XS.fstore q.1 q.2.1 rfl (hb q.2.2 hd) rfl hl k) K
theorem g_i2f (q : Q0 p T m c below code) {x : Int32} (hd : decode code pc = .ok (.i2f, 1))  (hp : pc + 1 = pc1) (K : Go p.tables e below G (T.setTop (mkF m pc1 ls (.float (FP.i2f x) :: st)))) : Go p.tables e below G (T.setTop (mkF m pc ls (.int x :: st))) := by
  subst hp; exact Go.via (fun _ k => Jvm.Free.XS.i2fS q.1 q.2.1 rfl (hb q.2.2 hd) rfl rfl k) K
theorem g_f2d (q : Q0 p T m c below code) {x : UInt32} (hd : decode code pc = .ok (.f2d, 1)) (hn : Jvm.Free.Fl.NoNaN64 (FP.f2d x)) (hp : pc + 1 = pc1) (K : Go p.tables e below G (T.setTop (mkF m pc1 ls (.double (FP.f2d x) :: st)))) : Go p.tables e below G (T.setTop (mkF m pc ls (.float x :: st))) := by
  subst hp; exact Go.via (fun _ k => Jvm.Free.XS.f2dS q.1 q.2.1 rfl (hb q.2.2 hd) rfl hn rfl k) K
theorem g_dconst1 (q : Q0 p T m c below code)  (hd : decode code pc = .ok (.dconst 1, 1))  (hp : pc + 1 = pc1) (K : Go p.tables e below G (T.setTop (mkF m pc1 ls (.double 4607182418800017408 :: st)))) : Go p.tables e below G (T.setTop (mkF m pc ls st)) := by
  subst hp; exact Go.via (fun _ k => Jvm.Free.XS.dconst1 q.1 q.2.1 rfl (hb q.2.2 hd) (by decide +kernel) k) K
theorem g_dneg (q : Q0 p T m c below code) {x : UInt64} (hd : decode code pc = .ok (.dneg, 1))  (hp : pc + 1 = pc1) (K : Go p.tables e below G (T.setTop (mkF m pc1 ls (.double (FP.dneg x) :: st)))) : Go p.tables e below G (T.setTop (mkF m pc ls (.double x :: st))) := by
  subst hp; exact Go.via (fun _ k => Jvm.Free.XS.dnegS q.1 q.2.1 rfl (hb q.2.2 hd) rfl rfl k) K
theorem g_dsub (q : Q0 p T m c below code) {x y : UInt64} (hd : decode code pc = .ok (.dsub, 1)) (hn : Jvm.Free.Fl.NoNaN64 (FP.dsub x y)) (hp : pc + 1 = pc1) (K : Go p.tables e below G (T.setTop (mkF m pc1 ls (.double (FP.dsub x y) :: st)))) : Go p.tables e below G (T.setTop (mkF m pc ls (.double y :: .double x :: st))) := by
  subst hp; exact Go.via (fun _ k => Jvm.Free.XS.dsubS q.1 q.2.1 rfl (hb q.2.2 hd) rfl hn rfl k) K
theorem g_ddiv (q : Q0 p T m c below code) {x y : UInt64} (hd : decode code pc = .ok (.ddiv, 1)) (hn : Jvm.Free.Fl.NoNaN64 (FP.ddiv x y)) (hp : pc + 1 = pc1) (K : Go p.tables e below G (T.setTop (mkF m pc1 ls (.double (FP.ddiv x y) :: st)))) : Go p.tables e below G (T.setTop (mkF m pc ls (.double y :: .double x :: st))) := by
  subst hp; exact Go.via (fun _ k => Jvm.Free.XS.ddivS q.1 q.2.1 rfl (hb q.2.2 hd) rfl hn rfl k) K
theorem g_goto (q : Q0 p T m c below code) {o : Int} (hd : decode code pc = .ok (.goto o, 3)) (ho : 0 ≤ (pc : Int) + o) (hp : ((pc : Int) + o).toNat = pc1) (K : Go p.tables e below G (T.setTop (mkF m pc1 ls st))) : Go p.tables e below G (T.setTop (mkF m pc ls st)) :=
  Go.via (fun _ k => Jvm.Free.XS.goto q.1 q.2.1 rfl rfl (hb q.2.2 hd) ho hp k) K
theorem g_ifY (q : Q0 p T m c below code) {cd : ClassFile.Cond} {x : Int32} {o : Int} (hd : decode code pc = .ok (.ifCond cd o, 3)) (ho : 0 ≤ (pc : Int) + o) (hp : ((pc : Int) + o).toNat = pc1) (h : cv cd x 0) (K : Go p.tables e below G (T.setTop (mkF m pc1 ls st))) : Go p.tables e below G (T.setTop (mkF m pc ls (.int x :: st))) :=
  Go.via (fun _ k => Jvm.Free.XS.ifYes q.1 q.2.1 rfl rfl (hb q.2.2 hd) rfl (by rw [if0]; exact cvY h) ho hp k) K
theorem g_ifN (q : Q0 p T m c below code) {cd : ClassFile.Cond} {x : Int32} {o : Int} (hd : decode code pc = .ok (.ifCond cd o, 3)) (hp : pc + 3 = pc2) (h : ¬ cv cd x 0) (K : Go p.tables e below G (T.setTop (mkF m pc2 ls st))) : Go p.tables e below G (T.setTop (mkF m pc ls (.int x :: st))) := by
  subst hp; exact Go.via (fun _ k => Jvm.Free.XS.ifNo q.1 q.2.1 rfl (hb q.2.2 hd) rfl (by rw [if0]; exact cvN h) k) K
theorem g_if (q : Q0 p T m c below code) {cd : ClassFile.Cond} {x : Int32} {o : Int} (hd : decode code pc = .ok (.ifCond cd o, 3)) (ho : 0 ≤ (pc : Int) + o) (hp : ((pc : Int) + o).toNat = pc1) (hp2 : pc + 3 = pc2) (K : cv cd x 0 → Go p.tables e below G (T.setTop (mkF m pc1 ls st))) (K2 : ¬ cv cd x 0 → Go p.tables e below G (T.setTop (mkF m pc2 ls st))) : Go p.tables e below G (T.setTop (mkF m pc ls (.int x :: st))) :=
  (cvD cd x 0).elim (fun h => g_ifY q hd ho hp h (K h)) (fun h => g_ifN q hd hp2 h (K2 h))
theorem g_cmpY (q : Q0 p T m c below code) {cd : ClassFile.Cond} {x y : Int32} {o : Int} (hd : decode code pc = .ok (.if_icmp cd o, 3)) (ho : 0 ≤ (pc : Int) + o) (hp : ((pc : Int) + o).toNat = pc1) (h : cv cd x y) (K : Go p.tables e below G (T.setTop (mkF m pc1 ls st))) : Go p.tables e below G (T.setTop (mkF m pc ls (.int y :: .int x :: st))) :=
  Go.via (fun _ k => Jvm.Free.XS.icmpYes q.1 q.2.1 rfl rfl (hb q.2.2 hd) rfl (cvY h) ho hp k) K
theorem g_cmpN (q : Q0 p T m c below code) {cd : ClassFile.Cond} {x y : Int32} {o : Int} (hd : decode code pc = .ok (.if_icmp cd o, 3)) (hp : pc + 3 = pc2) (h : ¬ cv cd x y) (K : Go p.tables e below G (T.setTop (mkF m pc2 ls st))) : Go p.tables e below G (T.setTop (mkF m pc ls (.int y :: .int x :: st))) := by
  subst hp; exact Go.via (fun _ k => Jvm.Free.XS.icmpNo q.1 q.2.1 rfl (hb q.2.2 hd) rfl (cvN h) k) K
theorem g_cmp (q : Q0 p T m c below code) {cd : ClassFile.Cond} {x y : Int32} {o : Int} (hd : decode code pc = .ok (.if_icmp cd o, 3)) (ho : 0 ≤ (pc : Int) + o) (hp : ((pc : Int) + o).toNat = pc1) (hp2 : pc + 3 = pc2) (K : cv cd x y → Go p.tables e below G (T.setTop (mkF m pc1 ls st))) (K2 : ¬ cv cd x y → Go p.tables e below G (T.setTop (mkF m pc2 ls st))) : Go p.tables e below G (T.setTop (mkF m pc ls (.int y :: .int x :: st))) :=
  (cvD cd x y).elim (fun h => g_cmpY q hd ho hp h (K h)) (fun h => g_cmpN q hd hp2 h (K2 h))
theorem g_nullY (q : Q0 p T m c below code) {o : Int} (hd : decode code pc = .ok (.ifnull o, 3)) (ho : 0 ≤ (pc : Int) + o) (hp : ((pc : Int) + o).toNat = pc1) (K : Go p.tables e below G (T.setTop (mkF m pc1 ls st))) : Go p.tables e below G (T.setTop (mkF m pc ls (.null :: st))) :=
  Go.via (fun _ k => Jvm.Free.XS.ifnullYes q.1 q.2.1 rfl rfl (hb q.2.2 hd) rfl ho hp k) K
theorem g_nullN (q : Q0 p T m c below code) {o : Int} {b : Addr} (hd : decode code pc = .ok (.ifnull o, 3)) (hp : pc + 3 = pc2) (K : Go p.tables e below G (T.setTop (mkF m pc2 ls st))) : Go p.tables e below G (T.setTop (mkF m pc ls (.ref b :: st))) := by
  subst hp; exact Go.via (fun _ k => Jvm.Free.XS.ifnullNo q.1 q.2.1 rfl (hb q.2.2 hd) rfl k) K
theorem g_nonY (q : Q0 p T m c below code) {b : Addr} {o : Int} (hd : decode code pc = .ok (.ifnonnull o, 3)) (ho : 0 ≤ (pc : Int) + o) (hp : ((pc : Int) + o).toNat = pc1) (K : Go p.tables e below G (T.setTop (mkF m pc1 ls st))) : Go p.tables e below G (T.setTop (mkF m pc ls (.ref b :: st))) :=
  Go.via (fun _ k => Jvm.Free.XT.ifnonnullYes q.1 q.2.1 rfl rfl (hb q.2.2 hd) rfl ho hp k) K
theorem g_nonN (q : Q0 p T m c below code) {o : Int} (hd : decode code pc = .ok (.ifnonnull o, 3)) (hp : pc + 3 = pc2) (K : Go p.tables e below G (T.setTop (mkF m pc2 ls st))) : Go p.tables e below G (T.setTop (mkF m pc ls (.null :: st))) := by
  subst hp; exact Go.via (fun _ k => Jvm.Free.XT.ifnonnullNo q.1 q.2.1 rfl (hb q.2.2 hd) rfl k) K
theorem g_acmpY (q : Q0 p T m c below code) {cd : ClassFile.ACond} {x y : Value} {o : Int} (hd : decode code pc = .ok (.if_acmp cd o, 3)) (ho : 0 ≤ (pc : Int) + o) (hp : ((pc : Int) + o).toNat = pc1) (hx : x.isRef = true) (hy : y.isRef = true) (h : Jvm.Free.XT.acmp cd x y = true) (K : Go p.tables e below G (T.setTop (mkF m pc1 ls st))) : Go p.tables e below G (T.setTop (mkF m pc ls (y :: x :: st))) :=
  Go.via (fun _ k => Jvm.Free.XT.acmpYes q.1 q.2.1 rfl rfl (hb q.2.2 hd) rfl hx hy h ho hp k) K
theorem g_acmpN (q : Q0 p T m c below code) {cd : ClassFile.ACond} {x y : Value} {o : Int} (hd : decode code pc = .ok (.if_acmp cd o, 3)) (hp : pc + 3 = pc2) (hx : x.isRef = true) (hy : y.isRef = true) (h : Jvm.Free.XT.acmp cd x y = false) (K : Go p.tables e below G (T.setTop (mkF m pc2 ls st))) : Go p.tables e below G (T.setTop (mkF m pc ls (y :: x :: st))) := by
  subst hp; exact Go.via (fun _ k => Jvm.Free.XT.acmpNo q.1 q.2.1 rfl (hb q.2.2 hd) rfl hx hy h k) K
end Plain
/-- every place lies in a cell of wl, or in one made since -/
def Frw (wl : List Addr) (n : Nat) (L : List Loc) : Prop := ∀ y ∈ L, y.base ∈ wl ∨ n ≤ y.base
theorem Frw.nil {wl : List Addr} {n : Nat} : Frw wl n [] := fun _ q => nomatch q
theorem Frw.app {wl : List Addr} {n : Nat} {L L' : List Loc} (A : Frw wl n L) (B : Frw wl n L') : Frw wl n (L ++ L') := fun y q => (List.mem_append.mp q).elim (A y) (B y)
theorem Frw.snoc {wl : List Addr} {n : Nat} {L : List Loc} {a : Addr} {sl : Nat} (A : Frw wl n L) (q : a ∈ wl ∨ n ≤ a) : Frw wl n (L ++ [⟨a, sl⟩]) := A.app fun y hy => by cases List.mem_singleton.mp hy; exact q
theorem Frw.up {wl wl' : List Addr} {n n' : Nat} {L : List Loc} (A : Frw wl n L) (hn : n' ≤ n) (q : ∀ x ∈ wl, x ∈ wl' ∨ n' ≤ x) : Frw wl' n' L := fun y hy => (A y hy).elim (q _) (fun z => Or.inr (Nat.le_trans hn z))
theorem Frw.of_fr {wl : List Addr} {n n' : Nat} {L : List Loc} (A : Fr n L) (hn : n' ≤ n) : Frw wl n' L := fun y hy => Or.inr (Nat.le_trans hn (A y hy))
/-- where a walk stands: s its true start, vm0 the tables of its last interning step, h the heap -/
def Pos (p : Program) (l : Launch) (e : Env) (R : Room) (s : State) (m : MethodId) (args : Array Value) (below : List Frame) (meth : Method) (c : Code) (code : ByteArray) (Z : State) (EL : List (String × Nat)) (wl : List Addr) (hS : Heap) (own : String) (vm0 : Vm) (T : State) (locs : List Loc) (cells slots : Nat) (h : Heap) : Prop :=
  Stand p l e R (s.setVm vm0) m args below meth c T locs cells slots ∧ T.heap = h ∧ (∃ k0, s.Since vm0 k0 ∧ k0 ≤ h.size) ∧ Z.Warmed39 vm0 ∧ vm0.findClass own = some m.cls ∧ Frw wl hS.size locs ∧ s.heap = hS ∧ CHr Z EL s.vm hS vm0 h ∧ p.tables.exec = Jvm.exec ∧ c.code = code
section Heapy
variable {p : Program} {l : Launch} {e : Env} {R : Room} {s : State} {m : MethodId} {args : Array Value} {below : List Frame} {meth : Method} {c : Code} {code : ByteArray} {Z : State} {EL : List (String × Nat)} {wl : List Addr} {hS : Heap} {own : String} {vm0 : Vm} {T : State} {locs : List Loc} {cells slots : Nat} {h : Heap} {a0 : Array Value} {G : Outcome → State → Prop} {pc pc1 pc2 : Nat} {ls ls2 : Array Slot} {st : List Value}
theorem Pos.q (P : Pos p l e R s m args below meth c code Z EL wl hS own vm0 T locs cells slots h) : Q0 p T m c below code := ⟨P.1.here, P.2.2.2.2.2.2.2.2⟩
theorem Pos.hz (P : Pos p l e R s m args below meth c code Z EL wl hS own vm0 T locs cells slots h) : Z.Warmed39 (s.setVm vm0).vm := P.2.2.2.1
theorem Pos.al (P : Pos p l e R s m args below meth c code Z EL wl hS own vm0 T locs cells slots h) : Z.vm.Alike vm0 := P.2.2.2.1.alike
theorem Pos.heap (P : Pos p l e R s m args below meth c code Z EL wl hS own vm0 T locs cells slots h) : T.heap = h := P.2.1
theorem Pos.fr (P : Pos p l e R s m args below meth c code Z EL wl hS own vm0 T locs cells slots h) : Frw wl hS.size locs := P.2.2.2.2.2.1
theorem Pos.sz (P : Pos p l e R s m args below meth c code Z EL wl hS own vm0 T locs cells slots h) : hS.size ≤ h.size := P.2.2.2.2.2.2.2.1.2.1
theorem Pos.chv (P : Pos p l e R s m args below meth c code Z EL wl hS own vm0 T locs cells slots h) : CHv Z EL vm0 h := P.2.2.2.2.2.2.2.1.1
theorem Pos.chr (P : Pos p l e R s m args below meth c code Z EL wl hS own vm0 T locs cells slots h) : CHr Z EL s.vm hS vm0 h := P.2.2.2.2.2.2.2.1
theorem Pos.mono (P : Pos p l e R s m args below meth c code Z EL wl hS own vm0 T locs cells slots h) {cells' slots' : Nat} (hc : cells ≤ cells') (hs : slots ≤ slots') : Pos p l e R s m args below meth c code Z EL wl hS own vm0 T locs cells' slots' h := ⟨P.1.mono hc hs, P.2⟩
theorem Pos.keep (P : Pos p l e R s m args below meth c code Z EL wl hS own vm0 T locs cells slots h) : Keep hS h wl := by
  obtain ⟨X, rfl, -, -, -, N, rfl, -⟩ := P
  have hsame := X.same
  have key : ∀ (x : Addr) (c0 : Cell), s.heap[x]? = some c0 → x ∉ wl → T.heap[x]? = some c0 := fun x c0 q r => by
    obtain ⟨c', h1, h2, -, h4⟩ := hsame.2.2.2.2.2 x c0 q
    have hb := (Array.getElem?_eq_some_iff.mp q).1
    have hsl : c'.slots = c0.slots := Array.ext_getElem? fun i => h4 i fun hm => (N _ hm).elim r (fun z => absurd hb (Nat.not_lt.mpr z))
    have hcc : c' = c0 := by rw [h2, hsl]
    rw [← hcc]; exact h1
  exact ⟨hsame.2.1, key, fun x c0 q => by
    obtain ⟨c', h1, h2, h3, -⟩ := hsame.2.2.2.2.2 x c0 q
    exact ⟨c', h1, by rw [h2], by rw [h2], h3⟩⟩
theorem Pos.ext0 (P : Pos p l e R s m args below meth c code Z EL [] hS own vm0 T locs cells slots h) : Ext hS h := ⟨P.keep.1, fun a c q => P.keep.2.1 a c q nin0⟩
theorem Pos.extZ (P : Pos p l e R s m args below meth c code Z EL wl hS own vm0 T locs cells slots h) (EZ : Ext Z.heap hS) (q : ∀ x ∈ wl, Z.heap.size ≤ x) : Ext Z.heap h := ⟨Nat.le_trans EZ.1 P.keep.1, fun a c r => P.keep.2.1 a c (EZ.2 a c r) fun z => absurd (Array.getElem?_eq_some_iff.mp r).1 (Nat.not_lt.mpr (q a z))⟩
/-- a step that leaves heap and tables of interned texts as they are -/
theorem Pos.same (P : Pos p l e R s m args below meth c code Z EL wl hS own vm0 T locs cells slots h) {T' : State} (X' : Stand p l e R (s.setVm vm0) m args below meth c T' locs cells slots) (e' : T'.heap = h) : Pos p l e R s m args below meth c code Z EL wl hS own vm0 T' locs cells slots h := by
  obtain ⟨X, eT, hsi, hZ, hown, N, n1, C, hx, hby⟩ := P; exact ⟨X', e', hsi, hZ, hown, N, n1, C, hx, hby⟩
theorem Pos.grown (P : Pos p l e R s m args below meth c code Z EL wl hS own vm0 T locs cells slots h) {T' : State} {h' : Heap} {cells' slots' : Nat} (X' : Stand p l e R (s.setVm vm0) m args below meth c T' locs cells' slots') (e' : T'.heap = h') (E : Ext h h') : Pos p l e R s m args below meth c code Z EL wl hS own vm0 T' locs cells' slots' h' := by
  obtain ⟨X, eT, hsi, hZ, hown, N, n1, C, hx, hby⟩ := P; obtain ⟨k0, q1, q2⟩ := hsi; exact ⟨X', e', ⟨k0, q1, Nat.le_trans q2 E.1⟩, hZ, hown, N, n1, C.trans (CHr.ext E C.1), hx, hby⟩
theorem Pos.wrote (P : Pos p l e R s m args below meth c code Z EL wl hS own vm0 T locs cells slots h) {T' : State} {h' : Heap} {a : Addr} {sl : Nat} {v : Value} (X' : Stand p l e R (s.setVm vm0) m args below meth c T' (locs ++ [⟨a, sl⟩]) cells slots) (e' : T'.heap = h') (Wq : Wr h h' a sl v) (ga : a ∈ wl ∨ hS.size ≤ a) (S : Safe Z EL vm0 h a) : Pos p l e R s m args below meth c code Z EL wl hS own vm0 T' (locs ++ [⟨a, sl⟩]) cells slots h' := by
  obtain ⟨X, eT, hsi, hZ, hown, N, n1, C, hx, hby⟩ := P; obtain ⟨k0, q1, q2⟩ := hsi; have hs := Wq.size; exact ⟨X', e', ⟨k0, q1, by omega⟩, hZ, hown, N.snoc ga, n1, C.trans (CHr.wr Wq S C.1), hx, hby⟩
theorem Pos.came (P : Pos p l e R s m args below meth c code Z EL wl hS own vm0 T locs cells slots h) {T' : State} {L : List Loc} {cells' slots' : Nat} (X' : Stand p l e R (s.setVm vm0) m args below meth c T' (locs ++ L) cells' slots') (F : Frw wl hS.size L) (C' : CHr Z EL vm0 h vm0 T'.heap) : Pos p l e R s m args below meth c code Z EL wl hS own vm0 T' (locs ++ L) cells' slots' T'.heap := by
  obtain ⟨X, eT, hsi, hZ, hown, N, n1, C, hx, hby⟩ := P; obtain ⟨k0, q1, q2⟩ := hsi; have hs := C'.2.1; exact ⟨X', rfl, ⟨k0, q1, Nat.le_trans q2 hs⟩, hZ, hown, N.app F, n1, C.trans C', hx, hby⟩
theorem Pos.cameW (P : Pos p l e R s m args below meth c code Z EL wl hS own vm0 T locs cells slots h) {T' : State} {L : List Loc} {cells' slots' : Nat} (X' : Stand p l e R ((s.setVm vm0).setVm T'.vm) m args below meth c T' (locs ++ L) cells' slots') (h2 : (s.setVm vm0).Since T'.vm T'.heap.size) (g : h.size ≤ T'.heap.size) (F : Frw wl hS.size L) (C' : CHr Z EL vm0 h T'.vm T'.heap) : Pos p l e R s m args below meth c code Z EL wl hS own T'.vm T' (locs ++ L) cells' slots' T'.heap := by
  obtain ⟨X, eT, hsi, hZ, hown, N, n1, C, hx, hby⟩ := P; obtain ⟨k0, q1, q2⟩ := hsi
  obtain ⟨y1, y2, y3, y4⟩ := rebS q1 q2 X' h2 g hZ hown
  exact ⟨y1, rfl, ⟨_, y2, Nat.le_refl _⟩, y3, y4, N.app F, n1, C.trans C', hx, hby⟩
theorem Pos.getF (P : Pos p l e R s m args below meth c code Z EL wl hS own vm0 T locs cells slots h) {R0 O n d host : String} {index : Nat} {a : Addr} {v : Value} (w : (Cond.fieldLink own index R0 n d).before a0 Z = true ∨ (Cond.fieldLinkNest own index R0 n d host).before a0 Z = true) (via : Via Z R0 O n d) (F : Fld Z h a O n d v) (hd : decode code pc = .ok (.getfield index, 3)) (hp : pc + 3 = pc1) (K : ∀ (T' : State), Pos p l e R s m args below meth c code Z EL wl hS own vm0 T' locs cells slots h → Go p.tables e below G (T'.setTop (mkF m pc1 ls (v :: st)))) : Go p.tables e below G (T.setTop (mkF m pc ls (.ref a :: st))) := by
  subst hp
  obtain ⟨T', X', e', stp⟩ := RoadKit.getF P.1 P.q.2.1 P.hz P.2.2.2.2.1 w via P.heap F (g := mkF m pc ls (.ref a :: st)) rfl rfl (hb P.q.2.2 hd)
  exact Go.via stp (K T' (P.same X' e'))
theorem Pos.getS (P : Pos p l e R s m args below meth c code Z EL wl hS own vm0 T locs cells slots h) {R0 O n d : String} {index : Nat} {v : Value} (w : (Cond.fieldLink own index R0 n d).before a0 Z = true) (via : Via Z R0 O n d) (F : Sta Z h O n d v) (hd : decode code pc = .ok (.getstatic index, 3)) (hp : pc + 3 = pc1) (K : ∀ (T' : State), Pos p l e R s m args below meth c code Z EL wl hS own vm0 T' locs cells slots h → Go p.tables e below G (T'.setTop (mkF m pc1 ls (v :: st)))) : Go p.tables e below G (T.setTop (mkF m pc ls st)) := by
  subst hp
  obtain ⟨T', X', e', stp⟩ := RoadKit.getS (host := "") P.1 P.q.2.1 P.hz P.2.2.2.2.1 w via P.heap F (g := mkF m pc ls st) rfl (hb P.q.2.2 hd)
  exact Go.via stp (K T' (P.same X' e'))
theorem Pos.putF (P : Pos p l e R s m args below meth c code Z EL wl hS own vm0 T locs cells slots h) {R0 O n d host C : String} {index kk : Nat} {ty : FieldType} {a : Addr} {v old : Value} (w : (Cond.fieldLink own index R0 n d).before a0 Z = true ∨ (Cond.fieldLinkNest own index R0 n d host).before a0 Z = true) (via : Via Z R0 O n d) (F : Fld Z h a O n d old) (E : Exa Z h a C) (L : (Cond.lays C O n d).before a0 Z = true ∨ ((Cond.laysFinal C O n d).before a0 Z = true ∧ own = O ∧ meth.name = "<init>")) (wi : (Cond.instantiable C kk).before a0 Z = true) (hty : parseFieldDescriptor d = some ty) (hn : narrow ty v = v) (hf : fits ty v = true) (ga : a ∈ wl ∨ hS.size ≤ a) (S : Safe Z EL vm0 h a) (hd : decode code pc = .ok (.putfield index, 3)) (hp : pc + 3 = pc1) (K : ∀ (T' : State) (h' : Heap), Pos p l e R s m args below meth c code Z EL wl hS own vm0 T' (locs ++ [⟨a, RoadKit.slotOf Z O n d⟩]) cells slots h' → Wr h h' a (RoadKit.slotOf Z O n d) v → Go p.tables e below G (T'.setTop (mkF m pc1 ls st))) : Go p.tables e below G (T.setTop (mkF m pc ls (v :: .ref a :: st))) := by
  subst hp
  obtain ⟨T', h', X', e', W', stp⟩ := RoadKit.putF P.1 P.q.2.1 P.hz P.2.2.2.2.1 w via P.heap F E L wi hty hn hf (g := mkF m pc ls (v :: .ref a :: st)) rfl rfl (hb P.q.2.2 hd)
  exact Go.via stp (K T' h' (P.wrote X' e' W' ga S) W')
theorem Pos.newO (P : Pos p l e R s m args below meth c code Z EL wl hS own vm0 T locs cells slots h) {C : String} {index n : Nat} (w : (Cond.classLink own index C).before a0 Z = true) (wi : (Cond.instantiable C n).before a0 Z = true) (wz : (Cond.initialized C).before a0 Z = true) (hc : cells + 1 ≤ R.cells) (hl : slots + n ≤ R.slots) (hd : decode code pc = .ok (.new index, 3)) (hp : pc + 3 = pc1) (K : ∀ (T' : State) (h' : Heap) (x : Addr), x = h.size → Pos p l e R s m args below meth c code Z EL wl hS own vm0 T' locs (cells + 1) (slots + n) h' → Ext h h' → Exa Z h' x C → (∀ {O nm d : String} {ty : FieldType}, Laid Z a0 C O nm d → parseFieldDescriptor d = some ty → Fld Z h' x O nm d (defaultValue ty)) → (∃ cell : Cell, h'[x]? = some cell ∧ cell.vm = .none ∧ cell.monitor = {}) → Go p.tables e below G (T'.setTop (mkF m pc1 ls (.ref x :: st)))) : Go p.tables e below G (T.setTop (mkF m pc ls st)) := by
  subst hp
  obtain ⟨T', h', X', e', E', A', D', U', stp⟩ := RoadKit.newO P.1 P.q.2.1 P.hz P.2.2.2.2.1 w wi wz P.heap (g := mkF m pc ls st) rfl (hb P.q.2.2 hd) hc hl
  exact Go.via stp (K T' h' _ rfl (P.grown X' e' E') E' A' D' U')
theorem Pos.newP (P : Pos p l e R s m args below meth c code Z EL wl hS own vm0 T locs cells slots h) {aty : ArrayType} {n : Int32} {cap : Nat} (w : (Cond.arrayClass (newarray.typeOf aty)).before a0 Z = true) (hn : ¬ n < 0) (hcap : n.toNatClampNeg ≤ cap) (hb8 : cap * 8 ≤ 536870912) (hc : cells + 1 ≤ R.cells) (hl : slots + cap ≤ R.slots) (hd : decode code pc = .ok (.newarray aty, 2)) (hp : pc + 2 = pc1) (K : ∀ (T' : State) (h' : Heap) (x : Addr) (k : ClassId), x = h.size → Pos p l e R s m args below meth c code Z EL wl hS own vm0 T' locs (cells + 1) (slots + cap) h' → Ext h h' → Arv Z h' x k (newarray.typeOf aty) n (List.replicate n.toNatClampNeg (defaultValue (newarray.typeOf aty))) (defaultValue (newarray.typeOf aty)) → Go p.tables e below G (T'.setTop (mkF m pc1 ls (.ref x :: st)))) : Go p.tables e below G (T.setTop (mkF m pc ls (.int n :: st))) := by
  subst hp
  obtain ⟨T', h', k, X', e', E', A', stp⟩ := RoadKit.newP P.1 P.q.2.1 P.hz w P.heap (g := mkF m pc ls (.int n :: st)) rfl (hb P.q.2.2 hd) rfl hn hcap hb8 hc hl
  exact Go.via stp (K T' h' _ k rfl (P.grown X' e' E') E' ((Arv.new A' hn).pad (pad_rep [] _ _)))
theorem Pos.stC (P : Pos p l e R s m args below meth c code Z EL wl hS own vm0 T locs cells slots h) {a : Addr} {k : ClassId} {z j : Int32} {x : Int32} {vs : List Value} {d : Value} {i : Nat} (V : Arv Z h a k .char z vs d) (hj : ¬ j < 0) (hi : j.toNatClampNeg = i) (hl : i < vs.length) (hz : z.toNatClampNeg = vs.length) (ga : a ∈ wl ∨ hS.size ≤ a) (S : Safe Z EL vm0 h a) (hd : decode code pc = .ok (.castore, 1)) (hp : pc + 1 = pc1) (K : ∀ (T' : State) (h' : Heap), Pos p l e R s m args below meth c code Z EL wl hS own vm0 T' (locs ++ [⟨a, j.toNatClampNeg⟩]) cells slots h' → Wr h h' a j.toNatClampNeg (.int (nar .char x)) → Arv Z h' a k .char z (vs.set i (.int (nar .char x))) d → Go p.tables e below G (T'.setTop (mkF m pc1 ls st))) : Go p.tables e below G (T.setTop (mkF m pc ls (.int x :: .int j :: .ref a :: st))) := by
  subst hp
  obtain ⟨cl, A, q1, S1, q3, H1, G1⟩ := V
  obtain ⟨T', h', X', e', W', stp⟩ := RoadKit.stC P.1 P.q.2.1 P.hz P.heap A (j := j) (x := x) (fun y => y.elim hj (fun y => by rw [S1] at y; omega)) (g := mkF m pc ls (.int x :: .int j :: .ref a :: st)) rfl rfl (hb P.q.2.2 hd)
  exact Go.via stp (K T' h' (P.wrote X' e' W' ga S) W' (Arv.set A q1 S1 q3 H1 G1 (fits_nar_char x) W' i hi hl))
theorem Pos.stB (P : Pos p l e R s m args below meth c code Z EL wl hS own vm0 T locs cells slots h) {a : Addr} {k : ClassId} {z j : Int32} {x : Int32} {vs : List Value} {d : Value} {i : Nat} (V : Arv Z h a k .byte z vs d) (hj : ¬ j < 0) (hi : j.toNatClampNeg = i) (hl : i < vs.length) (hz : z.toNatClampNeg = vs.length) (ga : a ∈ wl ∨ hS.size ≤ a) (S : Safe Z EL vm0 h a) (hd : decode code pc = .ok (.bastore, 1)) (hp : pc + 1 = pc1) (K : ∀ (T' : State) (h' : Heap), Pos p l e R s m args below meth c code Z EL wl hS own vm0 T' (locs ++ [⟨a, j.toNatClampNeg⟩]) cells slots h' → Wr h h' a j.toNatClampNeg (.int (nar .byte x)) → Arv Z h' a k .byte z (vs.set i (.int (nar .byte x))) d → Go p.tables e below G (T'.setTop (mkF m pc1 ls st))) : Go p.tables e below G (T.setTop (mkF m pc ls (.int x :: .int j :: .ref a :: st))) := by
  subst hp
  obtain ⟨cl, A, q1, S1, q3, H1, G1⟩ := V
  obtain ⟨T', h', X', e', W', stp⟩ := RoadKit.stB P.1 P.q.2.1 P.hz P.heap A (j := j) (x := x) (fun y => y.elim hj (fun y => by rw [S1] at y; omega)) (g := mkF m pc ls (.int x :: .int j :: .ref a :: st)) rfl rfl (hb P.q.2.2 hd)
  exact Go.via stp (K T' h' (P.wrote X' e' W' ga S) W' (Arv.set A q1 S1 q3 H1 G1 (fits_nar_byte x) W' i hi hl))
theorem Pos.stZ (P : Pos p l e R s m args below meth c code Z EL wl hS own vm0 T locs cells slots h) {a : Addr} {k : ClassId} {z j : Int32} {x : Int32} {vs : List Value} {d : Value} {i : Nat} (V : Arv Z h a k .boolean z vs d) (hj : ¬ j < 0) (hi : j.toNatClampNeg = i) (hl : i < vs.length) (hz : z.toNatClampNeg = vs.length) (ga : a ∈ wl ∨ hS.size ≤ a) (S : Safe Z EL vm0 h a) (hd : decode code pc = .ok (.bastore, 1)) (hp : pc + 1 = pc1) (K : ∀ (T' : State) (h' : Heap), Pos p l e R s m args below meth c code Z EL wl hS own vm0 T' (locs ++ [⟨a, j.toNatClampNeg⟩]) cells slots h' → Wr h h' a j.toNatClampNeg (.int (nar .boolean x)) → Arv Z h' a k .boolean z (vs.set i (.int (nar .boolean x))) d → Go p.tables e below G (T'.setTop (mkF m pc1 ls st))) : Go p.tables e below G (T.setTop (mkF m pc ls (.int x :: .int j :: .ref a :: st))) := by
  subst hp
  obtain ⟨cl, A, q1, S1, q3, H1, G1⟩ := V
  obtain ⟨T', h', X', e', W', stp⟩ := RoadKit.stZ P.1 P.q.2.1 P.hz P.heap A (j := j) (x := x) (fun y => y.elim hj (fun y => by rw [S1] at y; omega)) (g := mkF m pc ls (.int x :: .int j :: .ref a :: st)) rfl rfl (hb P.q.2.2 hd)
  exact Go.via stp (K T' h' (P.wrote X' e' W' ga S) W' (Arv.set A q1 S1 q3 H1 G1 (fits_nar_bool x) W' i hi hl))
theorem Pos.stI (P : Pos p l e R s m args below meth c code Z EL wl hS own vm0 T locs cells slots h) {a : Addr} {k : ClassId} {z j : Int32} {x : Int32} {vs : List Value} {d : Value} {i : Nat} (V : Arv Z h a k .int z vs d) (hj : ¬ j < 0) (hi : j.toNatClampNeg = i) (hl : i < vs.length) (hz : z.toNatClampNeg = vs.length) (ga : a ∈ wl ∨ hS.size ≤ a) (S : Safe Z EL vm0 h a) (hd : decode code pc = .ok (.iastore, 1)) (hp : pc + 1 = pc1) (K : ∀ (T' : State) (h' : Heap), Pos p l e R s m args below meth c code Z EL wl hS own vm0 T' (locs ++ [⟨a, j.toNatClampNeg⟩]) cells slots h' → Wr h h' a j.toNatClampNeg (.int x) → Arv Z h' a k .int z (vs.set i (.int x)) d → Go p.tables e below G (T'.setTop (mkF m pc1 ls st))) : Go p.tables e below G (T.setTop (mkF m pc ls (.int x :: .int j :: .ref a :: st))) := by
  subst hp
  obtain ⟨cl, A, q1, S1, q3, H1, G1⟩ := V
  obtain ⟨T', h', X', e', W', stp⟩ := RoadKit.stI P.1 P.q.2.1 P.hz P.heap A (j := j) (x := x) (fun y => y.elim hj (fun y => by rw [S1] at y; omega)) (g := mkF m pc ls (.int x :: .int j :: .ref a :: st)) rfl rfl (hb P.q.2.2 hd)
  exact Go.via stp (K T' h' (P.wrote X' e' W' ga S) W' (Arv.set A q1 S1 q3 H1 G1 (rfl) W' i hi hl))
theorem Pos.stJ (P : Pos p l e R s m args below meth c code Z EL wl hS own vm0 T locs cells slots h) {a : Addr} {k : ClassId} {z j : Int32} {x : Int64} {vs : List Value} {d : Value} {i : Nat} (V : Arv Z h a k .long z vs d) (hj : ¬ j < 0) (hi : j.toNatClampNeg = i) (hl : i < vs.length) (hz : z.toNatClampNeg = vs.length) (ga : a ∈ wl ∨ hS.size ≤ a) (S : Safe Z EL vm0 h a) (hd : decode code pc = .ok (.lastore, 1)) (hp : pc + 1 = pc1) (K : ∀ (T' : State) (h' : Heap), Pos p l e R s m args below meth c code Z EL wl hS own vm0 T' (locs ++ [⟨a, j.toNatClampNeg⟩]) cells slots h' → Wr h h' a j.toNatClampNeg (.long x) → Arv Z h' a k .long z (vs.set i (.long x)) d → Go p.tables e below G (T'.setTop (mkF m pc1 ls st))) : Go p.tables e below G (T.setTop (mkF m pc ls (.long x :: .int j :: .ref a :: st))) := by
  subst hp
  obtain ⟨cl, A, q1, S1, q3, H1, G1⟩ := V
  obtain ⟨T', h', X', e', W', stp⟩ := RoadKit.stJ P.1 P.q.2.1 P.hz P.heap A (j := j) (x := x) (fun y => y.elim hj (fun y => by rw [S1] at y; omega)) (g := mkF m pc ls (.long x :: .int j :: .ref a :: st)) rfl rfl (hb P.q.2.2 hd)
  exact Go.via stp (K T' h' (P.wrote X' e' W' ga S) W' (Arv.set A q1 S1 q3 H1 G1 (rfl) W' i hi hl))
theorem Pos.stD (P : Pos p l e R s m args below meth c code Z EL wl hS own vm0 T locs cells slots h) {a : Addr} {k : ClassId} {z j : Int32} {x : UInt64} {vs : List Value} {d : Value} {i : Nat} (V : Arv Z h a k .double z vs d) (hj : ¬ j < 0) (hi : j.toNatClampNeg = i) (hl : i < vs.length) (hz : z.toNatClampNeg = vs.length) (ga : a ∈ wl ∨ hS.size ≤ a) (S : Safe Z EL vm0 h a) (hd : decode code pc = .ok (.dastore, 1)) (hp : pc + 1 = pc1) (K : ∀ (T' : State) (h' : Heap), Pos p l e R s m args below meth c code Z EL wl hS own vm0 T' (locs ++ [⟨a, j.toNatClampNeg⟩]) cells slots h' → Wr h h' a j.toNatClampNeg (.double x) → Arv Z h' a k .double z (vs.set i (.double x)) d → Go p.tables e below G (T'.setTop (mkF m pc1 ls st))) : Go p.tables e below G (T.setTop (mkF m pc ls (.double x :: .int j :: .ref a :: st))) := by
  subst hp
  obtain ⟨cl, A, q1, S1, q3, H1, G1⟩ := V
  obtain ⟨T', h', X', e', W', stp⟩ := RoadKit.stD P.1 P.q.2.1 P.hz P.heap A (j := j) (x := x) (fun y => y.elim hj (fun y => by rw [S1] at y; omega)) (g := mkF m pc ls (.double x :: .int j :: .ref a :: st)) rfl rfl (hb P.q.2.2 hd)
  exact Go.via stp (K T' h' (P.wrote X' e' W' ga S) W' (Arv.set A q1 S1 q3 H1 G1 (rfl) W' i hi hl))
theorem Pos.stF (P : Pos p l e R s m args below meth c code Z EL wl hS own vm0 T locs cells slots h) {a : Addr} {k : ClassId} {z j : Int32} {x : UInt32} {vs : List Value} {d : Value} {i : Nat} (V : Arv Z h a k .float z vs d) (hj : ¬ j < 0) (hi : j.toNatClampNeg = i) (hl : i < vs.length) (hz : z.toNatClampNeg = vs.length) (ga : a ∈ wl ∨ hS.size ≤ a) (S : Safe Z EL vm0 h a) (hd : decode code pc = .ok (.fastore, 1)) (hp : pc + 1 = pc1) (K : ∀ (T' : State) (h' : Heap), Pos p l e R s m args below meth c code Z EL wl hS own vm0 T' (locs ++ [⟨a, j.toNatClampNeg⟩]) cells slots h' → Wr h h' a j.toNatClampNeg (.float x) → Arv Z h' a k .float z (vs.set i (.float x)) d → Go p.tables e below G (T'.setTop (mkF m pc1 ls st))) : Go p.tables e below G (T.setTop (mkF m pc ls (.float x :: .int j :: .ref a :: st))) := by
  subst hp
  obtain ⟨cl, A, q1, S1, q3, H1, G1⟩ := V
  obtain ⟨T', h', X', e', W', stp⟩ := RoadKit.stF P.1 P.q.2.1 P.hz P.heap A (j := j) (x := x) (fun y => y.elim hj (fun y => by rw [S1] at y; omega)) (g := mkF m pc ls (.float x :: .int j :: .ref a :: st)) rfl rfl (hb P.q.2.2 hd)
  exact Go.via stp (K T' h' (P.wrote X' e' W' ga S) W' (Arv.set A q1 S1 q3 H1 G1 (rfl) W' i hi hl))
theorem Pos.ldC (P : Pos p l e R s m args below meth c code Z EL wl hS own vm0 T locs cells slots h) {a : Addr} {k : ClassId} {z j : Int32} {vs : List Value} {d v : Value} (V : Arv Z h a k .char z vs d) (hj : ¬ j < 0) (hz : j.toNatClampNeg < z.toNatClampNeg) (hv : vs.getD j.toNatClampNeg d = v) (hd : decode code pc = .ok (.caload, 1)) (hp : pc + 1 = pc1) (K : Go p.tables e below G (T.setTop (mkF m pc1 ls (v :: st)))) : Go p.tables e below G (T.setTop (mkF m pc ls (.int j :: .ref a :: st))) := by
  subst hp
  obtain ⟨cl, A, q1, S1, q3, H1, G1⟩ := V
  exact Go.via (fun t k => P.1.caload P.q.2.1 (j := j) (v := v) (by rw [P.heap]; exact A.1) (State.isArrayOf_alike P.hz.alike A.2.1) A.2.2 (fun y => y.elim hj (fun y => by rw [S1] at y; omega)) (by rw [← hv]; exact H1 _ (by rw [S1]; exact hz)) (g := mkF m pc ls (.int j :: .ref a :: st)) rfl rfl (hb P.q.2.2 hd) t k) K
theorem Pos.ldB (P : Pos p l e R s m args below meth c code Z EL wl hS own vm0 T locs cells slots h) {a : Addr} {k : ClassId} {z j : Int32} {vs : List Value} {d v : Value} (V : Arv Z h a k .byte z vs d) (hj : ¬ j < 0) (hz : j.toNatClampNeg < z.toNatClampNeg) (hv : vs.getD j.toNatClampNeg d = v) (hd : decode code pc = .ok (.baload, 1)) (hp : pc + 1 = pc1) (K : Go p.tables e below G (T.setTop (mkF m pc1 ls (v :: st)))) : Go p.tables e below G (T.setTop (mkF m pc ls (.int j :: .ref a :: st))) := by
  subst hp
  obtain ⟨cl, A, q1, S1, q3, H1, G1⟩ := V
  exact Go.via (fun t k => P.1.baloadBytes P.q.2.1 (j := j) (v := v) (by rw [P.heap]; exact A.1) (State.isArrayOf_alike P.hz.alike A.2.1) A.2.2 (fun y => y.elim hj (fun y => by rw [S1] at y; omega)) (by rw [← hv]; exact H1 _ (by rw [S1]; exact hz)) (g := mkF m pc ls (.int j :: .ref a :: st)) rfl rfl (hb P.q.2.2 hd) t k) K
theorem Pos.ldZ (P : Pos p l e R s m args below meth c code Z EL wl hS own vm0 T locs cells slots h) {a : Addr} {k : ClassId} {z j : Int32} {vs : List Value} {d v : Value} (V : Arv Z h a k .boolean z vs d) (hj : ¬ j < 0) (hz : j.toNatClampNeg < z.toNatClampNeg) (hv : vs.getD j.toNatClampNeg d = v) (hd : decode code pc = .ok (.baload, 1)) (hp : pc + 1 = pc1) (K : Go p.tables e below G (T.setTop (mkF m pc1 ls (v :: st)))) : Go p.tables e below G (T.setTop (mkF m pc ls (.int j :: .ref a :: st))) := by
  subst hp
  obtain ⟨cl, A, q1, S1, q3, H1, G1⟩ := V
  exact Go.via (fun t k => P.1.baloadBooleans P.q.2.1 (j := j) (v := v) (by rw [P.heap]; exact A.1) (State.isArrayOf_alike P.hz.alike A.2.1) A.2.2 (fun y => y.elim hj (fun y => by rw [S1] at y; omega)) (by rw [← hv]; exact H1 _ (by rw [S1]; exact hz)) (g := mkF m pc ls (.int j :: .ref a :: st)) rfl rfl (hb P.q.2.2 hd) t k) K
theorem Pos.ldI (P : Pos p l e R s m args below meth c code Z EL wl hS own vm0 T locs cells slots h) {a : Addr} {k : ClassId} {z j : Int32} {vs : List Value} {d v : Value} (V : Arv Z h a k .int z vs d) (hj : ¬ j < 0) (hz : j.toNatClampNeg < z.toNatClampNeg) (hv : vs.getD j.toNatClampNeg d = v) (hd : decode code pc = .ok (.iaload, 1)) (hp : pc + 1 = pc1) (K : Go p.tables e below G (T.setTop (mkF m pc1 ls (v :: st)))) : Go p.tables e below G (T.setTop (mkF m pc ls (.int j :: .ref a :: st))) := by
  subst hp
  obtain ⟨cl, A, q1, S1, q3, H1, G1⟩ := V
  exact Go.via (fun t k => P.1.iaload P.q.2.1 (j := j) (v := v) (by rw [P.heap]; exact A.1) (State.isArrayOf_alike P.hz.alike A.2.1) A.2.2 (fun y => y.elim hj (fun y => by rw [S1] at y; omega)) (by rw [← hv]; exact H1 _ (by rw [S1]; exact hz)) (g := mkF m pc ls (.int j :: .ref a :: st)) rfl rfl (hb P.q.2.2 hd) t k) K
theorem Pos.ldJ (P : Pos p l e R s m args below meth c code Z EL wl hS own vm0 T locs cells slots h) {a : Addr} {k : ClassId} {z j : Int32} {vs : List Value} {d v : Value} (V : Arv Z h a k .long z vs d) (hj : ¬ j < 0) (hz : j.toNatClampNeg < z.toNatClampNeg) (hv : vs.getD j.toNatClampNeg d = v) (hd : decode code pc = .ok (.laload, 1)) (hp : pc + 1 = pc1) (K : Go p.tables e below G (T.setTop (mkF m pc1 ls (v :: st)))) : Go p.tables e below G (T.setTop (mkF m pc ls (.int j :: .ref a :: st))) := by
  subst hp
  obtain ⟨cl, A, q1, S1, q3, H1, G1⟩ := V
  exact Go.via (fun t k => P.1.laload P.q.2.1 (j := j) (v := v) (by rw [P.heap]; exact A.1) (State.isArrayOf_alike P.hz.alike A.2.1) A.2.2 (fun y => y.elim hj (fun y => by rw [S1] at y; omega)) (by rw [← hv]; exact H1 _ (by rw [S1]; exact hz)) (g := mkF m pc ls (.int j :: .ref a :: st)) rfl rfl (hb P.q.2.2 hd) t k) K
theorem Pos.ldD (P : Pos p l e R s m args below meth c code Z EL wl hS own vm0 T locs cells slots h) {a : Addr} {k : ClassId} {z j : Int32} {vs : List Value} {d v : Value} (V : Arv Z h a k .double z vs d) (hj : ¬ j < 0) (hz : j.toNatClampNeg < z.toNatClampNeg) (hv : vs.getD j.toNatClampNeg d = v) (hd : decode code pc = .ok (.daload, 1)) (hp : pc + 1 = pc1) (K : Go p.tables e below G (T.setTop (mkF m pc1 ls (v :: st)))) : Go p.tables e below G (T.setTop (mkF m pc ls (.int j :: .ref a :: st))) := by
  subst hp
  obtain ⟨cl, A, q1, S1, q3, H1, G1⟩ := V
  exact Go.via (fun t k => P.1.daload P.q.2.1 (j := j) (v := v) (by rw [P.heap]; exact A.1) (State.isArrayOf_alike P.hz.alike A.2.1) A.2.2 (fun y => y.elim hj (fun y => by rw [S1] at y; omega)) (by rw [← hv]; exact H1 _ (by rw [S1]; exact hz)) (g := mkF m pc ls (.int j :: .ref a :: st)) rfl rfl (hb P.q.2.2 hd) t k) K
theorem Pos.ldF (P : Pos p l e R s m args below meth c code Z EL wl hS own vm0 T locs cells slots h) {a : Addr} {k : ClassId} {z j : Int32} {vs : List Value} {d v : Value} (V : Arv Z h a k .float z vs d) (hj : ¬ j < 0) (hz : j.toNatClampNeg < z.toNatClampNeg) (hv : vs.getD j.toNatClampNeg d = v) (hd : decode code pc = .ok (.faload, 1)) (hp : pc + 1 = pc1) (K : Go p.tables e below G (T.setTop (mkF m pc1 ls (v :: st)))) : Go p.tables e below G (T.setTop (mkF m pc ls (.int j :: .ref a :: st))) := by
  subst hp
  obtain ⟨cl, A, q1, S1, q3, H1, G1⟩ := V
  exact Go.via (fun t k => P.1.faload P.q.2.1 (j := j) (v := v) (by rw [P.heap]; exact A.1) (State.isArrayOf_alike P.hz.alike A.2.1) A.2.2 (fun y => y.elim hj (fun y => by rw [S1] at y; omega)) (by rw [← hv]; exact H1 _ (by rw [S1]; exact hz)) (g := mkF m pc ls (.int j :: .ref a :: st)) rfl rfl (hb P.q.2.2 hd) t k) K
theorem Pos.ldR (P : Pos p l e R s m args below meth c code Z EL wl hS own vm0 T locs cells slots h) {a : Addr} {k : ClassId} {ty : FieldType} {z j : Int32} {vs : List Value} {d v : Value} (V : Arv Z h a k ty z vs d) (hty : ty.isReference = true) (hj : ¬ j < 0) (hz : j.toNatClampNeg < z.toNatClampNeg) (hv : vs.getD j.toNatClampNeg d = v) (hd : decode code pc = .ok (.aaload, 1)) (hp : pc + 1 = pc1) (K : Go p.tables e below G (T.setTop (mkF m pc1 ls (v :: st)))) : Go p.tables e below G (T.setTop (mkF m pc ls (.int j :: .ref a :: st))) := by
  subst hp
  obtain ⟨cl, A, q1, S1, q3, H1, G1⟩ := V
  exact Go.via (fun t k => P.1.aaload P.q.2.1 (j := j) (v := v) (by rw [P.heap]; exact A.1) (State.isArrayOf_alike P.hz.alike A.2.1) hty A.2.2 (fun y => y.elim hj (fun y => by rw [S1] at y; omega)) (by rw [← hv]; exact H1 _ (by rw [S1]; exact hz)) (g := mkF m pc ls (.int j :: .ref a :: st)) rfl rfl (hb P.q.2.2 hd) t k) K
theorem Pos.cloneR (P : Pos p l e R s m args below meth c code Z EL wl hS own vm0 T locs cells slots h) {ad : String} {index : Nat} {a : Addr} {k : ClassId} {ty : FieldType} {z : Int32} {vs : List Value} {d : Value} {W cap : Nat} (w1 : (Cond.methodLink own index ⟨ad, "clone", "()Ljava/lang/Object;"⟩).before a0 Z = true) (w2 : (Cond.sameMethod ad "java/lang/Object" "clone" "()Ljava/lang/Object;").before a0 Z = true) (w3 : (Cond.native ⟨"java/lang/Object", "clone", "()Ljava/lang/Object;"⟩).before a0 Z = true) (w4 : (Cond.instanceMethod ⟨"java/lang/Object", "clone", "()Ljava/lang/Object;"⟩).before a0 Z = true) (w5 : (Cond.selects ad ⟨ad, "clone", "()Ljava/lang/Object;"⟩ ⟨"java/lang/Object", "clone", "()Ljava/lang/Object;"⟩).before a0 Z = true) (w6 : (Cond.castable ad "java/lang/Cloneable").before a0 Z = true) (V : Arv Z h a k ty z vs d) (E : Exa Z h a ad) (hsize : ls.size = c.maxLocals) (hf : 1 ≤ R.frames) (hW : (st.map fun v => v.category).sum ≤ W) (hl : W + 14 ≤ R.locals) (hcap : z.toNatClampNeg ≤ cap) (hc : cells + 1 ≤ R.cells) (hsl : slots + cap ≤ R.slots) (hd : decode code pc = .ok (.invokevirtual index, 3)) (hp : pc + 3 = pc1) (K : ∀ (T' : State) (h' : Heap) (x : Addr), x = h.size → Pos p l e R s m args below meth c code Z EL wl hS own vm0 T' locs (cells + 1) (slots + cap) h' → Ext h h' → Arv Z h' x k ty z vs d → Exa Z h' x ad → Go p.tables e below G (T'.setTop (mkF m pc1 ls (.ref x :: st)))) : Go p.tables e below G (T.setTop (mkF m pc ls (.ref a :: st))) := by
  subst hp
  obtain ⟨T', h', X', e', E', A', Ex', stp⟩ := RoadKit.cloneH P.1 P.q.2.1 P.hz P.2.2.2.2.1 w1 w2 w3 w4 w5 w6 P.heap V.arh E (g := mkF m pc ls (.ref a :: st)) rfl hsize rfl (hb P.q.2.2 hd) hf (W := W) (by show 2 * 0 + _ ≤ _; omega) hl hcap hc hsl
  exact Go.via stp (K T' h' _ rfl (P.grown X' e' E') E' A' Ex')
theorem Pos.len (P : Pos p l e R s m args below meth c code Z EL wl hS own vm0 T locs cells slots h) {a : Addr} {k : ClassId} {ty : FieldType} {z : Int32} {vs : List Value} {d : Value} (V : Arv Z h a k ty z vs d) (hd : decode code pc = .ok (.arraylength, 1)) (hp : pc + 1 = pc1) (K : Go p.tables e below G (T.setTop (mkF m pc1 ls (.int z :: st)))) : Go p.tables e below G (T.setTop (mkF m pc ls (.ref a :: st))) := by
  subst hp
  obtain ⟨cl, A, q1, S1, q3, H1, G1⟩ := V
  rw [← len_of S1 q3] at K
  exact Go.via (fun t k => P.1.arraylength P.q.2.1 (cell := cl) (by rw [P.heap]; exact A.1) (State.isArrayOf_alike P.hz.alike A.2.1) (g := mkF m pc ls (.ref a :: st)) rfl (rest := st) rfl (hb P.q.2.2 hd) t k) K
theorem Pos.initO (P : Pos p l e R s m args below meth c code Z EL wl hS own vm0 T locs cells slots h) {idx : Nat} {a : Addr} {W : Nat} (w1 : (Cond.methodLink own idx Lib.objectInit).before a0 Z = true) (w2 : (Cond.instanceMethod Lib.objectInit).before a0 Z = true) (w3 : (Cond.code Lib.objectInit ⟨#[0xb1]⟩ 1 none).before a0 Z = true) (hsize : ls.size = c.maxLocals) (hf : 1 ≤ R.frames) (hW : (st.map fun v => v.category).sum ≤ W) (hl : W + 12 ≤ R.locals) (hd : decode code pc = .ok (.invokespecial idx, 3)) (hp : pc + 3 = pc1) (K : ∀ (T' : State), Pos p l e R s m args below meth c code Z EL wl hS own vm0 T' locs cells slots h → Go p.tables e below G (T'.setTop (mkF m pc1 ls st))) : Go p.tables e below G (T.setTop (mkF m pc ls (.ref a :: st))) := by
  subst hp
  obtain ⟨T', X', e', stp⟩ := RoadKit.initO P.1 P.q.2.1 P.hz P.2.2.2.2.1 w1 w2 w3 P.heap (g := mkF m pc ls (.ref a :: st)) rfl hsize rfl (hb P.q.2.2 hd) hf (W := W) (by show 2 * 0 + _ ≤ _; omega) hl
  exact Go.via stp (K T' (P.same X' e'))
theorem Pos.castY (P : Pos p l e R s m args below meth c code Z EL wl hS own vm0 T locs cells slots h) {C : String} {index : Nat} {a : Addr} (w : (Cond.classLink own index C).before a0 Z = true) (F : Ins Z h a C true) (hd : decode code pc = .ok (.checkcast index, 3)) (hp : pc + 3 = pc1) (K : ∀ (T' : State), Pos p l e R s m args below meth c code Z EL wl hS own vm0 T' locs cells slots h → Go p.tables e below G (T'.setTop (mkF m pc1 ls (.ref a :: st)))) : Go p.tables e below G (T.setTop (mkF m pc ls (.ref a :: st))) := by
  subst hp
  obtain ⟨T', X', e', stp⟩ := RoadKit.castY P.1 P.q.2.1 P.hz P.2.2.2.2.1 w P.heap F (g := mkF m pc ls (.ref a :: st)) rfl rfl (hb P.q.2.2 hd)
  exact Go.via stp (K T' (P.same X' e'))
theorem Pos.instY (P : Pos p l e R s m args below meth c code Z EL wl hS own vm0 T locs cells slots h) {C : String} {index : Nat} {a : Addr} (w : (Cond.classLink own index C).before a0 Z = true) (F : Ins Z h a C true) (hd : decode code pc = .ok (.instanceof index, 3)) (hp : pc + 3 = pc1) (K : ∀ (T' : State), Pos p l e R s m args below meth c code Z EL wl hS own vm0 T' locs cells slots h → Go p.tables e below G (T'.setTop (mkF m pc1 ls (.int 1 :: st)))) : Go p.tables e below G (T.setTop (mkF m pc ls (.ref a :: st))) := by
  subst hp
  obtain ⟨T', X', e', stp⟩ := RoadKit.instY P.1 P.q.2.1 P.hz P.2.2.2.2.1 w P.heap F (g := mkF m pc ls (.ref a :: st)) rfl rfl (hb P.q.2.2 hd)
  exact Go.via stp (K T' (P.same X' e'))
theorem Pos.instNull (P : Pos p l e R s m args below meth c code Z EL wl hS own vm0 T locs cells slots h) {index : Nat} (hd : decode code pc = .ok (.instanceof index, 3)) (hp : pc + 3 = pc1) (K : Go p.tables e below G (T.setTop (mkF m pc1 ls (.int 0 :: st)))) : Go p.tables e below G (T.setTop (mkF m pc ls (.null :: st))) := by
  subst hp; exact Go.via (P.1.instanceofNull P.q.2.1 (g := mkF m pc ls (.null :: st)) rfl rfl (hb P.q.2.2 hd)) K
theorem Pos.castNull (P : Pos p l e R s m args below meth c code Z EL wl hS own vm0 T locs cells slots h) {index : Nat} (hd : decode code pc = .ok (.checkcast index, 3)) (hp : pc + 3 = pc1) (K : Go p.tables e below G (T.setTop (mkF m pc1 ls (.null :: st)))) : Go p.tables e below G (T.setTop (mkF m pc ls (.null :: st))) := by
  subst hp; exact Go.via (P.1.checkcastNull P.q.2.1 (g := mkF m pc ls (.null :: st)) rfl rfl (hb P.q.2.2 hd)) K
theorem Pos.instNo (P : Pos p l e R s m args below meth c code Z EL wl hS own vm0 T locs cells slots h) {C D : String} {index : Nat} {a : Addr} (w : (Cond.classLink own index C).before a0 Z = true) (E : Exa Z h a D) (F : ∃ c t, Z.vm.findClass D = some c ∧ Z.vm.findClass C = some t ∧ Z.vm.assignable c t = false) (hd : decode code pc = .ok (.instanceof index, 3)) (hp : pc + 3 = pc1) (K : ∀ (T' : State), Pos p l e R s m args below meth c code Z EL wl hS own vm0 T' locs cells slots h → Go p.tables e below G (T'.setTop (mkF m pc1 ls (.int 0 :: st)))) : Go p.tables e below G (T.setTop (mkF m pc ls (.ref a :: st))) := by
  subst hp
  obtain ⟨T', X', e', stp⟩ := RoadKit.instNo P.1 P.q.2.1 P.hz P.2.2.2.2.1 w P.heap E F (g := mkF m pc ls (.ref a :: st)) rfl rfl (hb P.q.2.2 hd)
  exact Go.via stp (K T' (P.same X' e'))
theorem Pos.exc1 (P : Pos p l e R s m args below meth c code Z EL wl hS own vm0 T locs cells slots h) (htr : l.stackTraces = true) {rc : String} {links : List Jvm.Free.Exc.Link} {ic n : Nat} (hok : Jvm.Free.Exc.linksOk 1 links = true) (w1 : (Cond.methodLink own ic (Jvm.Free.Exc.ctor 1 (Jvm.Free.Exc.headName links))).before a0 Z = true) (w2 : (Cond.instanceMethod (Jvm.Free.Exc.ctor 1 (Jvm.Free.Exc.headName links))).before a0 Z = true) (wT : (Jvm.Free.Exc.chainTab 1 rc links).before a0 Z = true) (wi : (Cond.instantiable rc n).before a0 Z = true) (r : ∀ d ∈ twoRefs, d.before a0 Z = true)
    (hT0 : ThS Z hS) (hT : ThS Z h) (hTK : vm0.MethodsKnown) (hBelow : vm0.FramesKnown below) {a : Addr} (E : Exa Z h a rc) (N : Unt h a) (B : Fld Z h a Bundle.tN "backtrace" Jvm.Free.Exc.obD .null) (B2 : Fld Z h a Bundle.tN "detailMessage" Jvm.Free.Exc.msgD .null) {msg : Value} (hmsg : msg.isRef = true) (ga : a ∈ wl ∨ hS.size ≤ a) (S : Safe Z EL vm0 h a)
    (hsize : ls.size = c.maxLocals) {W : Nat} (hW : (st.map fun v => v.category).sum ≤ W) (hf : 4 + links.length ≤ R.frames) (hlo : W + (56 + 14 * links.length) ≤ R.locals) (hc : cells + 1 ≤ R.cells) (hsl : slots + 2752 ≤ R.slots) (hd : decode code pc = .ok (.invokespecial ic, 3)) (hp : pc + 3 = pc1)
    (K : ∀ (T' : State) (h' : Heap), Pos p l e R s m args below meth c code Z EL wl hS own vm0 T' (locs ++ sixLocs Z a) (cells + 1) (slots + 2752) h' → Kp Z h h' a → Exa Z h' a rc → Unt h' a → Fld Z h' a Bundle.tN "detailMessage" Jvm.Free.Exc.msgD msg → ThS Z h' → Go p.tables e below G (T'.setTop (mkF m pc1 ls st))) : Go p.tables e below G (T.setTop (mkF m pc ls (msg :: .ref a :: st))) := by
  subst hp
  obtain ⟨T', h', X', e', K', E', N', M', -, hT', stp⟩ := RoadKit.excL1 P.1 P.q.2.1 htr P.hz P.2.2.2.2.1 hok w1 w2 wT wi r (by have q := P.2.2.2.2.2.2.1; show ThS Z s.heap; rw [q]; exact hT0) hT hTK hBelow P.heap E N B B2 hmsg (g := mkF m pc ls (msg :: .ref a :: st)) rfl hsize rfl (hb P.q.2.2 hd) hf (by show 2 * 0 + _ + _ ≤ _; omega) hc hsl
  refine Go.via stp (K T' h' ?_ K' E' N' M' hT')
  have C' : CHr Z EL vm0 h vm0 h' := CHr.keep (keep_of_kp K') (sfS S sf0) P.chv
  obtain ⟨X, eT, hsi, hZ, hown, N, n1, C, hx, hby⟩ := P; obtain ⟨k0, q1, q2⟩ := hsi
  exact ⟨X', e', ⟨k0, q1, Nat.le_trans q2 C'.2.1⟩, hZ, hown, N.app (fun y hy => by obtain ⟨nd, -, rfl⟩ := List.mem_map.mp hy; exact ga), n1, C.trans C', hx, hby⟩
theorem Pos.alS (P : Pos p l e R s m args below meth c code Z EL wl hS own vm0 T locs cells slots h) : s.vm.Alike vm0 := by obtain ⟨k0, q1, q2⟩ := P.2.2.1; exact q1.1.alike
theorem Pos.ldcI (P : Pos p l e R s m args below meth c code Z EL wl hS own vm0 T locs cells slots h) {index : Nat} {v : Int32} (w : (Cond.constant own index v).before a0 Z = true) (hd : decode code pc = .ok (.ldc index, 2)) (hp : pc + 2 = pc1) (K : Go p.tables e below G (T.setTop (mkF m pc1 ls (.int v :: st)))) : Go p.tables e below G (T.setTop (mkF m pc ls st)) := by
  subst hp; exact Go.via (P.1.ldcInt P.q.2.1 P.2.2.2.2.1 (mvT P.hz w) (g := mkF m pc ls st) rfl (hb P.q.2.2 hd)) K
theorem Pos.ldc2J (P : Pos p l e R s m args below meth c code Z EL wl hS own vm0 T locs cells slots h) {index : Nat} {v : Int64} (w : (Cond.constantLong own index v).before a0 Z = true) (hd : decode code pc = .ok (.ldc2_w index, 3)) (hp : pc + 3 = pc1) (K : Go p.tables e below G (T.setTop (mkF m pc1 ls (.long v :: st)))) : Go p.tables e below G (T.setTop (mkF m pc ls st)) := by
  subst hp; exact Go.via (P.1.ldc2Long P.q.2.1 P.2.2.2.2.1 (mvT P.hz w) (g := mkF m pc ls st) rfl (hb P.q.2.2 hd)) K
theorem Pos.ldcF (P : Pos p l e R s m args below meth c code Z EL wl hS own vm0 T locs cells slots h) {index : Nat} {v : UInt32} (w : (Cond.constantFloat own index v).before a0 Z = true) (hd : decode code pc = .ok (.ldc index, 2)) (hp : pc + 2 = pc1) (K : Go p.tables e below G (T.setTop (mkF m pc1 ls (.float v :: st)))) : Go p.tables e below G (T.setTop (mkF m pc ls st)) := by
  subst hp; exact Go.via (P.1.ldcFloatC P.q.2.1 P.2.2.2.2.1 (mvT P.hz w) (g := mkF m pc ls st) rfl (hb P.q.2.2 hd)) K
theorem Pos.ldc2D (P : Pos p l e R s m args below meth c code Z EL wl hS own vm0 T locs cells slots h) {index : Nat} {v : UInt64} (w : (Cond.constantDouble own index v).before a0 Z = true) (hd : decode code pc = .ok (.ldc2_w index, 3)) (hp : pc + 3 = pc1) (K : Go p.tables e below G (T.setTop (mkF m pc1 ls (.double v :: st)))) : Go p.tables e below G (T.setTop (mkF m pc ls st)) := by
  subst hp; exact Go.via (P.1.ldc2DoubleC P.q.2.1 P.2.2.2.2.1 (mvT P.hz w) (g := mkF m pc ls st) rfl (hb P.q.2.2 hd)) K
theorem Pos.ldcO (P : Pos p l e R s m args below meth c code Z EL wl hS own vm0 T locs cells slots h) {index : Nat} {text : String} {n : Nat} (w : (Cond.stringLink own index text).before a0 Z = true) (wS : ∀ a ∈ Bundle.stringAtoms, a.before a0 Z = true) (hEL : EW Z a0 EL) (hn : 4 * text.toList.length ≤ n) (hbig : n ≤ 536870912) (hc : cells + 2 ≤ R.cells) (hl : slots + (n + 4) ≤ R.slots) (hd : decode code pc = .ok (.ldc index, 2)) (hp : pc + 2 = pc1)
    (K : ∀ (a : Addr) (T' : State) (h' : Heap), Pos p l e R s m args below meth c code Z EL wl hS own T'.vm T' locs (cells + 2) (slots + (n + 4)) h' → Ext h h' → CHr Z EL vm0 h T'.vm h' → Lit (s.setVm T'.vm) own index a → Go p.tables e below G (T'.setTop (mkF m pc1 ls (.ref a :: st)))) : Go p.tables e below G (T.setTop (mkF m pc ls st)) := by
  subst hp
  obtain ⟨X, eT, hsi, hZ, hown, N, n1, C, hx, hby⟩ := P
  obtain ⟨k0, q1, q2⟩ := hsi
  obtain ⟨a, T', h', k1, X', e', E', hS2, hk2, hW, hf, hC, hL, stp⟩ := RoadKit.ldcOH X hx hZ hown w wS eT q1 q2 hEL C.1 (g := mkF m pc ls st) rfl (hb hby hd) hn hbig hc hl
  exact Go.via stp (K a T' h' ⟨X', e', ⟨k1, hS2, hk2⟩, hW, hf, N, n1, C.trans hC, hx, hby⟩ E' hC hL)
theorem Pos.ldcR (P : Pos p l e R s m args below meth c code Z EL wl hS own vm0 T locs cells slots h) {index : Nat} {text : String} {n : Nat} (w : (Cond.stringLink own index text).before a0 Z = true) (wS : ∀ a ∈ Bundle.stringAtoms, a.before a0 Z = true) (hEL : EW Z a0 EL) (hmem : (own, index) ∈ EL) {vs : List Value} {z : Int32} (ht : (∀ c ∈ text.toList, c.toNat < 256) ∧ text.toList.map (fun c => Value.int (Jvm.Lit.byteI c.toNat.toUInt16)) = vs) (hz : ¬ z < 0) (hlz : z.toNatClampNeg = vs.length) (hn : 4 * text.toList.length ≤ n) (hbig : n ≤ 536870912) (hc : cells + 2 ≤ R.cells) (hl : slots + (n + 4) ≤ R.slots) (hd : decode code pc = .ok (.ldc index, 2)) (hp : pc + 2 = pc1)
    (K : ∀ (a : Addr) (T' : State) (h' : Heap) (b : Addr) (k : ClassId), Pos p l e R s m args below meth c code Z EL wl hS own T'.vm T' locs (cells + 2) (slots + (n + 4)) h' → Ext h h' → CHr Z EL vm0 h T'.vm h' → Exa Z h' a "java/lang/String" → Fld Z h' a "java/lang/String" "coder" "B" (.int 0) → Fld Z h' a "java/lang/String" "value" "[B" (.ref b) → Arv Z h' b k .byte z vs (.int 0) → (∀ x, Safe Z EL T'.vm h' x → x ≠ a ∧ x ≠ b) → Lit (s.setVm T'.vm) own index a → Go p.tables e below G (T'.setTop (mkF m pc1 ls (.ref a :: st)))) : Go p.tables e below G (T.setTop (mkF m pc ls st)) := by
  subst hp
  obtain ⟨X, eT, hsi, hZ, hown, N, n1, C, hx, hby⟩ := P
  obtain ⟨k0, q1, q2⟩ := hsi
  obtain ⟨a, T', h', k1, b, k, X', e', E', hS2, hk2, hW, hf, y1, y2, y3, y4, -, -, hC, hL, hne, stp⟩ := RoadKit.ldcCH X hx hZ hown w wS eT q1 q2 hEL hmem C.1 ht hz hlz (g := mkF m pc ls st) rfl (hb hby hd) hn hbig hc hl
  exact Go.via stp (K a T' h' b k ⟨X', e', ⟨k1, hS2, hk2⟩, hW, hf, N, n1, C.trans hC, hx, hby⟩ E' hC y1 y2 y3 y4 hne hL)
theorem Pos.callS (P : Pos p l e R s m args below meth c code Z EL wl hS own vm0 T locs cells slots h) {index : Nat} {y : MethodName} {bytes : ByteArray} {maxL : Nat} {ret : Option FieldType} {as' : Array Value} {rc rs W : Nat} {Q : Option Value → Heap → List Loc → Prop} {argsL st0 : List Value} (w1 : (Cond.methodLink own index y).before a0 Z = true) (w2 : (Cond.static y).before a0 Z = true) (w3 : (Cond.initialized y.cls).before a0 Z = true) (w4 : (Cond.code y bytes maxL ret).before a0 Z = true) (hy : y.cls ≠ "java/lang/invoke/MethodHandle" ∧ y.cls ≠ "java/lang/invoke/VarHandle") (hK : Back l R p e below (s.setVm vm0) args y 3 W (fun A a => a = as' ∧ A.U.heap = h ∧ A.cells + rc ≤ R.cells ∧ A.slots + rs ≤ R.slots) (fun A _ v B => ∃ L, Q v B.U.heap L ∧ B.locs = A.locs ++ L ∧ B.cells = A.cells + rc ∧ B.slots = A.slots + rs)) (hlen : ∀ sig, parseMethodDescriptor y.desc = some sig → argsL.length = sig.parameters.length) (hst : st = argsL.reverse ++ st0) (has : argsL.toArray = as') (hW : (st0.map fun v => v.category).sum ≤ W) (hsize : ls.size = c.maxLocals) (hc : cells + rc ≤ R.cells) (hs : slots + rs ≤ R.slots) (hF : ∀ v h' L, Q v h' L → Frw wl hS.size L ∧ CHr Z EL vm0 h vm0 h') (hd : decode code pc = .ok (.invokestatic index, 3)) (hp : pc + 3 = pc1)
    (K : ∀ (v : Option Value) (T' : State) (h' : Heap) (L : List Loc), Q v h' L → Pos p l e R s m args below meth c code Z EL wl hS own vm0 T' (locs ++ L) (cells + rc) (slots + rs) h' → Go p.tables e below G (T'.setTop (mkF m pc1 ls (v.toList ++ st0)))) : Go p.tables e below G (T.setTop (mkF m pc ls st)) := by
  subst hp
  obtain ⟨v, vm₁, ⟨U, Lx, cx, sx⟩, -, X', ⟨L, hQ, l1, l2, l3⟩, stp⟩ := Jvm.LawKit.callS P.1 P.q.2.1 P.2.2.2.2.1 (mvT P.hz w1) (mvT P.hz w2) (mvT P.hz w3) (mvT P.hz w4) hy hK (g := mkF m pc ls st) rfl hsize (argsL := argsL) (rest := st0) hlen hst (by show 2 * 0 + _ ≤ _; omega) (hb P.q.2.2 hd) (fun _ _ => ⟨has, P.heap, hc, hs⟩)
  dsimp only [Pt.U, Pt.locs, Pt.cells, Pt.slots] at *
  subst l1 l2 l3
  exact Go.via stp (K v U _ L hQ (P.came X' (hF _ _ _ hQ).1 (hF _ _ _ hQ).2))
theorem Pos.callN (P : Pos p l e R s m args below meth c code Z EL wl hS own vm0 T locs cells slots h) {index : Nat} {y : MethodName} {bytes : ByteArray} {maxL : Nat} {x : Addr} {as' : Array Value} {rc rs W : Nat} {Q : Option Value → Heap → List Loc → Prop} {argsL st0 : List Value} (hy1 : y.name = "<init>") (w1 : (Cond.methodLink own index y).before a0 Z = true) (w2 : (Cond.instanceMethod y).before a0 Z = true) (w4 : (Cond.code y bytes maxL none).before a0 Z = true) (hy : y.cls ≠ "java/lang/invoke/MethodHandle" ∧ y.cls ≠ "java/lang/invoke/VarHandle") (hK : Back l R p e below (s.setVm vm0) args y 3 W (fun A a => a = as' ∧ A.U.heap = h ∧ A.cells + rc ≤ R.cells ∧ A.slots + rs ≤ R.slots) (fun A _ v B => ∃ L, Q v B.U.heap L ∧ B.locs = A.locs ++ L ∧ B.cells = A.cells + rc ∧ B.slots = A.slots + rs)) (hlen : ∀ sig, parseMethodDescriptor y.desc = some sig → argsL.length = sig.parameters.length) (hst : st = argsL.reverse ++ .ref x :: st0) (has : (.ref x :: argsL).toArray = as') (hW : (st0.map fun v => v.category).sum ≤ W) (hsize : ls.size = c.maxLocals) (hc : cells + rc ≤ R.cells) (hs : slots + rs ≤ R.slots) (hF : ∀ v h' L, Q v h' L → Frw wl hS.size L ∧ CHr Z EL vm0 h vm0 h') (hd : decode code pc = .ok (.invokespecial index, 3)) (hp : pc + 3 = pc1)
    (K : ∀ (v : Option Value) (T' : State) (h' : Heap) (L : List Loc), Q v h' L → Pos p l e R s m args below meth c code Z EL wl hS own vm0 T' (locs ++ L) (cells + rc) (slots + rs) h' → Go p.tables e below G (T'.setTop (mkF m pc1 ls (v.toList ++ st0)))) : Go p.tables e below G (T.setTop (mkF m pc ls st)) := by
  subst hp
  obtain ⟨v, vm₁, ⟨U, Lx, cx, sx⟩, -, X', ⟨L, hQ, l1, l2, l3⟩, stp⟩ := Stand.specialBack P.1 P.q.2.1 hy1 P.2.2.2.2.1 (mvT P.hz w1) (mvT P.hz w2) (mvT P.hz w4) hy hK (g := mkF m pc ls st) rfl hsize (Steps.refl _) (a := x) (argsL := argsL) (rest := st0) hlen hst (by show 2 * 0 + _ ≤ _; omega) (hb P.q.2.2 hd) (fun _ _ => ⟨has, P.heap, hc, hs⟩)
  dsimp only [Pt.U, Pt.locs, Pt.cells, Pt.slots] at *
  subst l1 l2 l3
  exact Go.tr stp (K v U _ L hQ (P.came X' (hF _ _ _ hQ).1 (hF _ _ _ hQ).2))
theorem Pos.callV (P : Pos p l e R s m args below meth c code Z EL wl hS own vm0 T locs cells slots h) {index : Nat} {y z : MethodName} {x : Addr} {C : String} {as' : Array Value} {rc rs W : Nat} {Q : Option Value → Heap → List Loc → Prop} {argsL st0 : List Value} (E : Exa Z h x C) (w1 : (Cond.methodLink own index y).before a0 Z = true) (w2 : (Cond.declares y).before a0 Z = true) (w3 : (Cond.selects C y z).before a0 Z = true) (w4 : (Cond.instanceMethod z).before a0 Z = true) (nf : NotFace (s.setVm vm0) y) (hy : y.cls ≠ "java/lang/invoke/MethodHandle" ∧ y.cls ≠ "java/lang/invoke/VarHandle") (hK : Back l R p e below (s.setVm vm0) args z 3 W (fun A a => a = as' ∧ A.U.heap = h ∧ A.cells + rc ≤ R.cells ∧ A.slots + rs ≤ R.slots) (fun A _ v B => ∃ L, Q v B.U.heap L ∧ B.locs = A.locs ++ L ∧ B.cells = A.cells + rc ∧ B.slots = A.slots + rs)) (hlen : ∀ sig, parseMethodDescriptor y.desc = some sig → argsL.length = sig.parameters.length) (hst : st = argsL.reverse ++ .ref x :: st0) (has : (.ref x :: argsL).toArray = as') (hW : (st0.map fun v => v.category).sum ≤ W) (hsize : ls.size = c.maxLocals) (hc : cells + rc ≤ R.cells) (hs : slots + rs ≤ R.slots) (hF : ∀ v h' L, Q v h' L → Frw wl hS.size L ∧ CHr Z EL vm0 h vm0 h') (hd : decode code pc = .ok (.invokevirtual index, 3)) (hp : pc + 3 = pc1)
    (K : ∀ (v : Option Value) (T' : State) (h' : Heap) (L : List Loc), Q v h' L → Pos p l e R s m args below meth c code Z EL wl hS own vm0 T' (locs ++ L) (cells + rc) (slots + rs) h' → Go p.tables e below G (T'.setTop (mkF m pc1 ls (v.toList ++ st0)))) : Go p.tables e below G (T.setTop (mkF m pc ls st)) := by
  subst hp
  obtain ⟨cq, kq, qa, qb, qc⟩ := isOf P.hz P.heap E
  obtain ⟨v, vm₁, ⟨U, Lx, cx, sx⟩, -, X', ⟨L, hQ, l1, l2, l3⟩, stp⟩ := Stand.virtualBack P.1 P.q.2.1 (y := y) (z := z) P.2.2.2.2.1 (mvT P.hz w1) (mvT P.hz w2) nf (mvT P.hz w3) (mvT P.hz w4) hy hK qa qc (g := mkF m pc ls st) rfl hsize (Steps.refl _) (argsL := argsL) (rest := st0) hlen hst (by show 2 * 0 + _ ≤ _; omega) (hb P.q.2.2 hd) (fun _ _ => ⟨has, P.heap, hc, hs⟩)
  dsimp only [Pt.U, Pt.locs, Pt.cells, Pt.slots] at *
  subst l1 l2 l3
  exact Go.tr stp (K v U _ L hQ (P.came X' (hF _ _ _ hQ).1 (hF _ _ _ hQ).2))
theorem Pos.callVU (P : Pos p l e R s m args below meth c code Z EL wl hS own vm0 T locs cells slots h) {index : Nat} {y z : MethodName} {x : Addr} {C owner : String} {as' : Array Value} {rc rs W : Nat} {Q : Option Value → Heap → List Loc → Prop} {argsL st0 : List Value} (E : Exa Z h x C) (w1 : (Cond.methodLink own index y).before a0 Z = true) (w2 : (Cond.sameMethod y.cls owner y.name y.desc).before a0 Z = true) (w5 : (Cond.declares ⟨owner, y.name, y.desc⟩).before a0 Z = true) (hy : owner ≠ "java/lang/invoke/MethodHandle" ∧ owner ≠ "java/lang/invoke/VarHandle") (w3 : (Cond.selects C y z).before a0 Z = true) (w4 : (Cond.instanceMethod z).before a0 Z = true) (hK : Back l R p e below (s.setVm vm0) args z 3 W (fun A a => a = as' ∧ A.U.heap = h ∧ A.cells + rc ≤ R.cells ∧ A.slots + rs ≤ R.slots) (fun A _ v B => ∃ L, Q v B.U.heap L ∧ B.locs = A.locs ++ L ∧ B.cells = A.cells + rc ∧ B.slots = A.slots + rs)) (hlen : ∀ sig, parseMethodDescriptor y.desc = some sig → argsL.length = sig.parameters.length) (hst : st = argsL.reverse ++ .ref x :: st0) (has : (.ref x :: argsL).toArray = as') (hW : (st0.map fun v => v.category).sum ≤ W) (hsize : ls.size = c.maxLocals) (hc : cells + rc ≤ R.cells) (hs : slots + rs ≤ R.slots) (hF : ∀ v h' L, Q v h' L → Frw wl hS.size L ∧ CHr Z EL vm0 h vm0 h') (hd : decode code pc = .ok (.invokevirtual index, 3)) (hp : pc + 3 = pc1)
    (K : ∀ (v : Option Value) (T' : State) (h' : Heap) (L : List Loc), Q v h' L → Pos p l e R s m args below meth c code Z EL wl hS own vm0 T' (locs ++ L) (cells + rc) (slots + rs) h' → Go p.tables e below G (T'.setTop (mkF m pc1 ls (v.toList ++ st0)))) : Go p.tables e below G (T.setTop (mkF m pc ls st)) := by
  subst hp
  obtain ⟨cq, kq, qa, qb, qc⟩ := isOf P.hz P.heap E
  obtain ⟨v, vm₁, ⟨U, Lx, cx, sx⟩, -, X', ⟨L, hQ, l1, l2, l3⟩, stp⟩ := Stand.virtualBackUp P.1 P.q.2.1 (x := y) (y := z) P.2.2.2.2.1 (mvT P.hz w1) (mvT P.hz w2) (mvT P.hz w5) hy (mvT P.hz w3) (mvT P.hz w4) hK qa qc (g := mkF m pc ls st) rfl hsize (Steps.refl _) (argsL := argsL) (rest := st0) hlen hst (by show 2 * 0 + _ ≤ _; omega) (hb P.q.2.2 hd) (fun _ _ => ⟨has, P.heap, hc, hs⟩)
  dsimp only [Pt.U, Pt.locs, Pt.cells, Pt.slots] at *
  subst l1 l2 l3
  exact Go.tr stp (K v U _ L hQ (P.came X' (hF _ _ _ hQ).1 (hF _ _ _ hQ).2))
theorem Pos.callI (P : Pos p l e R s m args below meth c code Z EL wl hS own vm0 T locs cells slots h) {index count : Nat} {xi y : MethodName} {x : Addr} {C : String} {as' : Array Value} {rc rs W : Nat} {Q : Option Value → Heap → List Loc → Prop} {argsL st0 : List Value} (E : Exa Z h x C) (w1 : (Cond.methodLink own index xi).before a0 Z = true) (w2 : (Cond.declares xi).before a0 Z = true) (w3 : (Cond.interfaceMethod xi.cls xi.cls xi.name xi.desc).before a0 Z = true) (h3 : ((Cond.interfaceMethod xi.cls xi.cls xi.name xi.desc).onTables && (Cond.interfaceMethod xi.cls xi.cls xi.name xi.desc).keepsFace) = true) (w4 : (Cond.selects C xi y).before a0 Z = true) (w5 : (Cond.instanceMethod y).before a0 Z = true) (w6 : (Cond.publicMethod y).before a0 Z = true) (w7 : (Cond.unhidden C xi.name xi.desc).before a0 Z = true) (w8 : (Cond.castable C xi.cls).before a0 Z = true) (hy : xi.cls ≠ "java/lang/invoke/MethodHandle" ∧ xi.cls ≠ "java/lang/invoke/VarHandle") (hK : Back l R p e below (s.setVm vm0) args y 5 W (fun A a => a = as' ∧ A.U.heap = h ∧ A.cells + rc ≤ R.cells ∧ A.slots + rs ≤ R.slots) (fun A _ v B => ∃ L, Q v B.U.heap L ∧ B.locs = A.locs ++ L ∧ B.cells = A.cells + rc ∧ B.slots = A.slots + rs)) (hlen : ∀ sig, parseMethodDescriptor xi.desc = some sig → argsL.length = sig.parameters.length) (hst : st = argsL.reverse ++ .ref x :: st0) (has : (.ref x :: argsL).toArray = as') (hW : (st0.map fun v => v.category).sum ≤ W) (hsize : ls.size = c.maxLocals) (hc : cells + rc ≤ R.cells) (hs : slots + rs ≤ R.slots) (hF : ∀ v h' L, Q v h' L → Frw wl hS.size L ∧ CHr Z EL vm0 h vm0 h') (hd : decode code pc = .ok (.invokeinterface index count, 5)) (hp : pc + 5 = pc1)
    (K : ∀ (v : Option Value) (T' : State) (h' : Heap) (L : List Loc), Q v h' L → Pos p l e R s m args below meth c code Z EL wl hS own vm0 T' (locs ++ L) (cells + rc) (slots + rs) h' → Go p.tables e below G (T'.setTop (mkF m pc1 ls (v.toList ++ st0)))) : Go p.tables e below G (T.setTop (mkF m pc ls st)) := by
  subst hp
  obtain ⟨cq, kq, qa, qb, qc⟩ := isOf P.hz P.heap E
  obtain ⟨v, vm₁, ⟨U, Lx, cx, sx⟩, -, X', ⟨L, hQ, l1, l2, l3⟩, stp⟩ := Stand.interfaceBack P.1 P.q.2.1 P.2.2.2.2.1 (mvT P.hz w1) (mvT P.hz w2) (mvT P.hz w3 h3) (mvT P.hz w4) (mvT P.hz w5) (mvT P.hz w6) (mvT P.hz w7) (mvT P.hz w8) hy hK qa qb qc (g := mkF m pc ls st) rfl hsize (Steps.refl _) (argsL := argsL) (rest := st0) hlen hst (by show 2 * 0 + _ ≤ _; omega) (hb P.q.2.2 hd) (fun _ _ => ⟨has, P.heap, hc, hs⟩)
  dsimp only [Pt.U, Pt.locs, Pt.cells, Pt.slots] at *
  subst l1 l2 l3
  exact Go.tr stp (K v U _ L hQ (P.came X' (hF _ _ _ hQ).1 (hF _ _ _ hQ).2))
theorem Pos.callU (P : Pos p l e R s m args below meth c code Z EL wl hS own vm0 T locs cells slots h) {index : Nat} {y : MethodName} {bytes : ByteArray} {maxL : Nat} {ret : Option FieldType} {x : Addr} {C : String} {as' : Array Value} {rc rs W : Nat} {Q : Option Value → Heap → List Loc → Prop} {argsL st0 : List Value} (E : Ins Z h x C true) (w1 : (Cond.methodLink own index y).before a0 Z = true) (w2 : (Cond.sameMethod y.cls y.cls y.name y.desc).before a0 Z = true) (w3 : (Cond.instanceMethod y).before a0 Z = true) (w4 : (Cond.superclass own y.cls).before a0 Z = true) (hn : y.name ≠ "<init>") (wc : (Cond.code y bytes maxL ret).before a0 Z = true) (hK : Back l R p e below (s.setVm vm0) args y 3 W (fun A a => a = as' ∧ A.U.heap = h ∧ A.cells + rc ≤ R.cells ∧ A.slots + rs ≤ R.slots) (fun A _ v B => ∃ L, Q v B.U.heap L ∧ B.locs = A.locs ++ L ∧ B.cells = A.cells + rc ∧ B.slots = A.slots + rs)) (hlen : ∀ sig, parseMethodDescriptor y.desc = some sig → argsL.length = sig.parameters.length) (hst : st = argsL.reverse ++ .ref x :: st0) (has : (.ref x :: argsL).toArray = as') (hW : (st0.map fun v => v.category).sum ≤ W) (hsize : ls.size = c.maxLocals) (hc : cells + rc ≤ R.cells) (hs : slots + rs ≤ R.slots) (hF : ∀ v h' L, Q v h' L → Frw wl hS.size L ∧ CHr Z EL vm0 h vm0 h') (hd : decode code pc = .ok (.invokespecial index, 3)) (hp : pc + 3 = pc1)
    (K : ∀ (v : Option Value) (T' : State) (h' : Heap) (L : List Loc), Q v h' L → Pos p l e R s m args below meth c code Z EL wl hS own vm0 T' (locs ++ L) (cells + rc) (slots + rs) h' → Go p.tables e below G (T'.setTop (mkF m pc1 ls (v.toList ++ st0)))) : Go p.tables e below G (T.setTop (mkF m pc ls st)) := by
  subst hp
  obtain ⟨v, vm₁, ⟨U, Lx, cx, sx⟩, -, X', ⟨L, hQ, l1, l2, l3⟩, stp⟩ := RoadKit.superBack P.1 P.q.2.1 P.hz P.2.2.2.2.1 w1 w2 w3 w4 hn hK P.heap E (g := mkF m pc ls st) rfl hsize wc (argsL := argsL) (rest := st0) hlen hst (by show 2 * 0 + _ ≤ _; omega) (hb P.q.2.2 hd) (fun _ _ => ⟨has, P.heap, hc, hs⟩)
  dsimp only [Pt.U, Pt.locs, Pt.cells, Pt.slots] at *
  subst l1 l2 l3
  exact Go.tr stp (K v U _ L hQ (P.came X' (hF _ _ _ hQ).1 (hF _ _ _ hQ).2))
theorem Pos.callSW (P : Pos p l e R s m args below meth c code Z EL wl hS own vm0 T locs cells slots h) {index : Nat} {y : MethodName} {bytes : ByteArray} {maxL : Nat} {ret : Option FieldType} {as' : Array Value} {rc rs W : Nat} {Q : Option Value → Heap → List Loc → Prop} {argsL st0 : List Value} (w1 : (Cond.methodLink own index y).before a0 Z = true) (w2 : (Cond.static y).before a0 Z = true) (w3 : (Cond.initialized y.cls).before a0 Z = true) (w4 : (Cond.code y bytes maxL ret).before a0 Z = true) (hy : y.cls ≠ "java/lang/invoke/MethodHandle" ∧ y.cls ≠ "java/lang/invoke/VarHandle") (hK : BackS l R p e below (s.setVm vm0) args y 3 W (fun A a => a = as' ∧ A.U.heap = h ∧ A.cells + rc ≤ R.cells ∧ A.slots + rs ≤ R.slots) (fun A _ v B => ∃ L, Q v B.U.heap L ∧ B.locs = A.locs ++ L ∧ B.cells = A.cells + rc ∧ B.slots = A.slots + rs ∧ CHr Z EL vm0 h B.U.vm B.U.heap)) (hlen : ∀ sig, parseMethodDescriptor y.desc = some sig → argsL.length = sig.parameters.length) (hst : st = argsL.reverse ++ st0) (has : argsL.toArray = as') (hW : (st0.map fun v => v.category).sum ≤ W) (hsize : ls.size = c.maxLocals) (hc : cells + rc ≤ R.cells) (hs : slots + rs ≤ R.slots) (hF : ∀ v h' L, Q v h' L → Frw wl hS.size L) (hd : decode code pc = .ok (.invokestatic index, 3)) (hp : pc + 3 = pc1)
    (K : ∀ (v : Option Value) (T' : State) (h' : Heap) (L : List Loc), Q v h' L → Pos p l e R s m args below meth c code Z EL wl hS own T'.vm T' (locs ++ L) (cells + rc) (slots + rs) h' → CHr Z EL vm0 h T'.vm h' → Go p.tables e below G (T'.setTop (mkF m pc1 ls (v.toList ++ st0)))) : Go p.tables e below G (T.setTop (mkF m pc ls st)) := by
  subst hp
  obtain ⟨v, vm₁, ⟨U, Lx, cx, sx⟩, -, X', hS', hgr, ⟨L, hQ, l1, l2, l3, hC⟩, stp⟩ := RoadKit.callSS P.1 P.q.2.1 P.2.2.2.2.1 (mvT P.hz w1) (mvT P.hz w2) (mvT P.hz w3) (mvT P.hz w4) hy hK (g := mkF m pc ls st) rfl hsize (argsL := argsL) (rest := st0) hlen hst (by show 2 * 0 + _ ≤ _; omega) (hb P.q.2.2 hd) (fun _ _ => ⟨has, P.heap, hc, hs⟩)
  dsimp only [Pt.U, Pt.locs, Pt.cells, Pt.slots] at *
  subst l1 l2 l3
  rw [P.heap] at hgr
  exact Go.tr stp (K v U _ L hQ (P.cameW X' hS' hgr (hF _ _ _ hQ) hC) hC)
theorem Pos.callNW (P : Pos p l e R s m args below meth c code Z EL wl hS own vm0 T locs cells slots h) {index : Nat} {y : MethodName} {bytes : ByteArray} {maxL : Nat} {x : Addr} {as' : Array Value} {rc rs W : Nat} {Q : Option Value → Heap → List Loc → Prop} {argsL st0 : List Value} (hy1 : y.name = "<init>") (w1 : (Cond.methodLink own index y).before a0 Z = true) (w2 : (Cond.instanceMethod y).before a0 Z = true) (w4 : (Cond.code y bytes maxL none).before a0 Z = true) (hy : y.cls ≠ "java/lang/invoke/MethodHandle" ∧ y.cls ≠ "java/lang/invoke/VarHandle") (hK : BackS l R p e below (s.setVm vm0) args y 3 W (fun A a => a = as' ∧ A.U.heap = h ∧ A.cells + rc ≤ R.cells ∧ A.slots + rs ≤ R.slots) (fun A _ v B => ∃ L, Q v B.U.heap L ∧ B.locs = A.locs ++ L ∧ B.cells = A.cells + rc ∧ B.slots = A.slots + rs ∧ CHr Z EL vm0 h B.U.vm B.U.heap)) (hlen : ∀ sig, parseMethodDescriptor y.desc = some sig → argsL.length = sig.parameters.length) (hst : st = argsL.reverse ++ .ref x :: st0) (has : (.ref x :: argsL).toArray = as') (hW : (st0.map fun v => v.category).sum ≤ W) (hsize : ls.size = c.maxLocals) (hc : cells + rc ≤ R.cells) (hs : slots + rs ≤ R.slots) (hF : ∀ v h' L, Q v h' L → Frw wl hS.size L) (hd : decode code pc = .ok (.invokespecial index, 3)) (hp : pc + 3 = pc1)
    (K : ∀ (v : Option Value) (T' : State) (h' : Heap) (L : List Loc), Q v h' L → Pos p l e R s m args below meth c code Z EL wl hS own T'.vm T' (locs ++ L) (cells + rc) (slots + rs) h' → CHr Z EL vm0 h T'.vm h' → Go p.tables e below G (T'.setTop (mkF m pc1 ls (v.toList ++ st0)))) : Go p.tables e below G (T.setTop (mkF m pc ls st)) := by
  subst hp
  obtain ⟨v, vm₁, ⟨U, Lx, cx, sx⟩, -, X', hS', hgr, ⟨L, hQ, l1, l2, l3, hC⟩, stp⟩ := Stand.specialBackS P.1 P.q.2.1 hy1 P.2.2.2.2.1 (mvT P.hz w1) (mvT P.hz w2) (mvT P.hz w4) hy hK (g := mkF m pc ls st) rfl hsize (Steps.refl _) (a := x) (argsL := argsL) (rest := st0) hlen hst (by show 2 * 0 + _ ≤ _; omega) (hb P.q.2.2 hd) (fun _ _ => ⟨has, P.heap, hc, hs⟩)
  dsimp only [Pt.U, Pt.locs, Pt.cells, Pt.slots] at *
  subst l1 l2 l3
  rw [P.heap] at hgr
  exact Go.tr stp (K v U _ L hQ (P.cameW X' hS' hgr (hF _ _ _ hQ) hC) hC)
theorem Pos.callVW (P : Pos p l e R s m args below meth c code Z EL wl hS own vm0 T locs cells slots h) {index : Nat} {y z : MethodName} {x : Addr} {C : String} {as' : Array Value} {rc rs W : Nat} {Q : Option Value → Heap → List Loc → Prop} {argsL st0 : List Value} (E : Exa Z h x C) (w1 : (Cond.methodLink own index y).before a0 Z = true) (w2 : (Cond.declares y).before a0 Z = true) (w3 : (Cond.selects C y z).before a0 Z = true) (w4 : (Cond.instanceMethod z).before a0 Z = true) (nf : NotFace (s.setVm vm0) y) (hy : y.cls ≠ "java/lang/invoke/MethodHandle" ∧ y.cls ≠ "java/lang/invoke/VarHandle") (hK : BackS l R p e below (s.setVm vm0) args z 3 W (fun A a => a = as' ∧ A.U.heap = h ∧ A.cells + rc ≤ R.cells ∧ A.slots + rs ≤ R.slots) (fun A _ v B => ∃ L, Q v B.U.heap L ∧ B.locs = A.locs ++ L ∧ B.cells = A.cells + rc ∧ B.slots = A.slots + rs ∧ CHr Z EL vm0 h B.U.vm B.U.heap)) (hlen : ∀ sig, parseMethodDescriptor y.desc = some sig → argsL.length = sig.parameters.length) (hst : st = argsL.reverse ++ .ref x :: st0) (has : (.ref x :: argsL).toArray = as') (hW : (st0.map fun v => v.category).sum ≤ W) (hsize : ls.size = c.maxLocals) (hc : cells + rc ≤ R.cells) (hs : slots + rs ≤ R.slots) (hF : ∀ v h' L, Q v h' L → Frw wl hS.size L) (hd : decode code pc = .ok (.invokevirtual index, 3)) (hp : pc + 3 = pc1)
    (K : ∀ (v : Option Value) (T' : State) (h' : Heap) (L : List Loc), Q v h' L → Pos p l e R s m args below meth c code Z EL wl hS own T'.vm T' (locs ++ L) (cells + rc) (slots + rs) h' → CHr Z EL vm0 h T'.vm h' → Go p.tables e below G (T'.setTop (mkF m pc1 ls (v.toList ++ st0)))) : Go p.tables e below G (T.setTop (mkF m pc ls st)) := by
  subst hp
  obtain ⟨cq, kq, qa, qb, qc⟩ := isOf P.hz P.heap E
  obtain ⟨v, vm₁, ⟨U, Lx, cx, sx⟩, -, X', hS', hgr, ⟨L, hQ, l1, l2, l3, hC⟩, stp⟩ := Stand.virtualBackS P.1 P.q.2.1 (y := y) (z := z) P.2.2.2.2.1 (mvT P.hz w1) (mvT P.hz w2) nf (mvT P.hz w3) (mvT P.hz w4) hy hK qa qc (g := mkF m pc ls st) rfl hsize (Steps.refl _) (argsL := argsL) (rest := st0) hlen hst (by show 2 * 0 + _ ≤ _; omega) (hb P.q.2.2 hd) (fun _ _ => ⟨has, P.heap, hc, hs⟩)
  dsimp only [Pt.U, Pt.locs, Pt.cells, Pt.slots] at *
  subst l1 l2 l3
  rw [P.heap] at hgr
  exact Go.tr stp (K v U _ L hQ (P.cameW X' hS' hgr (hF _ _ _ hQ) hC) hC)
theorem Pos.callVUW (P : Pos p l e R s m args below meth c code Z EL wl hS own vm0 T locs cells slots h) {index : Nat} {y z : MethodName} {x : Addr} {C owner : String} {as' : Array Value} {rc rs W : Nat} {Q : Option Value → Heap → List Loc → Prop} {argsL st0 : List Value} (E : Exa Z h x C) (w1 : (Cond.methodLink own index y).before a0 Z = true) (w2 : (Cond.sameMethod y.cls owner y.name y.desc).before a0 Z = true) (w5 : (Cond.declares ⟨owner, y.name, y.desc⟩).before a0 Z = true) (hy : owner ≠ "java/lang/invoke/MethodHandle" ∧ owner ≠ "java/lang/invoke/VarHandle") (w3 : (Cond.selects C y z).before a0 Z = true) (w4 : (Cond.instanceMethod z).before a0 Z = true) (hK : BackS l R p e below (s.setVm vm0) args z 3 W (fun A a => a = as' ∧ A.U.heap = h ∧ A.cells + rc ≤ R.cells ∧ A.slots + rs ≤ R.slots) (fun A _ v B => ∃ L, Q v B.U.heap L ∧ B.locs = A.locs ++ L ∧ B.cells = A.cells + rc ∧ B.slots = A.slots + rs ∧ CHr Z EL vm0 h B.U.vm B.U.heap)) (hlen : ∀ sig, parseMethodDescriptor y.desc = some sig → argsL.length = sig.parameters.length) (hst : st = argsL.reverse ++ .ref x :: st0) (has : (.ref x :: argsL).toArray = as') (hW : (st0.map fun v => v.category).sum ≤ W) (hsize : ls.size = c.maxLocals) (hc : cells + rc ≤ R.cells) (hs : slots + rs ≤ R.slots) (hF : ∀ v h' L, Q v h' L → Frw wl hS.size L) (hd : decode code pc = .ok (.invokevirtual index, 3)) (hp : pc + 3 = pc1)
    (K : ∀ (v : Option Value) (T' : State) (h' : Heap) (L : List Loc), Q v h' L → Pos p l e R s m args below meth c code Z EL wl hS own T'.vm T' (locs ++ L) (cells + rc) (slots + rs) h' → CHr Z EL vm0 h T'.vm h' → Go p.tables e below G (T'.setTop (mkF m pc1 ls (v.toList ++ st0)))) : Go p.tables e below G (T.setTop (mkF m pc ls st)) := by
  subst hp
  obtain ⟨cq, kq, qa, qb, qc⟩ := isOf P.hz P.heap E
  obtain ⟨v, vm₁, ⟨U, Lx, cx, sx⟩, -, X', hS', hgr, ⟨L, hQ, l1, l2, l3, hC⟩, stp⟩ := Stand.virtualBackUpS P.1 P.q.2.1 (x := y) (y := z) P.2.2.2.2.1 (mvT P.hz w1) (mvT P.hz w2) (mvT P.hz w5) hy (mvT P.hz w3) (mvT P.hz w4) hK qa qc (g := mkF m pc ls st) rfl hsize (Steps.refl _) (argsL := argsL) (rest := st0) hlen hst (by show 2 * 0 + _ ≤ _; omega) (hb P.q.2.2 hd) (fun _ _ => ⟨has, P.heap, hc, hs⟩)
  dsimp only [Pt.U, Pt.locs, Pt.cells, Pt.slots] at *
  subst l1 l2 l3
  rw [P.heap] at hgr
  exact Go.tr stp (K v U _ L hQ (P.cameW X' hS' hgr (hF _ _ _ hQ) hC) hC)
theorem Pos.callIW (P : Pos p l e R s m args below meth c code Z EL wl hS own vm0 T locs cells slots h) {index count : Nat} {xi y : MethodName} {x : Addr} {C : String} {as' : Array Value} {rc rs W : Nat} {Q : Option Value → Heap → List Loc → Prop} {argsL st0 : List Value} (E : Exa Z h x C) (w1 : (Cond.methodLink own index xi).before a0 Z = true) (w2 : (Cond.declares xi).before a0 Z = true) (w3 : (Cond.interfaceMethod xi.cls xi.cls xi.name xi.desc).before a0 Z = true) (h3 : ((Cond.interfaceMethod xi.cls xi.cls xi.name xi.desc).onTables && (Cond.interfaceMethod xi.cls xi.cls xi.name xi.desc).keepsFace) = true) (w4 : (Cond.selects C xi y).before a0 Z = true) (w5 : (Cond.instanceMethod y).before a0 Z = true) (w6 : (Cond.publicMethod y).before a0 Z = true) (w7 : (Cond.unhidden C xi.name xi.desc).before a0 Z = true) (w8 : (Cond.castable C xi.cls).before a0 Z = true) (hy : xi.cls ≠ "java/lang/invoke/MethodHandle" ∧ xi.cls ≠ "java/lang/invoke/VarHandle") (hK : BackS l R p e below (s.setVm vm0) args y 5 W (fun A a => a = as' ∧ A.U.heap = h ∧ A.cells + rc ≤ R.cells ∧ A.slots + rs ≤ R.slots) (fun A _ v B => ∃ L, Q v B.U.heap L ∧ B.locs = A.locs ++ L ∧ B.cells = A.cells + rc ∧ B.slots = A.slots + rs ∧ CHr Z EL vm0 h B.U.vm B.U.heap)) (hlen : ∀ sig, parseMethodDescriptor xi.desc = some sig → argsL.length = sig.parameters.length) (hst : st = argsL.reverse ++ .ref x :: st0) (has : (.ref x :: argsL).toArray = as') (hW : (st0.map fun v => v.category).sum ≤ W) (hsize : ls.size = c.maxLocals) (hc : cells + rc ≤ R.cells) (hs : slots + rs ≤ R.slots) (hF : ∀ v h' L, Q v h' L → Frw wl hS.size L) (hd : decode code pc = .ok (.invokeinterface index count, 5)) (hp : pc + 5 = pc1)
    (K : ∀ (v : Option Value) (T' : State) (h' : Heap) (L : List Loc), Q v h' L → Pos p l e R s m args below meth c code Z EL wl hS own T'.vm T' (locs ++ L) (cells + rc) (slots + rs) h' → CHr Z EL vm0 h T'.vm h' → Go p.tables e below G (T'.setTop (mkF m pc1 ls (v.toList ++ st0)))) : Go p.tables e below G (T.setTop (mkF m pc ls st)) := by
  subst hp
  obtain ⟨cq, kq, qa, qb, qc⟩ := isOf P.hz P.heap E
  obtain ⟨v, vm₁, ⟨U, Lx, cx, sx⟩, -, X', hS', hgr, ⟨L, hQ, l1, l2, l3, hC⟩, stp⟩ := Stand.interfaceBackS P.1 P.q.2.1 P.2.2.2.2.1 (mvT P.hz w1) (mvT P.hz w2) (mvT P.hz w3 h3) (mvT P.hz w4) (mvT P.hz w5) (mvT P.hz w6) (mvT P.hz w7) (mvT P.hz w8) hy hK qa qb qc (g := mkF m pc ls st) rfl hsize (Steps.refl _) (argsL := argsL) (rest := st0) hlen hst (by show 2 * 0 + _ ≤ _; omega) (hb P.q.2.2 hd) (fun _ _ => ⟨has, P.heap, hc, hs⟩)
  dsimp only [Pt.U, Pt.locs, Pt.cells, Pt.slots] at *
  subst l1 l2 l3
  rw [P.heap] at hgr
  exact Go.tr stp (K v U _ L hQ (P.cameW X' hS' hgr (hF _ _ _ hQ) hC) hC)
/-- what a body leaves, narrow: nothing interned -/
def GN (s : State) (Q : Option Value → Heap → List Loc → Prop) (rm : Room) (o : Outcome) (U : State) : Prop := ∃ v L, o = .returned v ∧ Q v U.heap L ∧ FrameEnd s o U L rm.cells rm.slots
/-- wide -/
def GW (s : State) (Z : State) (EL : List (String × Nat)) (h0 : Heap) (Q : Option Value → Heap → List Loc → Prop) (rm : Room) (o : Outcome) (U : State) : Prop := ∃ v L, o = .returned v ∧ Q v U.heap L ∧ CHr Z EL s.vm h0 U.vm U.heap ∧ ReturnedEndW s o U L rm.cells rm.slots
theorem Pos.endN {Q : Option Value → Heap → List Loc → Prop} {v : Option Value} (P : Pos p l e R s m args below meth c code Z EL wl hS own s.vm T locs cells slots h) (hlk : meth.locks = false) (hv : meth.sig.returnType = none → v = none) (hc : cells ≤ R.cells) (hs : slots ≤ R.slots) (hQ : Q v h locs) {g : JFrame}
    (stp : ∀ fs, (∀ (f : JFrame) (acts : List Action), f.method = m → f.locked = none → f.entered = [] → (doReturn e (T.setTop f) acts v).1 = T.setFrames fs) → Steps p.tables e below (T.setTop g) (T.setFrames fs)) : Go p.tables e below (GN s Q R) (T.setTop g) := by
  obtain ⟨fs, hr, hrun, hended, hW, hsame⟩ := P.1.leave (v := v) hv hlk
  refine ⟨_, _, stp fs hr, hrun, hended, v, locs, rfl, ?_, ⟨_, rfl⟩, hW, hsame.mono hc hs⟩
  have : (T.setFrames fs).heap = h := P.heap
  rw [this]; exact hQ
theorem Pos.endW {Q : Option Value → Heap → List Loc → Prop} {v : Option Value} (P : Pos p l e R s m args below meth c code Z EL wl hS own vm0 T locs cells slots h) (hEL : EW Z a0 EL) (hlk : meth.locks = false) (hv : meth.sig.returnType = none → v = none) (hc : cells ≤ R.cells) (hs : slots ≤ R.slots) (hQ : Q v h locs) {g : JFrame}
    (stp : ∀ fs, (∀ (f : JFrame) (acts : List Action), f.method = m → f.locked = none → f.entered = [] → (doReturn e (T.setTop f) acts v).1 = T.setFrames fs) → Steps p.tables e below (T.setTop g) (T.setFrames fs)) : Go p.tables e below (GW s Z EL hS Q R) (T.setTop g) := by
  obtain ⟨X, eT, ⟨k0, q1, q2⟩, hZ, hown, N, n1, C, hx, hby⟩ := P
  have X2 := X.mono hc hs
  obtain ⟨fs, hr, hrun, hended, hEnd⟩ := X2.leaveW q1 (by rw [eT]; exact q2) (v := v) hv hlk
  have hh : (T.setFrames fs).heap = h := eT
  refine ⟨_, _, stp fs hr, hrun, hended, v, locs, rfl, by rw [hh]; exact hQ, ?_, hEnd⟩
  rw [hh]; show CHr Z EL s.vm hS T.vm h; exact C.trans (CHv.at X hZ hEL C.1)
theorem Pos.retN {Q : Option Value → Heap → List Loc → Prop} (P : Pos p l e R s m args below meth c code Z EL wl hS own s.vm T locs cells slots h) (hlk : meth.locks = false) (hret : meth.sig.returnType = none) (hd : decode code pc = .ok (.return_, 1)) (hc : cells ≤ R.cells) (hs : slots ≤ R.slots) (hQ : Q none h locs) : Go p.tables e below (GN s Q R) (T.setTop (mkF m pc ls [])) :=
  P.endN hlk (fun _ => rfl) hc hs hQ fun fs hr => P.1.returnOut P.q.2.1 hret (hb P.q.2.2 hd) hr
theorem Pos.retIN {Q : Option Value → Heap → List Loc → Prop} (P : Pos p l e R s m args below meth c code Z EL wl hS own s.vm T locs cells slots h) (hlk : meth.locks = false) (hret : meth.sig.returnType = some .int) {z : Int32} (hd : decode code pc = .ok (.ireturn, 1)) (hc : cells ≤ R.cells) (hs : slots ≤ R.slots) (hQ : Q (some (.int z)) h locs) : Go p.tables e below (GN s Q R) (T.setTop (mkF m pc ls (.int z :: st))) :=
  P.endN hlk (fun q => by rw [hret] at q; cases q) hc hs hQ fun fs hr => retOut P.1 P.q.2.1 hret rfl (Or.inl ⟨rfl, Or.inl rfl, z, rfl⟩) (hb P.q.2.2 hd) hr
theorem Pos.retVN {Q : Option Value → Heap → List Loc → Prop} (P : Pos p l e R s m args below meth c code Z EL wl hS own s.vm T locs cells slots h) (hlk : meth.locks = false) {t : FieldType} (hret : meth.sig.returnType = some t) (ht : t = .boolean ∨ t = .byte ∨ t = .char ∨ t = .short) {z : Int32} (hd : decode code pc = .ok (.ireturn, 1)) (hc : cells ≤ R.cells) (hs : slots ≤ R.slots) (hQ : Q (some (.int (nar t z))) h locs) : Go p.tables e below (GN s Q R) (T.setTop (mkF m pc ls (.int z :: st))) :=
  P.endN hlk (fun q => by rw [hret] at q; cases q) hc hs hQ fun fs hr => RoadKit.retN P.1 P.q.2.1 hret ht (hb P.q.2.2 hd) hr
theorem Pos.retAN {Q : Option Value → Heap → List Loc → Prop} (P : Pos p l e R s m args below meth c code Z EL wl hS own s.vm T locs cells slots h) (hlk : meth.locks = false) {t : FieldType} (hret : meth.sig.returnType = some t) (ht : t.isReference = true) {v : Value} (hv : v.isRef = true) (hn : narrow t v = v) (hd : decode code pc = .ok (.areturn, 1)) (hc : cells ≤ R.cells) (hs : slots ≤ R.slots) (hQ : Q (some v) h locs) : Go p.tables e below (GN s Q R) (T.setTop (mkF m pc ls (v :: st))) :=
  P.endN hlk (fun q => by rw [hret] at q; cases q) hc hs hQ fun fs hr => retOut P.1 P.q.2.1 hret hn (Or.inr (Or.inr (Or.inr (Or.inr ⟨rfl, ht, hv⟩)))) (hb P.q.2.2 hd) hr
theorem Pos.retDN {Q : Option Value → Heap → List Loc → Prop} (P : Pos p l e R s m args below meth c code Z EL wl hS own s.vm T locs cells slots h) (hlk : meth.locks = false) (hret : meth.sig.returnType = some .double) {z : UInt64} (hd : decode code pc = .ok (.dreturn, 1)) (hc : cells ≤ R.cells) (hs : slots ≤ R.slots) (hQ : Q (some (.double z)) h locs) : Go p.tables e below (GN s Q R) (T.setTop (mkF m pc ls (.double z :: st))) :=
  P.endN hlk (fun q => by rw [hret] at q; cases q) hc hs hQ fun fs hr => retOut P.1 P.q.2.1 hret rfl (Or.inr (Or.inr (Or.inl ⟨rfl, rfl, z, rfl⟩))) (hb P.q.2.2 hd) hr
theorem Pos.retLN {Q : Option Value → Heap → List Loc → Prop} (P : Pos p l e R s m args below meth c code Z EL wl hS own s.vm T locs cells slots h) (hlk : meth.locks = false) (hret : meth.sig.returnType = some .long) {z : Int64} (hd : decode code pc = .ok (.lreturn, 1)) (hc : cells ≤ R.cells) (hs : slots ≤ R.slots) (hQ : Q (some (.long z)) h locs) : Go p.tables e below (GN s Q R) (T.setTop (mkF m pc ls (.long z :: st))) :=
  P.endN hlk (fun q => by rw [hret] at q; cases q) hc hs hQ fun fs hr => retOut P.1 P.q.2.1 hret rfl (Or.inr (Or.inl ⟨rfl, rfl, z, rfl⟩)) (hb P.q.2.2 hd) hr
theorem Pos.retFN {Q : Option Value → Heap → List Loc → Prop} (P : Pos p l e R s m args below meth c code Z EL wl hS own s.vm T locs cells slots h) (hlk : meth.locks = false) (hret : meth.sig.returnType = some .float) {z : UInt32} (hd : decode code pc = .ok (.freturn, 1)) (hc : cells ≤ R.cells) (hs : slots ≤ R.slots) (hQ : Q (some (.float z)) h locs) : Go p.tables e below (GN s Q R) (T.setTop (mkF m pc ls (.float z :: st))) :=
  P.endN hlk (fun q => by rw [hret] at q; cases q) hc hs hQ fun fs hr => retOut P.1 P.q.2.1 hret rfl (Or.inr (Or.inr (Or.inr (Or.inl ⟨rfl, rfl, z, rfl⟩)))) (hb P.q.2.2 hd) hr
theorem Pos.retW {Q : Option Value → Heap → List Loc → Prop} (P : Pos p l e R s m args below meth c code Z EL wl hS own vm0 T locs cells slots h) (hEL : EW Z a0 EL) (hlk : meth.locks = false) (hret : meth.sig.returnType = none) (hd : decode code pc = .ok (.return_, 1)) (hc : cells ≤ R.cells) (hs : slots ≤ R.slots) (hQ : Q none h locs) : Go p.tables e below (GW s Z EL hS Q R) (T.setTop (mkF m pc ls [])) :=
  P.endW hEL hlk (fun _ => rfl) hc hs hQ fun fs hr => P.1.returnOut P.q.2.1 hret (hb P.q.2.2 hd) hr
theorem Pos.retIW {Q : Option Value → Heap → List Loc → Prop} (P : Pos p l e R s m args below meth c code Z EL wl hS own vm0 T locs cells slots h) (hEL : EW Z a0 EL) (hlk : meth.locks = false) (hret : meth.sig.returnType = some .int) {z : Int32} (hd : decode code pc = .ok (.ireturn, 1)) (hc : cells ≤ R.cells) (hs : slots ≤ R.slots) (hQ : Q (some (.int z)) h locs) : Go p.tables e below (GW s Z EL hS Q R) (T.setTop (mkF m pc ls (.int z :: st))) :=
  P.endW hEL hlk (fun q => by rw [hret] at q; cases q) hc hs hQ fun fs hr => retOut P.1 P.q.2.1 hret rfl (Or.inl ⟨rfl, Or.inl rfl, z, rfl⟩) (hb P.q.2.2 hd) hr
theorem Pos.retVW {Q : Option Value → Heap → List Loc → Prop} (P : Pos p l e R s m args below meth c code Z EL wl hS own vm0 T locs cells slots h) (hEL : EW Z a0 EL) (hlk : meth.locks = false) {t : FieldType} (hret : meth.sig.returnType = some t) (ht : t = .boolean ∨ t = .byte ∨ t = .char ∨ t = .short) {z : Int32} (hd : decode code pc = .ok (.ireturn, 1)) (hc : cells ≤ R.cells) (hs : slots ≤ R.slots) (hQ : Q (some (.int (nar t z))) h locs) : Go p.tables e below (GW s Z EL hS Q R) (T.setTop (mkF m pc ls (.int z :: st))) :=
  P.endW hEL hlk (fun q => by rw [hret] at q; cases q) hc hs hQ fun fs hr => RoadKit.retN P.1 P.q.2.1 hret ht (hb P.q.2.2 hd) hr
theorem Pos.retAW {Q : Option Value → Heap → List Loc → Prop} (P : Pos p l e R s m args below meth c code Z EL wl hS own vm0 T locs cells slots h) (hEL : EW Z a0 EL) (hlk : meth.locks = false) {t : FieldType} (hret : meth.sig.returnType = some t) (ht : t.isReference = true) {v : Value} (hv : v.isRef = true) (hn : narrow t v = v) (hd : decode code pc = .ok (.areturn, 1)) (hc : cells ≤ R.cells) (hs : slots ≤ R.slots) (hQ : Q (some v) h locs) : Go p.tables e below (GW s Z EL hS Q R) (T.setTop (mkF m pc ls (v :: st))) :=
  P.endW hEL hlk (fun q => by rw [hret] at q; cases q) hc hs hQ fun fs hr => retOut P.1 P.q.2.1 hret hn (Or.inr (Or.inr (Or.inr (Or.inr ⟨rfl, ht, hv⟩)))) (hb P.q.2.2 hd) hr
theorem Pos.retDW {Q : Option Value → Heap → List Loc → Prop} (P : Pos p l e R s m args below meth c code Z EL wl hS own vm0 T locs cells slots h) (hEL : EW Z a0 EL) (hlk : meth.locks = false) (hret : meth.sig.returnType = some .double) {z : UInt64} (hd : decode code pc = .ok (.dreturn, 1)) (hc : cells ≤ R.cells) (hs : slots ≤ R.slots) (hQ : Q (some (.double z)) h locs) : Go p.tables e below (GW s Z EL hS Q R) (T.setTop (mkF m pc ls (.double z :: st))) :=
  P.endW hEL hlk (fun q => by rw [hret] at q; cases q) hc hs hQ fun fs hr => retOut P.1 P.q.2.1 hret rfl (Or.inr (Or.inr (Or.inl ⟨rfl, rfl, z, rfl⟩))) (hb P.q.2.2 hd) hr
theorem Pos.retLW {Q : Option Value → Heap → List Loc → Prop} (P : Pos p l e R s m args below meth c code Z EL wl hS own vm0 T locs cells slots h) (hEL : EW Z a0 EL) (hlk : meth.locks = false) (hret : meth.sig.returnType = some .long) {z : Int64} (hd : decode code pc = .ok (.lreturn, 1)) (hc : cells ≤ R.cells) (hs : slots ≤ R.slots) (hQ : Q (some (.long z)) h locs) : Go p.tables e below (GW s Z EL hS Q R) (T.setTop (mkF m pc ls (.long z :: st))) :=
  P.endW hEL hlk (fun q => by rw [hret] at q; cases q) hc hs hQ fun fs hr => retOut P.1 P.q.2.1 hret rfl (Or.inr (Or.inl ⟨rfl, rfl, z, rfl⟩)) (hb P.q.2.2 hd) hr
theorem Pos.retFW {Q : Option Value → Heap → List Loc → Prop} (P : Pos p l e R s m args below meth c code Z EL wl hS own vm0 T locs cells slots h) (hEL : EW Z a0 EL) (hlk : meth.locks = false) (hret : meth.sig.returnType = some .float) {z : UInt32} (hd : decode code pc = .ok (.freturn, 1)) (hc : cells ≤ R.cells) (hs : slots ≤ R.slots) (hQ : Q (some (.float z)) h locs) : Go p.tables e below (GW s Z EL hS Q R) (T.setTop (mkF m pc ls (.float z :: st))) :=
  P.endW hEL hlk (fun q => by rw [hret] at q; cases q) hc hs hQ fun fs hr => retOut P.1 P.q.2.1 hret rfl (Or.inr (Or.inr (Or.inr (Or.inl ⟨rfl, rfl, z, rfl⟩)))) (hb P.q.2.2 hd) hr
end Heapy
section Met
/-- what a stack trace asks of the tables and of the frames beneath -/
abbrev KK : Program → Env → List Frame → State → Array Value → Prop := fun _ _ bl s _ => s.vm.MethodsKnown ∧ s.vm.FramesKnown bl
variable {l : Launch} {Z : State} {EL : List (String × Nat)} {y : MethodName} {bytes : ByteArray} {maxL : Nat} {ret : Option FieldType} {ws : List Jvm.Cond} {rm : Room} {as' : Array Value} {h0 : Heap} {Q : Option Value → Heap → List Loc → Prop} {a0 : Array Value}
/-- a body's contract, narrow (nothing interned) -/
def MetN (l : Launch) (Z : State) (y : MethodName) (bytes : ByteArray) (maxL : Nat) (ret : Option FieldType) (ws : List Jvm.Cond) (rm : Room) (as' : Array Value) (h0 : Heap) (Q : Option Value → Heap → List Loc → Prop) : Prop :=
  MetFree l y (head1 (Jvm.Cond.code y bytes maxL ret :: ws) rm) (fun a U => a = as' ∧ Z.Warmed39 U.vm ∧ U.heap = h0) (fun _ _ _ _ _ => True) (fun _ U o U' => GN U Q rm o U')
/-- .. wide; the places of ss are no booked String's -/
def MetW (l : Launch) (Z : State) (EL : List (String × Nat)) (y : MethodName) (bytes : ByteArray) (maxL : Nat) (ret : Option FieldType) (ws : List Jvm.Cond) (rm : Room) (as' : Array Value) (ss : List Addr) (h0 : Heap) (Q : Option Value → Heap → List Loc → Prop) : Prop :=
  MetFree l y (head1 (Jvm.Cond.code y bytes maxL ret :: ws) rm) (fun a U => a = as' ∧ Z.Warmed39 U.vm ∧ U.heap = h0 ∧ CHv Z EL U.vm h0 ∧ ∀ x ∈ ss, Safe Z EL U.vm h0 x) (fun _ _ _ _ _ => True) (fun _ U o U' => GW U Z EL h0 Q rm o U')
theorem MetN.mk {ls0 : Array Slot} (wl : List Addr) (hp : plainFor y = true) (hent : ∀ m, entryFrame m as' maxL = mkF m 0 ls0 [])
    (body : ∀ p e s m below meth c s₁, c.maxLocals = maxL → meth.sig.returnType = ret → meth.name = y.name → meth.locks = false → Pos p l e rm s m as' below meth c bytes Z [] wl h0 y.cls s.vm s₁ [] 0 0 h0 → Go p.tables e below (GN s Q rm) (s₁.setTop (mkF m 0 ls0 []))) : MetN l Z y bytes maxL ret ws rm as' h0 Q := by
  refine MetFree.of_bodySF hp hisR ?_
  intro p e s m args below meth c s₁ Bd hml hP hK
  obtain ⟨rfl, hZ, hh⟩ := hP
  have hown : s.vm.findClass y.cls = some m.cls := findClass_of_methodNamed Bd.named
  have hnm := (name_of_methodNamed Bd.named Bd.method).1
  have e0 : s₁.heap = h0 := by rw [← hh, Bd.state]; rfl
  have X0 : Stand p l e rm s m args below meth c s₁ [] 0 0 := Stand.of_body Bd
  have hC : CHv Z [] s.vm h0 := fun _ q => nomatch q
  rw [hent]
  exact body p e s m below meth c s₁ hml Bd.returns hnm Bd.notSynchronized ⟨X0, e0, ⟨0, (State.WarmedH.refl s).since _, Nat.zero_le _⟩, hZ, hown, Frw.nil, hh, CHr.refl hC, Bd.exec, Bd.bytes⟩
theorem MetW.mk {ls0 : Array Slot} {ss : List Addr} (wl : List Addr) (hp : plainFor y = true) (hent : ∀ m, entryFrame m as' maxL = mkF m 0 ls0 [])
    (body : ∀ p e s m below meth c s₁, c.maxLocals = maxL → meth.sig.returnType = ret → meth.name = y.name → meth.locks = false → (∀ x ∈ ss, Safe Z EL s.vm h0 x) → Pos p l e rm s m as' below meth c bytes Z EL wl h0 y.cls s.vm s₁ [] 0 0 h0 → Go p.tables e below (GW s Z EL h0 Q rm) (s₁.setTop (mkF m 0 ls0 []))) : MetW l Z EL y bytes maxL ret ws rm as' ss h0 Q := by
  refine MetFree.of_bodySF hp hisR ?_
  intro p e s m args below meth c s₁ Bd hml hP hK
  obtain ⟨rfl, hZ, hh, hC, hss⟩ := hP
  have hown : s.vm.findClass y.cls = some m.cls := findClass_of_methodNamed Bd.named
  have hnm := (name_of_methodNamed Bd.named Bd.method).1
  have e0 : s₁.heap = h0 := by rw [← hh, Bd.state]; rfl
  have X0 : Stand p l e rm s m args below meth c s₁ [] 0 0 := Stand.of_body Bd
  rw [hent]
  exact body p e s m below meth c s₁ hml Bd.returns hnm Bd.notSynchronized hss ⟨X0, e0, ⟨0, (State.WarmedH.refl s).since _, Nat.zero_le _⟩, hZ, hown, Frw.nil, hh, CHr.refl hC, Bd.exec, Bd.bytes⟩
def MetNK (l : Launch) (Z : State) (y : MethodName) (bytes : ByteArray) (maxL : Nat) (ret : Option FieldType) (ws : List Jvm.Cond) (rm : Room) (as' : Array Value) (h0 : Heap) (Q : Option Value → Heap → List Loc → Prop) : Prop :=
  MetFree l y (head1 (Jvm.Cond.code y bytes maxL ret :: ws) rm) (fun a U => a = as' ∧ Z.Warmed39 U.vm ∧ U.heap = h0) KK (fun _ U o U' => GN U Q rm o U')
def MetWK (l : Launch) (Z : State) (EL : List (String × Nat)) (y : MethodName) (bytes : ByteArray) (maxL : Nat) (ret : Option FieldType) (ws : List Jvm.Cond) (rm : Room) (as' : Array Value) (ss : List Addr) (h0 : Heap) (Q : Option Value → Heap → List Loc → Prop) : Prop :=
  MetFree l y (head1 (Jvm.Cond.code y bytes maxL ret :: ws) rm) (fun a U => a = as' ∧ Z.Warmed39 U.vm ∧ U.heap = h0 ∧ CHv Z EL U.vm h0 ∧ ∀ x ∈ ss, Safe Z EL U.vm h0 x) KK (fun _ U o U' => GW U Z EL h0 Q rm o U')
theorem MetNK.mk {ls0 : Array Slot} (wl : List Addr) (hp : plainFor y = true) (hent : ∀ m, entryFrame m as' maxL = mkF m 0 ls0 [])
    (body : ∀ p e s m below meth c s₁, c.maxLocals = maxL → meth.sig.returnType = ret → meth.name = y.name → meth.locks = false → s.vm.MethodsKnown → s.vm.FramesKnown below → Pos p l e rm s m as' below meth c bytes Z [] wl h0 y.cls s.vm s₁ [] 0 0 h0 → Go p.tables e below (GN s Q rm) (s₁.setTop (mkF m 0 ls0 []))) : MetNK l Z y bytes maxL ret ws rm as' h0 Q := by
  refine MetFree.of_bodySF hp hisR ?_
  intro p e s m args below meth c s₁ Bd hml hP hK
  obtain ⟨rfl, hZ, hh⟩ := hP
  have hown : s.vm.findClass y.cls = some m.cls := findClass_of_methodNamed Bd.named
  have hnm := (name_of_methodNamed Bd.named Bd.method).1
  have e0 : s₁.heap = h0 := by rw [← hh, Bd.state]; rfl
  have X0 : Stand p l e rm s m args below meth c s₁ [] 0 0 := Stand.of_body Bd
  have hC : CHv Z [] s.vm h0 := fun _ q => nomatch q
  rw [hent]
  exact body p e s m below meth c s₁ hml Bd.returns hnm Bd.notSynchronized hK.1 hK.2 ⟨X0, e0, ⟨0, (State.WarmedH.refl s).since _, Nat.zero_le _⟩, hZ, hown, Frw.nil, hh, CHr.refl hC, Bd.exec, Bd.bytes⟩
theorem MetWK.mk {ls0 : Array Slot} {ss : List Addr} (wl : List Addr) (hp : plainFor y = true) (hent : ∀ m, entryFrame m as' maxL = mkF m 0 ls0 [])
    (body : ∀ p e s m below meth c s₁, c.maxLocals = maxL → meth.sig.returnType = ret → meth.name = y.name → meth.locks = false → s.vm.MethodsKnown → s.vm.FramesKnown below → (∀ x ∈ ss, Safe Z EL s.vm h0 x) → Pos p l e rm s m as' below meth c bytes Z EL wl h0 y.cls s.vm s₁ [] 0 0 h0 → Go p.tables e below (GW s Z EL h0 Q rm) (s₁.setTop (mkF m 0 ls0 []))) : MetWK l Z EL y bytes maxL ret ws rm as' ss h0 Q := by
  refine MetFree.of_bodySF hp hisR ?_
  intro p e s m args below meth c s₁ Bd hml hP hK
  obtain ⟨rfl, hZ, hh, hC, hss⟩ := hP
  have hown : s.vm.findClass y.cls = some m.cls := findClass_of_methodNamed Bd.named
  have hnm := (name_of_methodNamed Bd.named Bd.method).1
  have e0 : s₁.heap = h0 := by rw [← hh, Bd.state]; rfl
  have X0 : Stand p l e rm s m args below meth c s₁ [] 0 0 := Stand.of_body Bd
  rw [hent]
  exact body p e s m below meth c s₁ hml Bd.returns hnm Bd.notSynchronized hK.1 hK.2 hss ⟨X0, e0, ⟨0, (State.WarmedH.refl s).since _, Nat.zero_le _⟩, hZ, hown, Frw.nil, hh, CHr.refl hC, Bd.exec, Bd.bytes⟩
variable {p : Program} {e : Env} {R : Room} {s : State} {args : Array Value} {below : List Frame} {vm0 : Vm} {len W : Nat} {m : MethodId} {meth : Method} {c : Code} {code : ByteArray} {wl : List Addr} {hS h : Heap} {own : String} {T : State} {locs : List Loc} {cells slots : Nat}
/-- a narrow contract pays a call -/
theorem MetN.pay (hM : MetN l Z y bytes maxL ret [] rm as' h Q) (P : Pos p l e R s m args below meth c code Z EL wl hS own vm0 T locs cells slots h) (wc : (Jvm.Cond.code y bytes maxL ret).before a0 Z = true) (wz : (Jvm.Cond.initialized y.cls).before a0 Z = true) (hf : rm.frames + 1 ≤ R.frames) (hl : W + (maxL + 11) + rm.locals ≤ R.locals) :
    Back l R p e below (s.setVm vm0) args y len W (fun A a => a = as' ∧ A.U.heap = h ∧ A.cells + rm.cells ≤ R.cells ∧ A.slots + rm.slots ≤ R.slots) (fun A _ v B => ∃ L, Q v B.U.heap L ∧ B.locs = A.locs ++ L ∧ B.cells = A.cells + rm.cells ∧ B.slots = A.slots + rm.slots) :=
  backOf hM P.hz wc wz hf hl
theorem MetNK.pay (hM : MetNK l Z y bytes maxL ret [] rm as' h Q) (P : Pos p l e R s m args below meth c code Z EL wl hS own vm0 T locs cells slots h) (hTK : s.vm.MethodsKnown) (hB : s.vm.FramesKnown below) (wc : (Jvm.Cond.code y bytes maxL ret).before a0 Z = true) (wz : (Jvm.Cond.initialized y.cls).before a0 Z = true) (hf : rm.frames + 1 ≤ R.frames) (hl : W + (maxL + 11) + rm.locals ≤ R.locals) :
    Back l R p e below (s.setVm vm0) args y len W (fun A a => a = as' ∧ A.U.heap = h ∧ A.cells + rm.cells ≤ R.cells ∧ A.slots + rm.slots ≤ R.slots) (fun A _ v B => ∃ L, Q v B.U.heap L ∧ B.locs = A.locs ++ L ∧ B.cells = A.cells + rm.cells ∧ B.slots = A.slots + rm.slots) :=
  backOfKL hM P.hz wc wz hf hl (Vm.MethodsKnown.alikeC P.alS hTK) (Vm.FramesKnown.alikeC P.alS hB)
/-- a wide one -/
theorem MetW.pay {ss : List Addr} (hM : MetW l Z EL y bytes maxL ret [] rm as' ss h Q) (P : Pos p l e R s m args below meth c code Z EL wl hS own vm0 T locs cells slots h) (hEL : EW Z a0 EL) (hss : ∀ x ∈ ss, x < h.size ∧ Safe Z EL vm0 h x) (wc : (Jvm.Cond.code y bytes maxL ret).before a0 Z = true) (wz : (Jvm.Cond.initialized y.cls).before a0 Z = true) (hf : rm.frames + 1 ≤ R.frames) (hl : W + (maxL + 11) + rm.locals ≤ R.locals) :
    BackS l R p e below (s.setVm vm0) args y len W (fun A a => a = as' ∧ A.U.heap = h ∧ A.cells + rm.cells ≤ R.cells ∧ A.slots + rm.slots ≤ R.slots) (fun A _ v B => ∃ L, Q v B.U.heap L ∧ B.locs = A.locs ++ L ∧ B.cells = A.cells + rm.cells ∧ B.slots = A.slots + rm.slots ∧ CHr Z EL vm0 h B.U.vm B.U.heap) :=
  BackS.of_freeW (bytes := bytes) (maxL := maxL) (ret := ret) (E := fun _ first o t L k n => k = rm.cells ∧ n = rm.slots ∧ (∃ v, o = .returned v ∧ Q v t.heap L) ∧ CHr Z EL first.vm h t.vm t.heap) hM hf hl
    (fun m meth c A a Y hp => have hU : Z.Warmed39 A.U.vm := wtrans (s := s.setVm vm0) P.hz Y.warmed
      ⟨by show (Jvm.Cond.and _ .tt).before a A.U = true; rw [Jvm.Cond.before_and, mv hU wc]; rfl, mv hU wc, mv hU wz, hp.2.2.1, hp.2.2.2⟩)
    (fun m meth c A a g mk Y hp => ⟨hp.1, wtrans (s := s.setVm vm0) P.hz Y.warmed, hp.2.1, (CHv.at Y P.hz hEL P.chv).1, fun x hx => (CHv.at Y P.hz hEL P.chv).safe (hss x hx).1 (hss x hx).2⟩) (fun _ _ _ _ _ _ _ _ _ => trivial)
    (fun _ _ _ _ ⟨v, L, h1, h2, h3, h4⟩ => ⟨L, _, _, h4, rfl, rfl, ⟨v, h1, h2⟩, h3⟩)
    (fun m meth c A a g mk v t L k n Y hp _ _ ⟨e1, e2, ⟨v', e3, e4⟩, e5⟩ => by
      cases e3; subst e1 e2
      exact ⟨L, e4, rfl, rfl, rfl, (CHv.at Y P.hz hEL P.chv).trans e5⟩)
end Met
/-- what a body that touches nothing says -/
def Pure (v : Option Value) (h0 : Heap) (u : Option Value) (h : Heap) (L : List Loc) : Prop := u = v ∧ L = [] ∧ h0 = h
theorem Pure.ok {v : Option Value} {h0 : Heap} {Z : State} {EL : List (String × Nat)} {vm0 : Vm} {wl : List Addr} {n : Nat} (H : CHv Z EL vm0 h0) : ∀ u h L, Pure v h0 u h L → Frw wl n L ∧ CHr Z EL vm0 h0 vm0 h := fun u h L q => by
  obtain ⟨-, rfl, rfl⟩ := q; exact ⟨Frw.nil, CHr.refl H⟩
theorem ns_root {Z : State} {a0 : Array Value} {O K : String} {n : Nat} (w : (Jvm.Cond.noSuperclass O).before a0 Z = true) (wk : (Jvm.Cond.instantiable K n).before a0 Z = true) (hn : O ≠ K) : NS Z O K := by
  obtain ⟨c, k, h1, h2, h3, -, -⟩ := Cond.noSuperclass_spec w
  obtain ⟨t, kt, g1, -⟩ := Cond.instantiable_spec wk
  have ne := ids_ne h1 g1 hn
  refine ⟨c, t, h1, g1, fun fuel => ?_⟩
  cases fuel with
  | zero => rfl
  | succ f => simp [Vm.isSubclassAux, ne, h2, h3]
theorem ns_no {Z : State} {a0 : Array Value} {C S K : String} {n : Nat} (w : (Jvm.Cond.superclass C S).before a0 Z = true) (wk : (Jvm.Cond.instantiable K n).before a0 Z = true) (N : NS Z C K) (hn : C ≠ K) : ∃ c t, Z.vm.findClass C = some c ∧ Z.vm.findClass K = some t ∧ Z.vm.assignable c t = false := by
  obtain ⟨c, t, h0, g0, n3⟩ := N
  obtain ⟨p, k, kp, h1, h2, h3, h4, h5, -, h7⟩ := Cond.superclass_spec h0 w
  obtain ⟨t', k', g1, g2, g5, g6, -⟩ := Cond.instantiable_spec wk
  cases g0.symm.trans g1
  have g7 : k'.isInterface = false := by cases q : k'.isInterface <;> simp [q] at g6 ⊢
  have ne := ids_ne h0 g0 hn
  refine ⟨c, t, h0, g0, ?_⟩
  show Z.vm.assignableAux (255 + 1) c t = false
  simp [Vm.assignableAux, ne, h2, g2, h5, g5, g7, Vm.isSubclass, n3]
theorem Ext.keepNew {h0 h h' : Heap} {wl : List Addr} (E : Ext h0 h) (K : Keep h h' wl) (q : ∀ x ∈ wl, h0.size ≤ x) : Ext h0 h' := ⟨Nat.le_trans E.1 K.1, fun a c r => K.2.1 a c (E.2 a c r) fun z => absurd (Array.getElem?_eq_some_iff.mp r).1 (Nat.not_lt.mpr (q a z))⟩
theorem Ext.trans {h0 h h' : Heap} (E : Ext h0 h) (E' : Ext h h') : Ext h0 h' := ⟨Nat.le_trans E.1 E'.1, fun a c r => E'.2 a c (E.2 a c r)⟩
theorem Ext.refl (h : Heap) : Ext h h := ⟨Nat.le_refl _, fun _ _ r => r⟩
theorem Ext.wrNew {h0 h h' : Heap} {a : Addr} {sl : Nat} {v : Value} (E : Ext h0 h) (Wq : Wr h h' a sl v) (q : h0.size ≤ a) : Ext h0 h' := Ext.keepNew E (Keep.of_wr Wq) (allS q all0)
theorem Ext.toKeep {h h' : Heap} (E : Ext h h') (wl : List Addr) : Keep h h' wl := (Keep.refl h wl).ext E
end W
end Jvm.Pilot.@@N@@
/- laws to paste: Road.backV, Road.codOf, Road.eqW, pair_says, shr0, shr1, chr8_lo8, lo8_mask, narrow_ch, fits_lo8 (cut by pick.py; bodies as the Statement names them) -/
namespace Jvm.Pilot.@@N@@
namespace StrChars
open Jvm Sem ClassFile Op Lib Jvm.Stand Jvm.Free.XT Jvm.Free.ALB Jvm.Free.JM Jvm.Free
open Jvm.Lib.Cold (StaticIs)
/-- a char array whose places are chars -/
def Ch (a : Addr) (A : Cell) (U : State) : Prop := Arr .char a A U ∧ Typed .char A
theorem Ch.mv {a : Addr} {A : Cell} {U U' : State} (h : Ch a A U) (hal : U.vm.Alike U'.vm) (hh : U'.heap = U.heap) : Ch a A U' := ⟨h.1.mv hal hh, h.2⟩
theorem Ch.keep {a : Addr} {A : Cell} {U U' : State} (h : Ch a A U) (hal : U.vm.Alike U'.vm) (hk : U'.heap[a]? = some A) : Ch a A U' := ⟨h.1.keep hal hk, h.2⟩
/-- what place i of a char[]'s cell holds -/
def cv (A : Cell) (i : Nat) : Int32 := match A.slots[i]? with | some (.int x) => x | _ => 0
theorem Ch.get {a : Addr} {A : Cell} {U : State} (h : Ch a A U) {i : Nat} (hi : i < A.slots.size) : A.slots[i]? = some (.int (cv A i)) := by
  have e := Array.getElem?_eq_getElem hi
  have f := h.2 i _ e
  unfold cv; rw [e]
  generalize A.slots[i] = v at f
  cases v <;> simp [fits] at f ⊢
/-- the byte that i2b leaves of a char -/
def lo8 (x : Int32) : Int32 := x.toInt8.toInt32
theorem fits_lo8 (y : Int32) : fits .byte (.int (lo8 y)) = true := by
  have h1 := y.toInt8.le_toInt
  have h2 := y.toInt8.toInt_lt
  simp only [lo8, fits, Bool.and_eq_true, decide_eq_true_eq, Int32.le_iff_toInt_le, Int8.toInt_toInt32, show (-128 : Int32).toInt = -128 from by decide, show (127 : Int32).toInt = 127 from by decide]
  omega
/-- A' is A but that each place j of lo .. hi - 1 holds f j -/
def Laid (A A' : Cell) (lo hi : Nat) (f : Nat → Value) : Prop := A'.cls = A.cls ∧ A'.vm = A.vm ∧ A'.slots.size = A.slots.size ∧ ∀ i, A'.slots[i]? = if lo ≤ i ∧ i < hi then some (f i) else A.slots[i]?
theorem Laid.zero (A : Cell) (lo : Nat) (f : Nat → Value) : Laid A A lo (lo + 0) f := ⟨rfl, rfl, rfl, fun i => by rw [if_neg (by omega)]⟩
theorem Laid.step {A Ak : Cell} {lo k : Nat} {f : Nat → Value} {v : Value} (h : Laid A Ak lo k f) (hlo : lo ≤ k) (hk : k < Ak.slots.size) (hv : v = f k) : Laid A (Ak.setSlot k v) lo (k + 1) f := by
  refine ⟨h.1, h.2.1, by simpa [Cell.setSlot] using h.2.2.1, fun i => ?_⟩
  by_cases e : k = i
  · subst e; rw [Cell.slots_setSlot_self v hk, if_pos (by omega), hv]
  · rw [Cell.slots_setSlot_ne v e, h.2.2.2 i]
    by_cases q : lo ≤ i ∧ i < k
    · rw [if_pos q, if_pos (by omega)]
    · rw [if_neg q, if_neg (by omega)]
def U16 : String := "java/lang/StringUTF16"
namespace Cmp5
def yN : MethodName := ⟨"java/lang/StringUTF16", "compress", "([CI[BII)I"⟩
abbrev yB : ByteArray := jdk_52_method_21_code
theorem d0 : decode yB 0 = .ok (.iconst 0, 1) := by decide +kernel
theorem d1 : decode yB 1 = .ok (.istore 5, 2) := by decide +kernel
theorem d3 : decode yB 3 = .ok (.iload 5, 2) := by decide +kernel
theorem d5 : decode yB 5 = .ok (.iload 4, 2) := by decide +kernel
theorem d7 : decode yB 7 = .ok (.if_icmp (.ge) 37, 3) := by decide +kernel
theorem d10 : decode yB 10 = .ok (.aload_n 0, 1) := by decide +kernel
theorem d11 : decode yB 11 = .ok (.iload_n 1, 1) := by decide +kernel
theorem d12 : decode yB 12 = .ok (.caload, 1) := by decide +kernel
theorem d13 : decode yB 13 = .ok (.istore 6, 2) := by decide +kernel
theorem d15 : decode yB 15 = .ok (.iload 6, 2) := by decide +kernel
theorem d17 : decode yB 17 = .ok (.sipush 255, 3) := by decide +kernel
theorem d20 : decode yB 20 = .ok (.if_icmp (.le) 6, 3) := by decide +kernel
theorem d26 : decode yB 26 = .ok (.aload_n 2, 1) := by decide +kernel
theorem d27 : decode yB 27 = .ok (.iload_n 3, 1) := by decide +kernel
theorem d28 : decode yB 28 = .ok (.iload 6, 2) := by decide +kernel
theorem d30 : decode yB 30 = .ok (.i2b, 1) := by decide +kernel
theorem d31 : decode yB 31 = .ok (.bastore, 1) := by decide +kernel
theorem d32 : decode yB 32 = .ok (.iinc 1 1, 3) := by decide +kernel
theorem d35 : decode yB 35 = .ok (.iinc 3 1, 3) := by decide +kernel
theorem d38 : decode yB 38 = .ok (.iinc 5 1, 3) := by decide +kernel
theorem d41 : decode yB 41 = .ok (.goto (-38), 3) := by decide +kernel
theorem d44 : decode yB 44 = .ok (.iload 4, 2) := by decide +kernel
theorem d46 : decode yB 46 = .ok (.ireturn, 1) := by decide +kernel
def site : List Cond := []
def tab : Cond := tabOf yN yB 7 (some .int) site
def P (b : Addr) (A : Cell) (d : Addr) (B : Cell) (o q len : Nat) (args : Array Value) (s : State) : Prop := args = #[.ref b, .int (Int32.ofNat o), .ref d, .int (Int32.ofNat q), .int (Int32.ofNat len)] ∧ Ch b A s ∧ Arr .byte d B s ∧ b ≠ d ∧ o + len ≤ A.slots.size ∧ q + len ≤ B.slots.size ∧ ∀ i, i < len → ¬ 255 < cv A (o + i)
def E (b : Addr) (A : Cell) (d : Addr) (B : Cell) (o q len : Nat) (r : Option Value) (s u : State) : Prop := r = some (.int (Int32.ofNat len)) ∧ ∃ B', Put d B' s u ∧ Laid B B' q (q + len) (fun j => Value.int (lo8 (cv A (o + (j - q)))))
/-- no char of the range above 255: len; the places written hold each char's low byte -/
theorem law (l : Launch) (b : Addr) (A : Cell) (d : Addr) (B : Cell) (o q len : Nat) : Law l yN 5 5 0 0 yB 7 (some .int) site (P b A d B o q len) (E b A d B o q len) (copyLocs d q len) 0 0 := by
  refine Law.of_walk (plainFor_of_name (by decide +kernel)) (by decide +kernel) (by decide +kernel) (by decide) (fun _ _ h => by rw [h.1]; rfl) (fun _ U U' hal hh h => ⟨h.1, h.2.1.mv hal hh, h.2.2.1.mv hal hh, h.2.2.2⟩) (fun r U U' V V' h1 hal h2 h => ⟨h.1, h.2.elim fun B' q => ⟨B', q.1.mv h1 h2, q.2⟩⟩) ?_
  intro p e s m args below meth c s₁ X0 hexec hbytes hml hret hlk hnm hown hh0 W hP
  obtain ⟨rfl, hA, hB, hne, l1, l2, hp⟩ := hP
  have c1 : Steps p.tables e below (s₁.setTop (entryFrame m #[.ref b, .int (Int32.ofNat o), .ref d, .int (Int32.ofNat q), .int (Int32.ofNat len)] 7)) (s₁.setTop (mkF m 0 #[.val (.ref b), .val (.int (Int32.ofNat o)), .val (.ref d), .val (.int (Int32.ofNat q)), .val (.int (Int32.ofNat len)), .unset, .unset] [])) := entry rfl
  have hA0 := hA.1.mv X0.warmed.alike hh0
  have hB0 := hB.mv X0.warmed.alike hh0
  have a31 := hA.1.2.2.2
  have c2 : Steps p.tables e below (s₁.setTop (entryFrame m #[.ref b, .int (Int32.ofNat o), .ref d, .int (Int32.ofNat q), .int (Int32.ofNat len)] 7)) (s₁.setTop (mkF m 3 #[.val (.ref b), .val (.int (Int32.ofNat o)), .val (.ref d), .val (.int (Int32.ofNat q)), .val (.int (Int32.ofNat len)), .val (.int 0), .unset] [])) := c1.trans (by
    refine iconstV X0.here hexec rfl 0 (hb hbytes d0) (by decide) ?_
    refine XS.istore X0.here hexec rfl (hb hbytes d1) rfl rfl ?_
    exact Steps.refl _)
  have loop : ∀ (r i : Nat), i + r = len → ∀ (z : Slot), (z = .unset ∨ ∃ w, z = .val w ∧ w.category = 1) → ∀ (Tl : State) (Bk : Cell), Stand p l e { frames := 0, locals := 0, cells := 0, slots := 0 } s m #[.ref b, .int (Int32.ofNat o), .ref d, .int (Int32.ofNat q), .int (Int32.ofNat len)] below meth c Tl ([] ++ copyLocs d q i) 0 0 → Put d Bk s₁ Tl → Laid B Bk q (q + i) (fun j => Value.int (lo8 (cv A (o + (j - q))))) →
      Steps p.tables e below (s₁.setTop (entryFrame m #[.ref b, .int (Int32.ofNat o), .ref d, .int (Int32.ofNat q), .int (Int32.ofNat len)] 7)) (Tl.setTop (mkF m 3 #[.val (.ref b), .val (.int (Int32.ofNat (o + i))), .val (.ref d), .val (.int (Int32.ofNat (q + i))), .val (.int (Int32.ofNat len)), .val (.int (Int32.ofNat i)), z] [])) → ∃ (T' : State) (B' : Cell) (z' : Slot), Stand p l e { frames := 0, locals := 0, cells := 0, slots := 0 } s m #[.ref b, .int (Int32.ofNat o), .ref d, .int (Int32.ofNat q), .int (Int32.ofNat len)] below meth c T' ([] ++ copyLocs d q len) 0 0 ∧ Put d B' s₁ T' ∧ Laid B B' q (q + len) (fun j => Value.int (lo8 (cv A (o + (j - q))))) ∧
      Steps p.tables e below (s₁.setTop (entryFrame m #[.ref b, .int (Int32.ofNat o), .ref d, .int (Int32.ofNat q), .int (Int32.ofNat len)] 7)) (T'.setTop (mkF m 3 #[.val (.ref b), .val (.int (Int32.ofNat (o + len))), .val (.ref d), .val (.int (Int32.ofNat (q + len))), .val (.int (Int32.ofNat len)), .val (.int (Int32.ofNat len)), z'] [])) := by
    intro r
    induction r with
    | zero =>
      intro i hi z hz Tl Bk Xl pl fl cl
      have hil : i = len := by omega
      rw [hil] at Xl fl cl
      exact ⟨Tl, Bk, z, Xl, pl, fl, cl⟩
    | succ r ih =>
      intro i hi z hz Tl Bk Xl pl fl cl
      have all := X0.warmed.alike.symm.trans Xl.warmed.alike
      have hAl := hA0.keep all (pl.other hne hA0.1)
      have hBk := hB0.like all pl.1 fl.1 fl.2.1 fl.2.2.1
      have hlt : q + i < Bk.slots.size := by rw [fl.2.2.1]; omega
      have c3 : Steps p.tables e below (s₁.setTop (entryFrame m #[.ref b, .int (Int32.ofNat o), .ref d, .int (Int32.ofNat q), .int (Int32.ofNat len)] 7)) (Tl.setTop (mkF m 12 #[.val (.ref b), .val (.int (Int32.ofNat (o + i))), .val (.ref d), .val (.int (Int32.ofNat (q + i))), .val (.int (Int32.ofNat len)), .val (.int (Int32.ofNat i)), z] [.int (Int32.ofNat (o + i)), .ref b])) := cl.trans (by
        refine XS.iload Xl.here hexec rfl (hb hbytes d3) rfl ?_
        refine XS.iload Xl.here hexec rfl (hb hbytes d5) rfl ?_
        refine XS.icmpNo Xl.here hexec rfl (hb hbytes d7) rfl (ii_ge_f (lt32 (by omega) (by omega))) ?_
        refine XS.aloadN Xl.here hexec rfl (hb hbytes d10) rfl rfl ?_
        refine XS.iloadN Xl.here hexec rfl (hb hbytes d11) rfl ?_
        exact Steps.refl _)
      have c4 : Steps p.tables e below (s₁.setTop (entryFrame m #[.ref b, .int (Int32.ofNat o), .ref d, .int (Int32.ofNat q), .int (Int32.ofNat len)] 7)) (Tl.setTop (mkF m 13 #[.val (.ref b), .val (.int (Int32.ofNat (o + i))), .val (.ref d), .val (.int (Int32.ofNat (q + i))), .val (.int (Int32.ofNat len)), .val (.int (Int32.ofNat i)), z] [.int (cv A (o + i))])) := c3.trans (by
        refine Xl.aget hexec hAl rfl (hA.get (i := o + i) (by omega)) rfl rfl (hb hbytes d12) ?_
        exact Steps.refl _)
      have c5 : Steps p.tables e below (s₁.setTop (entryFrame m #[.ref b, .int (Int32.ofNat o), .ref d, .int (Int32.ofNat q), .int (Int32.ofNat len)] 7)) (Tl.setTop (mkF m 15 #[.val (.ref b), .val (.int (Int32.ofNat (o + i))), .val (.ref d), .val (.int (Int32.ofNat (q + i))), .val (.int (Int32.ofNat len)), .val (.int (Int32.ofNat i)), .val (.int (cv A (o + i)))] [])) := c4.trans (by
        refine XS.istoreS Xl.here hexec rfl (hb hbytes d13) rfl rfl hz ?_
        exact Steps.refl _)
      have c6 : Steps p.tables e below (s₁.setTop (entryFrame m #[.ref b, .int (Int32.ofNat o), .ref d, .int (Int32.ofNat q), .int (Int32.ofNat len)] 7)) (Tl.setTop (mkF m 31 #[.val (.ref b), .val (.int (Int32.ofNat (o + i))), .val (.ref d), .val (.int (Int32.ofNat (q + i))), .val (.int (Int32.ofNat len)), .val (.int (Int32.ofNat i)), .val (.int (cv A (o + i)))] [.int (lo8 (cv A (o + i))), .int (Int32.ofNat (q + i)), .ref d])) := c5.trans (by
        refine XS.iload Xl.here hexec rfl (hb hbytes d15) rfl ?_
        refine sipushV Xl.here hexec rfl 255 (hb hbytes d17) (by decide) ?_
        refine XS.icmpYes Xl.here hexec rfl (pc0 := 20) rfl (hb hbytes d20) rfl (ii_le_t (hp i (by omega))) (by decide) rfl ?_
        refine XS.aloadN Xl.here hexec rfl (hb hbytes d26) rfl rfl ?_
        refine XS.iloadN Xl.here hexec rfl (hb hbytes d27) rfl ?_
        refine XS.iload Xl.here hexec rfl (hb hbytes d28) rfl ?_
        refine i2b Xl.here hexec rfl (hb hbytes d30) rfl ?_
        exact Steps.refl _)
      obtain ⟨T7, X7, p7, st7⟩ := Xl.aput hexec hBk rfl hlt rfl (fits_lo8 (cv A (o + i))) (g := (mkF m 31 #[.val (.ref b), .val (.int (Int32.ofNat (o + i))), .val (.ref d), .val (.int (Int32.ofNat (q + i))), .val (.int (Int32.ofNat len)), .val (.int (Int32.ofNat i)), .val (.int (cv A (o + i)))] [.int (lo8 (cv A (o + i))), .int (Int32.ofNat (q + i)), .ref d])) rfl (rest := []) rfl (hb hbytes d31)
      have c8 : Steps p.tables e below (s₁.setTop (entryFrame m #[.ref b, .int (Int32.ofNat o), .ref d, .int (Int32.ofNat q), .int (Int32.ofNat len)] 7)) (T7.setTop (mkF m 32 #[.val (.ref b), .val (.int (Int32.ofNat (o + i))), .val (.ref d), .val (.int (Int32.ofNat (q + i))), .val (.int (Int32.ofNat len)), .val (.int (Int32.ofNat i)), .val (.int (cv A (o + i)))] [])) := c6.trans (st7 _ (Steps.refl _))
      have c9 : Steps p.tables e below (s₁.setTop (entryFrame m #[.ref b, .int (Int32.ofNat o), .ref d, .int (Int32.ofNat q), .int (Int32.ofNat len)] 7)) (T7.setTop (mkF m 3 #[.val (.ref b), .val (.int (Int32.ofNat (o + i) + 1)), .val (.ref d), .val (.int (Int32.ofNat (q + i) + 1)), .val (.int (Int32.ofNat len)), .val (.int (Int32.ofNat i + 1)), .val (.int (cv A (o + i)))] [])) := c8.trans (by
        refine iincV X7.here hexec rfl 1 (hb hbytes d32) (by decide) rfl rfl ?_
        refine iincV X7.here hexec rfl 1 (hb hbytes d35) (by decide) rfl rfl ?_
        refine iincV X7.here hexec rfl 1 (hb hbytes d38) (by decide) rfl rfl ?_
        refine XS.goto X7.here hexec rfl (pc0 := 41) rfl (hb hbytes d41) (by decide) rfl ?_
        exact Steps.refl _)
      have c10 : Steps p.tables e below (s₁.setTop (entryFrame m #[.ref b, .int (Int32.ofNat o), .ref d, .int (Int32.ofNat q), .int (Int32.ofNat len)] 7)) (T7.setTop (mkF m 3 #[.val (.ref b), .val (.int (Int32.ofNat (o + (i + 1)))), .val (.ref d), .val (.int (Int32.ofNat (q + (i + 1)))), .val (.int (Int32.ofNat len)), .val (.int (Int32.ofNat (i + 1))), .val (.int (cv A (o + i)))] [])) := by
        have := c9
        rw [succ32, succ32, succ32] at this
        exact this
      exact ih (i + 1) (by omega) _ (Or.inr ⟨_, rfl, rfl⟩) T7 _ (by rw [copyLocs_step, ← List.append_assoc]; exact X7) (pl.trans p7) (fl.step (by omega) hlt (by simp)) c10
  obtain ⟨T9, B9, z9, X9, p9, f9, g9⟩ := loop len 0 (by omega) .unset (Or.inl rfl) s₁ B (by simpa [copyLocs] using X0) ⟨hB0.1, fun _ _ => rfl, rfl⟩ (Laid.zero _ _ _) c2
  have c11 : Steps p.tables e below (s₁.setTop (entryFrame m #[.ref b, .int (Int32.ofNat o), .ref d, .int (Int32.ofNat q), .int (Int32.ofNat len)] 7)) (T9.setTop (mkF m 46 #[.val (.ref b), .val (.int (Int32.ofNat (o + len))), .val (.ref d), .val (.int (Int32.ofNat (q + len))), .val (.int (Int32.ofNat len)), .val (.int (Int32.ofNat len)), z9] [.int (Int32.ofNat len)])) := g9.trans (by
    refine XS.iload X9.here hexec rfl (hb hbytes d3) rfl ?_
    refine XS.iload X9.here hexec rfl (hb hbytes d5) rfl ?_
    refine XS.icmpYes X9.here hexec rfl (pc0 := 7) rfl (hb hbytes d7) rfl (ii_ge_t (nlt32 (by omega) (Nat.le_refl _))) (by decide) rfl ?_
    refine XS.iload X9.here hexec rfl (hb hbytes d44) rfl ?_
    exact Steps.refl _)
  exact ⟨T9, some (.int (Int32.ofNat len)), _, _, _, X9, by simp, rfl, rfl, (fun h => by cases h), ⟨rfl, B9, p9.from hh0, f9⟩, fun fs hl => c11.trans (X9.ireturnOut hexec hret rfl (Or.inl rfl) (hb hbytes d46) hl)⟩
end Cmp5
namespace Cmp3
def yN : MethodName := ⟨"java/lang/StringUTF16", "compress", "([CII)[B"⟩
abbrev yB : ByteArray := jdk_52_method_16_code
theorem d0 : decode yB 0 = .ok (.iload_n 2, 1) := by decide +kernel
theorem d1 : decode yB 1 = .ok (.newarray .byte, 2) := by decide +kernel
theorem d3 : decode yB 3 = .ok (.astore_n 3, 1) := by decide +kernel
theorem d4 : decode yB 4 = .ok (.aload_n 0, 1) := by decide +kernel
theorem d5 : decode yB 5 = .ok (.iload_n 1, 1) := by decide +kernel
theorem d6 : decode yB 6 = .ok (.aload_n 3, 1) := by decide +kernel
theorem d7 : decode yB 7 = .ok (.iconst 0, 1) := by decide +kernel
theorem d8 : decode yB 8 = .ok (.iload_n 2, 1) := by decide +kernel
theorem d9 : decode yB 9 = .ok (.invokestatic 115, 3) := by decide +kernel
theorem d12 : decode yB 12 = .ok (.istore 4, 2) := by decide +kernel
theorem d14 : decode yB 14 = .ok (.iload 4, 2) := by decide +kernel
theorem d16 : decode yB 16 = .ok (.iload_n 2, 1) := by decide +kernel
theorem d17 : decode yB 17 = .ok (.if_icmp (.eq) 40, 3) := by decide +kernel
theorem d57 : decode yB 57 = .ok (.aload_n 3, 1) := by decide +kernel
theorem d58 : decode yB 58 = .ok (.areturn, 1) := by decide +kernel
def site : List Cond := [.arrayClass .byte, Cmp5.tab] ++ staticW U16 115 Cmp5.yN
def tab : Cond := tabOf yN yB 6 (some (.array .byte)) site
def P (b : Addr) (A : Cell) (o len : Nat) (args : Array Value) (s : State) : Prop := args = #[.ref b, .int (Int32.ofNat o), .int (Int32.ofNat len)] ∧ Ch b A s ∧ o + len ≤ A.slots.size ∧ len ≤ 536870912 ∧ ∀ i, i < len → ¬ 255 < cv A (o + i)
def E (b : Addr) (A : Cell) (o len : Nat) (r : Option Value) (s u : State) : Prop := NewArr .byte "[B" len (fun j => .int (lo8 (cv A (o + j)))) r s u ∧ u.heap.size = s.heap.size + 1
/-- no char of the range above 255: a new byte[] of their low bytes -/
theorem law (l : Launch) (b : Addr) (A : Cell) (o len : Nat) : Law l yN 3 3 1 18 yB 6 (some (.array .byte)) site (P b A o len) (E b A o len) [] 1 len := by
  refine Law.of_walk (plainFor_of_name (by decide +kernel)) (by decide +kernel) (by decide +kernel) (by decide) (fun _ _ h => by rw [h.1]; rfl) (fun _ U U' hal hh h => ⟨h.1, h.2.1.mv hal hh, h.2.2⟩) (fun r U U' V V' h1 hal h2 h => ⟨NewArr.mv r U U' V V' h1 hal h2 h.1, by rw [h1, h2]; exact h.2⟩) ?_
  intro p e s m args below meth c s₁ X0 hexec hbytes hml hret hlk hnm hown hh0 W hP
  obtain ⟨rfl, hA, l1, l2, hp⟩ := hP
  have a31 := hA.1.2.2.2
  have c1 : Steps p.tables e below (s₁.setTop (entryFrame m #[.ref b, .int (Int32.ofNat o), .int (Int32.ofNat len)] 6)) (s₁.setTop (mkF m 0 #[.val (.ref b), .val (.int (Int32.ofNat o)), .val (.int (Int32.ofNat len)), .unset, .unset, .unset] [])) := entry rfl
  have c2 : Steps p.tables e below (s₁.setTop (entryFrame m #[.ref b, .int (Int32.ofNat o), .int (Int32.ofNat len)] 6)) (s₁.setTop (mkF m 1 #[.val (.ref b), .val (.int (Int32.ofNat o)), .val (.int (Int32.ofNat len)), .unset, .unset, .unset] [.int (Int32.ofNat len)])) := c1.trans (by
    refine XS.iloadN X0.here hexec rfl (hb hbytes d0) rfl ?_
    exact Steps.refl _)
  obtain ⟨T3, B3, X3, ba3, bs3, bv3, bh3, bf3, st3⟩ := X0.anew hexec (atype := .byte) (wk W (.arrayClass .byte)) rfl (by show len * 1 ≤ _; omega) (by omega) (g := (mkF m 1 #[.val (.ref b), .val (.int (Int32.ofNat o)), .val (.int (Int32.ofNat len)), .unset, .unset, .unset] [.int (Int32.ofNat len)])) rfl (hb hbytes d1) (rest := []) rfl (Nat.le_refl _) (by show 0 + len ≤ len; omega)
  rw [hh0] at ba3 st3
  have kp3 : XT.Kept s T3 := (XT.Kept.of_eq hh0).push bh3
  have hA3 := hA.keep X3.warmed.alike (kp3 _ _ hA.1.1)
  have hne : b ≠ s.heap.size := hA.1.ne
  have c4 : Steps p.tables e below (s₁.setTop (entryFrame m #[.ref b, .int (Int32.ofNat o), .int (Int32.ofNat len)] 6)) (T3.setTop (mkF m 3 #[.val (.ref b), .val (.int (Int32.ofNat o)), .val (.int (Int32.ofNat len)), .unset, .unset, .unset] [.ref s.heap.size])) := c2.trans (st3 _ (Steps.refl _))
  have c5 : Steps p.tables e below (s₁.setTop (entryFrame m #[.ref b, .int (Int32.ofNat o), .int (Int32.ofNat len)] 6)) (T3.setTop (mkF m 9 #[.val (.ref b), .val (.int (Int32.ofNat o)), .val (.int (Int32.ofNat len)), .val (.ref s.heap.size), .unset, .unset] [.int (Int32.ofNat len), .int 0, .ref s.heap.size, .int (Int32.ofNat o), .ref b])) := c4.trans (by
    refine XS.astoreN X3.here hexec rfl (hb hbytes d3) rfl rfl rfl ?_
    refine XS.aloadN X3.here hexec rfl (hb hbytes d4) rfl rfl ?_
    refine XS.iloadN X3.here hexec rfl (hb hbytes d5) rfl ?_
    refine XS.aloadN X3.here hexec rfl (hb hbytes d6) rfl rfl ?_
    refine iconstV X3.here hexec rfl 0 (hb hbytes d7) (by decide) ?_
    refine XS.iloadN X3.here hexec rfl (hb hbytes d8) rfl ?_
    exact Steps.refl _)
  obtain ⟨v6, T6, X6, E6, g6⟩ := X3.callS hexec (Cmp5.law l b A s.heap.size B3 o 0 len) hown (wks W (staticW U16 115 Cmp5.yN)) (wk W Cmp5.tab) (W := 0) (Nat.le_of_ble_eq_true rfl) (Nat.le_of_ble_eq_true rfl) (Nat.le_refl _) (by show 0 + len + 0 ≤ len; omega) (g := (mkF m 9 #[.val (.ref b), .val (.int (Int32.ofNat o)), .val (.int (Int32.ofNat len)), .val (.ref s.heap.size), .unset, .unset] [.int (Int32.ofNat len), .int (Int32.ofNat 0), .ref s.heap.size, .int (Int32.ofNat o), .ref b])) rfl (by rw [hml]; rfl) c5 (argsL := [.ref b, .int (Int32.ofNat o), .ref s.heap.size, .int (Int32.ofNat 0), .int (Int32.ofNat len)]) (rest := []) rfl rfl (by show 2 * 0 + 0 ≤ _; decide) (hb hbytes d9) (⟨rfl, hA3, ba3, hne, l1, by rw [bs3]; simp, hp⟩)
  obtain ⟨rfl, B6, p6, f6⟩ := E6
  have c7 : Steps p.tables e below (s₁.setTop (entryFrame m #[.ref b, .int (Int32.ofNat o), .int (Int32.ofNat len)] 6)) (T6.setTop (mkF m 12 #[.val (.ref b), .val (.int (Int32.ofNat o)), .val (.int (Int32.ofNat len)), .val (.ref s.heap.size), .unset, .unset] [.int (Int32.ofNat len)])) := g6
  have c8 : Steps p.tables e below (s₁.setTop (entryFrame m #[.ref b, .int (Int32.ofNat o), .int (Int32.ofNat len)] 6)) (T6.setTop (mkF m 58 #[.val (.ref b), .val (.int (Int32.ofNat o)), .val (.int (Int32.ofNat len)), .val (.ref s.heap.size), .val (.int (Int32.ofNat len)), .unset] [.ref s.heap.size])) := c7.trans (by
    refine XS.istore X6.here hexec rfl (hb hbytes d12) rfl rfl ?_
    refine XS.iload X6.here hexec rfl (hb hbytes d14) rfl ?_
    refine XS.iloadN X6.here hexec rfl (hb hbytes d16) rfl ?_
    refine XS.icmpYes X6.here hexec rfl (pc0 := 17) rfl (hb hbytes d17) rfl (ii_eq_t rfl) (by decide) rfl ?_
    refine XS.aloadN X6.here hexec rfl (hb hbytes d57) rfl rfl ?_
    exact Steps.refl _)
  have X8 := X6.wide (L' := []) (cells' := 1) (slots' := len) (fun x hx hlt => by
    simp only [List.nil_append, copyLocs, List.mem_map, List.mem_range] at hx
    obtain ⟨i, -, rfl⟩ := hx
    exact absurd hlt (Nat.lt_irrefl _)) (Nat.le_refl _) (by omega)
  exact ⟨T6, some (.ref s.heap.size), _, _, _, X8, rfl, rfl, rfl, (fun h => by cases h), ⟨⟨rfl, B6, ba3.like (X3.warmed.alike.symm.trans X6.warmed.alike) p6.1 f6.1 f6.2.1 f6.2.2.1, f6.2.1.trans bv3, by rw [X6.warmed.alike.findClass, f6.1]; exact bf3, by rw [f6.2.2.1, bs3]; simp, fun j hj => by rw [f6.2.2.2 j, if_pos (by omega)]; rfl, kp3.put p6 (Nat.le_refl _)⟩, by rw [p6.2.2, bh3, hh0]; simp⟩, fun fs hl => c8.trans (X8.areturnOut hexec rfl hret rfl (hb hbytes d58) hl)⟩
end Cmp3
namespace CodL
def yN : MethodName := ⟨"java/lang/StringUTF16", "coderFromArrayLen", "([BI)B"⟩
abbrev yB : ByteArray := jdk_52_method_15_code
theorem d0 : decode yB 0 = .ok (.iload_n 1, 1) := by decide +kernel
theorem d1 : decode yB 1 = .ok (.aload_n 0, 1) := by decide +kernel
theorem d2 : decode yB 2 = .ok (.arraylength, 1) := by decide +kernel
theorem d3 : decode yB 3 = .ok (.isub, 1) := by decide +kernel
theorem d4 : decode yB 4 = .ok (.bipush 31, 2) := by decide +kernel
theorem d6 : decode yB 6 = .ok (.iushr, 1) := by decide +kernel
theorem d7 : decode yB 7 = .ok (.i2b, 1) := by decide +kernel
theorem d8 : decode yB 8 = .ok (.ireturn, 1) := by decide +kernel
def site : List Cond := []
def tab : Cond := tabOf yN yB 2 (some .byte) site
def P (d : Addr) (B : Cell) (args : Array Value) (s : State) : Prop := args = #[.ref d, .int (Int32.ofNat B.slots.size)] ∧ Arr .byte d B s
def E (r : Option Value) (s u : State) : Prop := XT.PureE (some (.int 0)) r s u
/-- an array as long as the number of chars: LATIN1 -/
theorem law (l : Launch) (d : Addr) (B : Cell) : Law l yN 2 2 0 0 yB 2 (some .byte) site (P d B) E [] 0 0 := by
  refine Law.of_walk (plainFor_of_name (by decide +kernel)) (by decide +kernel) (by decide +kernel) (by decide) (fun _ _ h => by rw [h.1]; rfl) (fun _ U U' hal hh h => ⟨h.1, h.2.mv hal hh⟩) (fun r U U' V V' h1 hal h2 h => XT.PureE.mv r U U' V V' h1 hal h2 h) ?_
  intro p e s m args below meth c s₁ X0 hexec hbytes hml hret hlk hnm hown hh0 W hP
  obtain ⟨rfl, hB⟩ := hP
  have hB0 := hB.mv X0.warmed.alike hh0
  have c1 : Steps p.tables e below (s₁.setTop (entryFrame m #[.ref d, .int (Int32.ofNat B.slots.size)] 2)) (s₁.setTop (mkF m 0 #[.val (.ref d), .val (.int (Int32.ofNat B.slots.size))] [])) := entry rfl
  have c2 : Steps p.tables e below (s₁.setTop (entryFrame m #[.ref d, .int (Int32.ofNat B.slots.size)] 2)) (s₁.setTop (mkF m 2 #[.val (.ref d), .val (.int (Int32.ofNat B.slots.size))] [.ref d, .int (Int32.ofNat B.slots.size)])) := c1.trans (by
    refine XS.iloadN X0.here hexec rfl (hb hbytes d0) rfl ?_
    refine XS.aloadN X0.here hexec rfl (hb hbytes d1) rfl rfl ?_
    exact Steps.refl _)
  have c3 : Steps p.tables e below (s₁.setTop (entryFrame m #[.ref d, .int (Int32.ofNat B.slots.size)] 2)) (s₁.setTop (mkF m 8 #[.val (.ref d), .val (.int (Int32.ofNat B.slots.size))] [.int (lo8 (ushr (Int32.ofNat B.slots.size - Int32.ofNat B.slots.size) 31))])) := c2.trans (by
    refine X0.alen hexec hB0 rfl rfl (hb hbytes d2) ?_
    refine XS.isub X0.here hexec rfl (hb hbytes d3) rfl ?_
    refine bipushV X0.here hexec rfl 31 (hb hbytes d4) (by decide) ?_
    refine iushr X0.here hexec rfl (hb hbytes d6) rfl ?_
    refine i2b X0.here hexec rfl (hb hbytes d7) rfl ?_
    exact Steps.refl _)
  have e0 : lo8 (ushr (Int32.ofNat B.slots.size - Int32.ofNat B.slots.size) 31) = 0 := by rw [Int32.sub_self]; decide
  rw [e0] at c3
  exact ⟨s₁, some (.int 0), _, _, _, X0, rfl, rfl, rfl, (fun h => by cases h), ⟨rfl, hh0⟩, fun fs hl => c3.trans (X0.ireturnOut hexec hret rfl (Or.inr (Or.inr (Or.inl rfl))) (hb hbytes d8) hl)⟩
end CodL
/-- the String at a is Latin-1 over a new byte[] (the heap's one new cell): the low bytes of the len chars of A from o on; every cell but a is kept -/
def Got (a : Addr) (D : Cell) (fV fC : Field) (A : Cell) (o len : Nat) (r : Option Value) (s u : State) : Prop := r = none ∧ ∃ D' V : Cell, Blank "java/lang/String" a D' u ∧ Same D D' [fV.slot, fC.slot] ∧ D'.slots[fV.slot]? = some (.ref s.heap.size) ∧ D'.slots[fC.slot]? = some (.int 0) ∧ Arr .byte s.heap.size V u ∧ V.vm = .none ∧ u.vm.findClass "[B" = some V.cls ∧ V.slots.size = len ∧ (∀ j, j < len → V.slots[j]? = some (.int (lo8 (cv A (o + j))))) ∧ (∀ (y : Addr) (c : Cell), y ≠ a → s.heap[y]? = some c → u.heap[y]? = some c) ∧ u.heap.size = s.heap.size + 1
theorem Got.mv {a : Addr} {D A : Cell} {fV fC : Field} {o len : Nat} : ∀ r (U U' V V' : State), U'.heap = U.heap → V.vm.Alike V'.vm → V'.heap = V.heap → Got a D fV fC A o len r U V → Got a D fV fC A o len r U' V' :=
  fun r U U' V V' h1 hal h2 ⟨e0, D', X, a1, a2, a3, a4, a5, a6, a7, a8, a9, a10, a11⟩ => ⟨e0, D', X, a1.mv hal h2, a2, by rw [h1]; exact a3, a4, by rw [h1]; exact a5.mv hal h2, a6, by rw [hal.findClass]; exact a7, a8, a9, by rw [h1, h2]; exact a10, by rw [h1, h2]; exact a11⟩
namespace New4
def yN : MethodName := ⟨"java/lang/String", "<init>", "([CIILjava/lang/Void;)V"⟩
abbrev yB : ByteArray := jdk_42_method_149_code
theorem d0 : decode yB 0 = .ok (.aload_n 0, 1) := by decide +kernel
theorem d1 : decode yB 1 = .ok (.invokespecial 1, 3) := by decide +kernel
theorem d4 : decode yB 4 = .ok (.iload_n 3, 1) := by decide +kernel
theorem d5 : decode yB 5 = .ok (.ifCond (.ne) 22, 3) := by decide +kernel
theorem d27 : decode yB 27 = .ok (.getstatic 38, 3) := by decide +kernel
theorem d30 : decode yB 30 = .ok (.ifCond (.eq) 28, 3) := by decide +kernel
theorem d33 : decode yB 33 = .ok (.aload_n 1, 1) := by decide +kernel
theorem d34 : decode yB 34 = .ok (.iload_n 2, 1) := by decide +kernel
theorem d35 : decode yB 35 = .ok (.iload_n 3, 1) := by decide +kernel
theorem d36 : decode yB 36 = .ok (.invokestatic 177, 3) := by decide +kernel
theorem d39 : decode yB 39 = .ok (.astore 5, 2) := by decide +kernel
theorem d41 : decode yB 41 = .ok (.aload_n 0, 1) := by decide +kernel
theorem d42 : decode yB 42 = .ok (.aload 5, 2) := by decide +kernel
theorem d44 : decode yB 44 = .ok (.iload_n 3, 1) := by decide +kernel
theorem d45 : decode yB 45 = .ok (.invokestatic 47, 3) := by decide +kernel
theorem d48 : decode yB 48 = .ok (.putfield 15, 3) := by decide +kernel
theorem d51 : decode yB 51 = .ok (.aload_n 0, 1) := by decide +kernel
theorem d52 : decode yB 52 = .ok (.aload 5, 2) := by decide +kernel
theorem d54 : decode yB 54 = .ok (.putfield 9, 3) := by decide +kernel
theorem d57 : decode yB 57 = .ok (.return_, 1) := by decide +kernel
def site : List Cond := [.fieldLink "java/lang/String" 38 "java/lang/String" "COMPACT_STRINGS" "Z", Cmp3.tab, CodL.tab, .laysFinal "java/lang/String" "java/lang/String" "value" "[B", .fieldLink "java/lang/String" 9 "java/lang/String" "value" "[B", .laysFinal "java/lang/String" "java/lang/String" "coder" "B", .fieldLink "java/lang/String" 15 "java/lang/String" "coder" "B"] ++ objW "java/lang/String" 1 ++ staticW "java/lang/String" 177 Cmp3.yN ++ staticW "java/lang/String" 47 CodL.yN
def tab : Cond := tabOf yN yB 6 none site
def P (a : Addr) (D : Cell) (fV fC : Field) (b : Addr) (A : Cell) (z : Int32) (o len : Nat) (args : Array Value) (s : State) : Prop := args = #[.ref a, .ref b, .int (Int32.ofNat o), .int (Int32.ofNat len), .null] ∧ Blank "java/lang/String" a D s ∧ Found "java/lang/String" "value" "[B" fV s ∧ Found "java/lang/String" "coder" "B" fC s ∧ Ch b A s ∧ StaticIs s "java/lang/String" "COMPACT_STRINGS" "Z" (.int z) ∧ ¬ z = 0 ∧ 0 < len ∧ o + len ≤ A.slots.size ∧ len ≤ 536870912 ∧ ∀ i, i < len → ¬ 255 < cv A (o + i)
def E (a : Addr) (D : Cell) (fV fC : Field) (A : Cell) (o len : Nat) (r : Option Value) (s u : State) : Prop := Got a D fV fC A o len r s u
/-- len > 0, no char of the range above 255: a Latin-1 String of their low bytes -/
theorem law (l : Launch) (a : Addr) (D : Cell) (fV fC : Field) (b : Addr) (A : Cell) (z : Int32) (o len : Nat) : Law l yN 5 4 2 35 yB 6 none site (P a D fV fC b A z o len) (E a D fV fC A o len) [⟨a, fC.slot⟩, ⟨a, fV.slot⟩] 1 len := by
  refine Law.of_walk (plainFor_of_name (by decide +kernel)) (by decide +kernel) (by decide +kernel) (by decide) (fun _ _ h => by rw [h.1]; rfl) (fun _ U U' hal hh h => ⟨h.1, h.2.1.mv hal hh, h.2.2.1.al hal, h.2.2.2.1.al hal, h.2.2.2.2.1.mv hal hh, h.2.2.2.2.2.1.there hal hh, h.2.2.2.2.2.2⟩) (fun r U U' V V' h1 hal h2 h => Got.mv r U U' V V' h1 hal h2 h) ?_
  intro p e s m args below meth c s₁ X0 hexec hbytes hml hret hlk hnm hown hh0 W hP
  obtain ⟨rfl, hB, f1, f2, hA, s1, hz, l0, l1, l2, hp⟩ := hP
  have a31 := hA.1.2.2.2
  have c1 : Steps p.tables e below (s₁.setTop (entryFrame m #[.ref a, .ref b, .int (Int32.ofNat o), .int (Int32.ofNat len), .null] 6)) (s₁.setTop (mkF m 0 #[.val (.ref a), .val (.ref b), .val (.int (Int32.ofNat o)), .val (.int (Int32.ofNat len)), .val .null, .unset] [])) := entry rfl
  have c2 : Steps p.tables e below (s₁.setTop (entryFrame m #[.ref a, .ref b, .int (Int32.ofNat o), .int (Int32.ofNat len), .null] 6)) (s₁.setTop (mkF m 1 #[.val (.ref a), .val (.ref b), .val (.int (Int32.ofNat o)), .val (.int (Int32.ofNat len)), .val .null, .unset] [.ref a])) := c1.trans (by
    refine XS.aloadN X0.here hexec rfl (hb hbytes d0) rfl rfl ?_
    exact Steps.refl _)
  obtain ⟨T3, X3, q3, st3⟩ := X0.oinit hexec hown (wks W (objW "java/lang/String" 1)) (g := (mkF m 1 #[.val (.ref a), .val (.ref b), .val (.int (Int32.ofNat o)), .val (.int (Int32.ofNat len)), .val .null, .unset] [.ref a])) rfl (by rw [hml]; rfl) (rest := []) rfl (hb hbytes d1) (W := 0) (by show 2 * 0 + 0 ≤ _; decide) (Nat.le_of_ble_eq_true rfl) (Nat.le_of_ble_eq_true rfl)
  have hh3 := q3.trans hh0
  have c4 : Steps p.tables e below (s₁.setTop (entryFrame m #[.ref a, .ref b, .int (Int32.ofNat o), .int (Int32.ofNat len), .null] 6)) (T3.setTop (mkF m 27 #[.val (.ref a), .val (.ref b), .val (.int (Int32.ofNat o)), .val (.int (Int32.ofNat len)), .val .null, .unset] [])) := (c2.trans (st3 _ (Steps.refl _))).trans (by
    refine XS.iloadN X3.here hexec rfl (hb hbytes d4) rfl ?_
    refine XS.ifYes X3.here hexec rfl (pc0 := 5) rfl (hb hbytes d5) rfl (i0_ne_t (nz32 (by omega) l0)) (by decide) rfl ?_
    exact Steps.refl _)
  obtain ⟨T5, X5, q5, st5⟩ := X3.sget hexec hown (wk W (.fieldLink "java/lang/String" 38 "java/lang/String" "COMPACT_STRINGS" "Z")) s1 (fun _ _ h => by rw [hh3]; exact h) (g := (mkF m 27 #[.val (.ref a), .val (.ref b), .val (.int (Int32.ofNat o)), .val (.int (Int32.ofNat len)), .val .null, .unset] [])) rfl (hb hbytes d27)
  have hh5 := q5.trans hh3
  have c6 : Steps p.tables e below (s₁.setTop (entryFrame m #[.ref a, .ref b, .int (Int32.ofNat o), .int (Int32.ofNat len), .null] 6)) (T5.setTop (mkF m 30 #[.val (.ref a), .val (.ref b), .val (.int (Int32.ofNat o)), .val (.int (Int32.ofNat len)), .val .null, .unset] [.int z])) := c4.trans (st5 _ (Steps.refl _))
  have c7 : Steps p.tables e below (s₁.setTop (entryFrame m #[.ref a, .ref b, .int (Int32.ofNat o), .int (Int32.ofNat len), .null] 6)) (T5.setTop (mkF m 36 #[.val (.ref a), .val (.ref b), .val (.int (Int32.ofNat o)), .val (.int (Int32.ofNat len)), .val .null, .unset] [.int (Int32.ofNat len), .int (Int32.ofNat o), .ref b])) := c6.trans (by
    refine XS.ifNo X5.here hexec rfl (hb hbytes d30) rfl (i0_eq_f hz) ?_
    refine XS.aloadN X5.here hexec rfl (hb hbytes d33) rfl rfl ?_
    refine XS.iloadN X5.here hexec rfl (hb hbytes d34) rfl ?_
    refine XS.iloadN X5.here hexec rfl (hb hbytes d35) rfl ?_
    exact Steps.refl _)
  obtain ⟨v8, T8, X8, E8, g8⟩ := X5.callS hexec (Cmp3.law l b A o len) hown (wks W (staticW "java/lang/String" 177 Cmp3.yN)) (wk W Cmp3.tab) (W := 0) (Nat.le_of_ble_eq_true rfl) (Nat.le_of_ble_eq_true rfl) (Nat.le_refl _) (by show 0 + len ≤ len; omega) (g := (mkF m 36 #[.val (.ref a), .val (.ref b), .val (.int (Int32.ofNat o)), .val (.int (Int32.ofNat len)), .val .null, .unset] [.int (Int32.ofNat len), .int (Int32.ofNat o), .ref b])) rfl (by rw [hml]; rfl) c7 (argsL := [.ref b, .int (Int32.ofNat o), .int (Int32.ofNat len)]) (rest := []) rfl rfl (by show 2 * 0 + 0 ≤ _; decide) (hb hbytes d36) (⟨rfl, hA.mv X5.warmed.alike hh5, l1, l2, hp⟩)
  obtain ⟨e8, z8⟩ := E8
  obtain ⟨rfl, N, n1, n2, n3, n4, n5, n6⟩ := NewArr.mv _ T5 s _ _ hh5.symm (Vm.Alike.refl _) rfl e8
  rw [hh5] at z8
  have hB1 := hB.keep X8.warmed.alike (n6 _ _ hB.1)
  have hne : s.heap.size ≠ a := (Nat.ne_of_lt (Array.getElem?_eq_some_iff.mp hB.1).1).symm
  have c9 : Steps p.tables e below (s₁.setTop (entryFrame m #[.ref a, .ref b, .int (Int32.ofNat o), .int (Int32.ofNat len), .null] 6)) (T8.setTop (mkF m 39 #[.val (.ref a), .val (.ref b), .val (.int (Int32.ofNat o)), .val (.int (Int32.ofNat len)), .val .null, .unset] [.ref s.heap.size])) := g8
  have c10 : Steps p.tables e below (s₁.setTop (entryFrame m #[.ref a, .ref b, .int (Int32.ofNat o), .int (Int32.ofNat len), .null] 6)) (T8.setTop (mkF m 45 #[.val (.ref a), .val (.ref b), .val (.int (Int32.ofNat o)), .val (.int (Int32.ofNat len)), .val .null, .val (.ref s.heap.size)] [.int (Int32.ofNat N.slots.size), .ref s.heap.size, .ref a])) := by
    have hc : Steps p.tables e below (s₁.setTop (entryFrame m #[.ref a, .ref b, .int (Int32.ofNat o), .int (Int32.ofNat len), .null] 6)) (T8.setTop (mkF m 45 #[.val (.ref a), .val (.ref b), .val (.int (Int32.ofNat o)), .val (.int (Int32.ofNat len)), .val .null, .val (.ref s.heap.size)] [.int (Int32.ofNat len), .ref s.heap.size, .ref a])) := c9.trans (by
      refine XS.astore X8.here hexec rfl (hb hbytes d39) rfl rfl rfl ?_
      refine XS.aloadN X8.here hexec rfl (hb hbytes d41) rfl rfl ?_
      refine XS.aload X8.here hexec rfl (hb hbytes d42) rfl rfl ?_
      refine XS.iloadN X8.here hexec rfl (hb hbytes d44) rfl ?_
      exact Steps.refl _)
    rw [n4]; exact hc
  obtain ⟨v11, T11, X11, E11, g11⟩ := X8.callS hexec (CodL.law l s.heap.size N) hown (wks W (staticW "java/lang/String" 47 CodL.yN)) (wk W CodL.tab) (W := 1) (Nat.le_of_ble_eq_true rfl) (Nat.le_of_ble_eq_true rfl) (Nat.le_refl _) (by show 0 + len + 0 ≤ len; omega) (g := (mkF m 45 #[.val (.ref a), .val (.ref b), .val (.int (Int32.ofNat o)), .val (.int (Int32.ofNat len)), .val .null, .val (.ref s.heap.size)] [.int (Int32.ofNat N.slots.size), .ref s.heap.size, .ref a])) rfl (by rw [hml]; rfl) c10 (argsL := [.ref s.heap.size, .int (Int32.ofNat N.slots.size)]) (rest := [.ref a]) rfl rfl (by show 2 * 0 + (1 + 0) ≤ _; decide) (hb hbytes d45) (⟨rfl, n1⟩)
  obtain ⟨rfl, q11⟩ := E11
  have hB11 := hB1.mv (X8.warmed.alike.symm.trans X11.warmed.alike) q11
  have c12 : Steps p.tables e below (s₁.setTop (entryFrame m #[.ref a, .ref b, .int (Int32.ofNat o), .int (Int32.ofNat len), .null] 6)) (T11.setTop (mkF m 48 #[.val (.ref a), .val (.ref b), .val (.int (Int32.ofNat o)), .val (.int (Int32.ofNat len)), .val .null, .val (.ref s.heap.size)] [.int 0, .ref a])) := g11
  obtain ⟨T13, X13, p13, bl13, sl13, st13⟩ := X11.finit hexec hown (wk W (.fieldLink "java/lang/String" 15 "java/lang/String" "coder" "B")) (Or.inr ⟨_, (wk W (.laysFinal "java/lang/String" "java/lang/String" "coder" "B"))⟩) (Or.inl ⟨rfl, hnm⟩) f2 (Or.inl rfl) hB11 (t := .byte) (by decide +kernel) rfl (g := (mkF m 48 #[.val (.ref a), .val (.ref b), .val (.int (Int32.ofNat o)), .val (.int (Int32.ofNat len)), .val .null, .val (.ref s.heap.size)] [.int 0, .ref a])) rfl (rest := []) rfl (hb hbytes d48)
  have c14 : Steps p.tables e below (s₁.setTop (entryFrame m #[.ref a, .ref b, .int (Int32.ofNat o), .int (Int32.ofNat len), .null] 6)) (T13.setTop (mkF m 54 #[.val (.ref a), .val (.ref b), .val (.int (Int32.ofNat o)), .val (.int (Int32.ofNat len)), .val .null, .val (.ref s.heap.size)] [.ref s.heap.size, .ref a])) := (c12.trans (st13 _ (Steps.refl _))).trans (by
    refine XS.aloadN X13.here hexec rfl (hb hbytes d51) rfl rfl ?_
    refine XS.aload X13.here hexec rfl (hb hbytes d52) rfl rfl ?_
    exact Steps.refl _)
  obtain ⟨T15, X15, p15, bl15, sl15, st15⟩ := X13.finit hexec hown (wk W (.fieldLink "java/lang/String" 9 "java/lang/String" "value" "[B")) (Or.inr ⟨_, (wk W (.laysFinal "java/lang/String" "java/lang/String" "value" "[B"))⟩) (Or.inl ⟨rfl, hnm⟩) f1 (Or.inl rfl) bl13 (t := (.array .byte)) (by decide +kernel) rfl (g := (mkF m 54 #[.val (.ref a), .val (.ref b), .val (.int (Int32.ofNat o)), .val (.int (Int32.ofNat len)), .val .null, .val (.ref s.heap.size)] [.ref s.heap.size, .ref a])) rfl (rest := []) rfl (hb hbytes d54)
  have c16 : Steps p.tables e below (s₁.setTop (entryFrame m #[.ref a, .ref b, .int (Int32.ofNat o), .int (Int32.ofNat len), .null] 6)) (T15.setTop (mkF m 57 #[.val (.ref a), .val (.ref b), .val (.int (Int32.ofNat o)), .val (.int (Int32.ofNat len)), .val .null, .val (.ref s.heap.size)] [])) := c14.trans (st15 _ (Steps.refl _))
  have ap := apart (Or.inr ⟨_, (wk W (.laysFinal "java/lang/String" "java/lang/String" "value" "[B"))⟩) (Or.inr ⟨_, (wk W (.laysFinal "java/lang/String" "java/lang/String" "coder" "B"))⟩) f1 f2 (t₁ := .array .byte) (t₂ := .byte) (by decide +kernel) (by decide +kernel) (by decide)
  have al := X8.warmed.alike.symm.trans X15.warmed.alike
  have n7 : T11.heap[s.heap.size]? = some N := by rw [q11]; exact n1.1
  exact ⟨T15, none, _, _, _, X15, by simp, rfl, by omega, (fun _ => rfl), ⟨rfl, _, N, bl15, ((Same.refl D _).set _ (by simp)).set _ (by simp), sl15, (Cell.slots_setSlot_ne _ ap).trans sl13, n1.keep al (p15.other hne (p13.other hne n7)), n2, by rw [al.findClass]; exact n3, n4, n5, fun y c h1 h2 => p15.other h1 (p13.other h1 (by rw [q11]; exact n6 y c h2)), by rw [p15.2.2, p13.2.2, q11]; exact z8⟩, fun fs hl => c16.trans (X15.returnOut hexec hret (hb hbytes d57) hl)⟩
end New4
namespace New1
def yN : MethodName := ⟨"java/lang/String", "<init>", "([C)V"⟩
abbrev yB : ByteArray := jdk_42_method_3_code
theorem d0 : decode yB 0 = .ok (.aload_n 0, 1) := by decide +kernel
theorem d1 : decode yB 1 = .ok (.aload_n 1, 1) := by decide +kernel
theorem d2 : decode yB 2 = .ok (.iconst 0, 1) := by decide +kernel
theorem d3 : decode yB 3 = .ok (.aload_n 1, 1) := by decide +kernel
theorem d4 : decode yB 4 = .ok (.arraylength, 1) := by decide +kernel
theorem d5 : decode yB 5 = .ok (.aconst_null, 1) := by decide +kernel
theorem d6 : decode yB 6 = .ok (.invokespecial 27, 3) := by decide +kernel
theorem d9 : decode yB 9 = .ok (.return_, 1) := by decide +kernel
def site : List Cond := [New4.tab] ++ initW "java/lang/String" 27 New4.yN
def tab : Cond := tabOf yN yB 2 none site
def P (a : Addr) (D : Cell) (fV fC : Field) (b : Addr) (A : Cell) (z : Int32) (args : Array Value) (s : State) : Prop := args = #[.ref a, .ref b] ∧ Blank "java/lang/String" a D s ∧ Found "java/lang/String" "value" "[B" fV s ∧ Found "java/lang/String" "coder" "B" fC s ∧ Ch b A s ∧ StaticIs s "java/lang/String" "COMPACT_STRINGS" "Z" (.int z) ∧ ¬ z = 0 ∧ 0 < A.slots.size ∧ A.slots.size ≤ 536870912 ∧ ∀ i, i < A.slots.size → ¬ 255 < cv A i
def E (a : Addr) (D : Cell) (fV fC : Field) (A : Cell) (r : Option Value) (s u : State) : Prop := Got a D fV fC A 0 A.slots.size r s u
/-- new String(chars), not empty, no char above 255: a Latin-1 String of their low bytes -/
theorem law (l : Launch) (a : Addr) (D : Cell) (fV fC : Field) (b : Addr) (A : Cell) (z : Int32) : Law l yN 2 1 3 52 yB 2 none site (P a D fV fC b A z) (E a D fV fC A) [⟨a, fC.slot⟩, ⟨a, fV.slot⟩] 1 A.slots.size := by
  refine Law.of_walk (plainFor_of_name (by decide +kernel)) (by decide +kernel) (by decide +kernel) (by decide) (fun _ _ h => by rw [h.1]; rfl) (fun _ U U' hal hh h => ⟨h.1, h.2.1.mv hal hh, h.2.2.1.al hal, h.2.2.2.1.al hal, h.2.2.2.2.1.mv hal hh, h.2.2.2.2.2.1.there hal hh, h.2.2.2.2.2.2⟩) (fun r U U' V V' h1 hal h2 h => Got.mv r U U' V V' h1 hal h2 h) ?_
  intro p e s m args below meth c s₁ X0 hexec hbytes hml hret hlk hnm hown hh0 W hP
  obtain ⟨rfl, hB, f1, f2, hA, s1, hz, l0, l2, hp⟩ := hP
  have c1 : Steps p.tables e below (s₁.setTop (entryFrame m #[.ref a, .ref b] 2)) (s₁.setTop (mkF m 0 #[.val (.ref a), .val (.ref b)] [])) := entry rfl
  have c2 : Steps p.tables e below (s₁.setTop (entryFrame m #[.ref a, .ref b] 2)) (s₁.setTop (mkF m 6 #[.val (.ref a), .val (.ref b)] [.null, .int (Int32.ofNat A.slots.size), .int 0, .ref b, .ref a])) := c1.trans (by
    refine XS.aloadN X0.here hexec rfl (hb hbytes d0) rfl rfl ?_
    refine XS.aloadN X0.here hexec rfl (hb hbytes d1) rfl rfl ?_
    refine iconstV X0.here hexec rfl 0 (hb hbytes d2) (by decide) ?_
    refine XS.aloadN X0.here hexec rfl (hb hbytes d3) rfl rfl ?_
    refine X0.alen hexec (hA.1.mv X0.warmed.alike hh0) rfl rfl (hb hbytes d4) ?_
    refine XS.aconstNull X0.here hexec rfl (hb hbytes d5) ?_
    exact Steps.refl _)
  obtain ⟨v3, T3, X3, E3, g3⟩ := X0.callN hexec (New4.law l a D fV fC b A z 0 A.slots.size) rfl hown (wks W (initW "java/lang/String" 27 New4.yN)) (W New4.tab (by simp only [site, List.mem_cons, List.mem_append, true_or, or_true])) (W := 0) (Nat.le_of_ble_eq_true rfl) (Nat.le_of_ble_eq_true rfl) (Nat.le_refl _) (by show 0 + A.slots.size ≤ A.slots.size; omega) (g := (mkF m 6 #[.val (.ref a), .val (.ref b)] [.null, .int (Int32.ofNat A.slots.size), .int (Int32.ofNat 0), .ref b, .ref a])) rfl (by rw [hml]; rfl) c2 (argsL := [.ref b, .int (Int32.ofNat 0), .int (Int32.ofNat A.slots.size), .null]) (rest := []) rfl rfl (by show 2 * 0 + 0 ≤ _; decide) (hb hbytes d6) (⟨rfl, hB.mv X0.warmed.alike hh0, f1.al X0.warmed.alike, f2.al X0.warmed.alike, hA.mv X0.warmed.alike hh0, s1.there X0.warmed.alike hh0, hz, l0, by omega, l2, fun i hi => by rw [Nat.zero_add]; exact hp i hi⟩)
  have e0 := Got.mv _ s₁ s _ _ hh0.symm (Vm.Alike.refl _) rfl E3
  obtain rfl := e0.1
  have c4 : Steps p.tables e below (s₁.setTop (entryFrame m #[.ref a, .ref b] 2)) (T3.setTop (mkF m 9 #[.val (.ref a), .val (.ref b)] [])) := g3
  exact ⟨T3, none, _, _, _, X3, by simp, rfl, by omega, (fun _ => rfl), e0, fun fs hl => c4.trans (X3.returnOut hexec hret (hb hbytes d9) hl)⟩
theorem pays {l : Launch} {R : Room} {p : Program} {e : Env} {below : List Frame} {s : State} {sargs : Array Value} {len W : Nat} (a : Addr) (D : Cell) (fV fC : Field) (b : Addr) (A : Cell) (z : Int32) (htab : tab.before sargs s = true) (hfr : 4 ≤ R.frames) (hlo : W + 65 ≤ R.locals) :
    Back l R p e below s sargs yN len W (fun A₁ a₁ => A₁.cells + 1 ≤ R.cells ∧ A₁.slots + A.slots.size ≤ R.slots ∧ P a D fV fC b A z a₁ A₁.U) (fun A₁ _ v₁ B₁ => E a D fV fC A v₁ A₁.U B₁.U ∧ B₁.locs = A₁.locs ++ [⟨a, fC.slot⟩, ⟨a, fV.slot⟩] ∧ B₁.cells = A₁.cells + 1 ∧ B₁.slots = A₁.slots + A.slots.size) :=
  (law l a D fV fC b A z).pays htab hfr (by omega)
end New1
/-- the byte, read back as charAt reads it, is the char -/
theorem lo8_mask {x : Int32} (h0 : ¬ x < 0) (h1 : ¬ 255 < x) : lo8 x &&& 255 = x := by
  have t : ∀ k : Fin 256, lo8 (Int32.ofNat k.val) &&& 255 = Int32.ofNat k.val := by decide +kernel
  rw [Int32.lt_iff_toInt_lt] at h0 h1
  have e0 : (0 : Int32).toInt = 0 := rfl
  have e1 : (255 : Int32).toInt = 255 := rfl
  obtain ⟨k, hk⟩ : ∃ k : Nat, x.toInt = k := ⟨x.toInt.toNat, by omega⟩
  have hx : x = Int32.ofNat k := Int32.toInt_inj.mp (by rw [hk, Int32.toInt_ofNat_small (by omega)])
  rw [hx]
  exact t ⟨k, by omega⟩
end StrChars
namespace StrChars.Road
open Jvm Sem ClassFile Op Lib Jvm.Stand Jvm.Free Jvm.Free.XT
open Jvm.Lib.Cold (StaticIs)
abbrev ST : String := "java/lang/String"
/-- every table word that New1's law asks, flat -/
abbrev words : List Jvm.Cond := [.code New1.yN New1.yB 2 none, .initialized ST, .methodLink ST 27 New4.yN, .instanceMethod New4.yN,
  .code New4.yN New4.yB 6 none, .fieldLink ST 38 ST "COMPACT_STRINGS" "Z", .laysFinal ST ST "value" "[B", .fieldLink ST 9 ST "value" "[B", .laysFinal ST ST "coder" "B", .fieldLink ST 15 ST "coder" "B",
  .methodLink ST 1 Lib.objectInit, .instanceMethod Lib.objectInit, .code Lib.objectInit ⟨#[0xb1]⟩ 1 none, .methodLink ST 177 Cmp3.yN, .static Cmp3.yN, .methodLink ST 47 CodL.yN, .static CodL.yN,
  .code Cmp3.yN Cmp3.yB 6 (some (.array .byte)), .initialized U16, .arrayClass .byte, .methodLink U16 115 Cmp5.yN, .static Cmp5.yN, .code Cmp5.yN Cmp5.yB 7 (some .int), .code CodL.yN CodL.yB 2 (some .byte)]
theorem tab_of {a : Array Value} {s : State} (h : ∀ w ∈ words, w.before a s = true) : New1.tab.before a s = true := by
  have h5 : Cmp5.tab.before a s = true := unparts (wk h (.code Cmp5.yN Cmp5.yB 7 (some .int))) (wks h (.initialized Cmp5.yN.cls :: Cmp5.site))
  have hc : CodL.tab.before a s = true := unparts (wk h (.code CodL.yN CodL.yB 2 (some .byte))) (wks h (.initialized CodL.yN.cls :: CodL.site))
  have q5 : ∀ w ∈ Cmp5.tab :: words, w.before a s = true := fun w hw => (List.mem_cons.mp hw).elim (fun e => e ▸ h5) (h w)
  have h3 : Cmp3.tab.before a s = true := unparts (wk q5 (.code Cmp3.yN Cmp3.yB 6 (some (.array .byte)))) (wks q5 (.initialized Cmp3.yN.cls :: Cmp3.site))
  have q3 : ∀ w ∈ Cmp3.tab :: CodL.tab :: words, w.before a s = true := fun w hw => (List.mem_cons.mp hw).elim (fun e => e ▸ h3) fun hw => (List.mem_cons.mp hw).elim (fun e => e ▸ hc) (h w)
  have h4 : New4.tab.before a s = true := unparts (wk q3 (.code New4.yN New4.yB 6 none)) (wks q3 (.initialized New4.yN.cls :: New4.site))
  have q4 : ∀ w ∈ New4.tab :: words, w.before a s = true := fun w hw => (List.mem_cons.mp hw).elim (fun e => e ▸ h4) (h w)
  exact unparts (wk q4 (.code New1.yN New1.yB 2 none)) (wks q4 (.initialized New1.yN.cls :: New1.site))
/-- the words ride from the start Z to the walk's own state -/
theorem moved {Z s : State} {a0 args : Array Value} (hZ : Z.Warmed39 s.vm) (hw : ∀ d ∈ words, d.before a0 Z = true) : ∀ d ∈ words, d.before args s = true := fun d hd => by
  have q := hw d hd
  have t : ∀ d ∈ words, d = .arrayClass .byte ∨ (d.onTables && d.keepsFace) = true := by decide +kernel
  rcases t d hd with rfl | t
  · exact RoadKit.mvA hZ q
  · exact RoadKit.mv hZ q t
/-- WHAT COMES BACK, over the tables of the start Z: h the heap at the call, h' behind it -/
def Q (Z : State) (x : Addr) (A : Cell) (h : Heap) (v : Option Value) (h' : Heap) (L : List Loc) : Prop := v = none ∧ (∀ y ∈ L, y.base = x) ∧ RoadKit.Keep h h' [x] ∧ h'.size = h.size + 1 ∧ RoadKit.Exa Z h' x ST ∧ RoadKit.Fld Z h' x ST "value" "[B" (.ref h.size) ∧ RoadKit.Fld Z h' x ST "coder" "B" (.int 0) ∧
  (∃ V : Cell, RoadKit.Arr Z h' h.size V .byte ∧ V.vm = .none ∧ Z.vm.findClass "[B" = some V.cls ∧ V.slots.size = A.slots.size ∧ ∀ j, j < A.slots.size → V.slots[j]? = some (.int (lo8 (cv A j)))) ∧
  ∀ (O n d : String) (w : Value), RoadKit.Fld Z h x O n d w → RoadKit.slotOf Z O n d ≠ RoadKit.slotOf Z ST "value" "[B" → RoadKit.slotOf Z O n d ≠ RoadKit.slotOf Z ST "coder" "B" → RoadKit.Fld Z h' x O n d w
/-- **new String(chars) AT A CALL, IN THE ROAD'S FORM**: for specialBack behind newO: x the fresh String, b the char[] with the cell A -/
theorem back {p : Program} {l : Launch} {e : Env} {R : Room} {s : State} {args : Array Value} {below : List Frame} {len W : Nat} {Z : State} {a0 : Array Value} {h : Heap} (hZ : Z.Warmed39 s.vm) (hw : ∀ d ∈ words, d.before a0 Z = true) {kI : Nat} (wi : (Jvm.Cond.instantiable ST kI).before a0 Z = true)
    {x b : Addr} {A : Cell} {z : Int32} {v0 c0 : Value} (E : RoadKit.Exa Z h x ST) (V : RoadKit.Fld Z h x ST "value" "[B" v0) (C : RoadKit.Fld Z h x ST "coder" "B" c0) (K : RoadKit.Arr Z h b A .char) (hty : Typed .char A) (S : RoadKit.Sta Z h ST "COMPACT_STRINGS" "Z" (.int z)) (hz : ¬ z = 0)
    (l0 : 0 < A.slots.size) (l2 : A.slots.size ≤ 536870912) (hp : ∀ i, i < A.slots.size → ¬ 255 < cv A i) (hfr : 4 ≤ R.frames) (hlo : W + 65 ≤ R.locals) :
    Back l R p e below s args New1.yN len W (fun P a => a = #[.ref x, .ref b] ∧ P.U.heap = h ∧ P.cells + 1 ≤ R.cells ∧ P.slots + A.slots.size ≤ R.slots)
      (fun P _ v B => ∃ L, Q Z x A h v B.U.heap L ∧ B.locs = P.locs ++ L ∧ B.cells = P.cells + 1 ∧ B.slots = P.slots + A.slots.size) := by
  intro m meth c P g ig mk a X hg hsize hdg hW hn hp'
  obtain ⟨rfl, rfl, r1, r2⟩ := hp'
  have al : Z.vm.Alike P.U.vm := hZ.alike.trans X.warmed.alike
  obtain ⟨D, cfV, kV, iV, fV, hD, gV, stV, knV, obV, asV, slV⟩ := id V
  obtain ⟨D', cfC, kC, iC, fC, hD', gC, stC, -, -, asC, slC⟩ := id C
  cases hD.symm.trans hD'
  obtain ⟨D2, kD, e1, e2, e3, e4, e5⟩ := id E
  cases hD.symm.trans e1
  obtain ⟨c2, k2, i1, i2, i3, -⟩ := Cond.instantiable_spec wi
  cases e2.symm.trans i1
  cases e3.symm.trans i2
  obtain ⟨kU, u1, u2⟩ := al.2.2 _ _ e3
  have hB : Blank ST x D P.U := ⟨hD, ⟨knV, fun q hq => by rw [hq] at obV; cases obV⟩, by rw [al.findClass]; exact e2, kU, u1, by rw [u2]; exact i3, by rw [u2]; exact e5 i3⟩
  have F1 : Found ST "value" "[B" fV P.U := ⟨SBG.found_only al ⟨cfV, kV, iV, gV⟩, stV⟩
  have F2 : Found ST "coder" "B" fC P.U := ⟨SBG.found_only al ⟨cfC, kC, iC, gC⟩, stC⟩
  have hA : Ch b A P.U := ⟨⟨K.1, State.isArrayOf_alike al K.2.1, K.2.2, by omega⟩, hty⟩
  have hS : StaticIs P.U ST "COMPACT_STRINGS" "Z" (.int z) := by
    obtain ⟨cfS, iS, kS, fS, st, cS, t1, t2, t3, t4, t5, t6, t7⟩ := S
    exact StaticIs.there (s := { Z with heap := P.U.heap }) ⟨cfS, iS, kS, fS, st, cS, t1, t2, t3, t4, t5, (fun q => by rw [q] at t6; cases t6), t7⟩ al rfl
  obtain ⟨v, B, X', ⟨⟨hv, E', V', q1, q2, q3, q4, q5, q6, q7, q8, q9, q10, q11⟩, hl, hc, hs⟩, st⟩ := New1.pays x D fV fC b A z (tab_of (moved hZ hw)) hfr hlo m meth c P g ig mk _ X hg hsize hdg hW hn ⟨r1, r2, rfl, hB, F1, F2, hA, hS, hz, l0, l2, hp⟩
  have al' : Z.vm.Alike B.U.vm := hZ.alike.trans X'.warmed.alike
  have hsz : E'.slots.size = D.slots.size := by
    obtain ⟨-, -, -, kB, w1, w2, w3⟩ := q1
    obtain ⟨kB', y1, y2⟩ := al'.2.2 _ _ e3
    rw [q2.2.1] at w1
    cases w1.symm.trans y1
    rw [w3, e5 i3, y2]
  refine ⟨v, B, X', ⟨_, ⟨hv, ?_, ⟨by omega, fun y cy hy hn' => q10 y cy (by simpa using hn') hy, fun y cy hy => ?_⟩, q11, ⟨E', _, q1.1, by rw [q2.2.1]; exact e2, by rw [q2.2.1]; exact e3, by rw [q2.1]; exact obV, fun _ => by rw [hsz]; exact e5 i3⟩,
    ⟨E', cfV, kV, iV, fV, q1.1, gV, stV, by rw [q2.1]; exact knV, by rw [q2.1]; exact obV, by rw [q2.2.1]; exact asV, q3⟩, ⟨E', cfC, kC, iC, fC, q1.1, gC, stC, by rw [q2.1]; exact knV, by rw [q2.1]; exact obV, by rw [q2.2.1]; exact asC, q4⟩,
    ⟨V', ⟨q5.1, State.isArrayOf_alike al'.symm q5.2.1, q5.2.2.1⟩, q6, by rw [← al'.findClass]; exact q7, q8, fun j hj => by have := q9 j hj; rwa [Nat.zero_add] at this⟩, fun O n d w F n1 n2 => ?_⟩, hl, hc, hs⟩, st⟩
  · intro y hy
    simp only [List.mem_cons, List.not_mem_nil, or_false] at hy
    rcases hy with rfl | rfl <;> rfl
  · by_cases q : y = x
    · subst q
      cases hD.symm.trans hy
      exact ⟨E', q1.1, q2.2.1, q2.1, hsz⟩
    · exact ⟨cy, q10 y cy q hy, rfl, rfl, rfl⟩
  · obtain ⟨D3, cf, k, i, f, g1, g2, g3, g4, g5, g6, g7⟩ := F
    cases hD.symm.trans g1
    simp only [RoadKit.slotOf, g2, gV, gC, Option.map_some, Option.getD_some] at n1 n2
    exact ⟨E', cf, k, i, f, q1.1, g2, g3, by rw [q2.1]; exact g4, by rw [q2.1]; exact g5, by rw [q2.2.1]; exact g6, by rw [q2.2.2 f.slot (by simp [n1, n2])]; exact g7⟩
end StrChars.Road
namespace StrChars.Road
open Jvm Sem ClassFile Op Lib Jvm.Stand Jvm.Free Jvm.Free.XT
/-- WHAT COMES BACK, the byte[] as a list of values -/
def QA (Z : State) (x : Addr) (zn : Int32) (cs : List Int32) (h : Heap) (v : Option Value) (h' : Heap) (L : List Loc) : Prop := v = none ∧ (∀ y ∈ L, y.base = x) ∧ RoadKit.Keep h h' [x] ∧ h'.size = h.size + 1 ∧ RoadKit.Exa Z h' x ST ∧ RoadKit.Fld Z h' x ST "value" "[B" (.ref h.size) ∧ RoadKit.Fld Z h' x ST "coder" "B" (.int 0) ∧
  (∃ kb, Z.vm.findClass "[B" = some kb ∧ RoadKit.Arv Z h' h.size kb .byte zn (cs.map fun c => .int (lo8 c)) (.int 0)) ∧
  ∀ (O n d : String) (w : Value), RoadKit.Fld Z h x O n d w → RoadKit.slotOf Z O n d ≠ RoadKit.slotOf Z ST "value" "[B" → RoadKit.slotOf Z O n d ≠ RoadKit.slotOf Z ST "coder" "B" → RoadKit.Fld Z h' x O n d w
/-- **new String(chars) AT A CALL, THE ARRAYS AS LISTS**: the char[] at b holds cs, not empty, no char above 255 -/
theorem backArv {p : Program} {l : Launch} {e : Env} {R : Room} {s : State} {args : Array Value} {below : List Frame} {len W : Nat} {Z : State} {a0 : Array Value} {h : Heap} (hZ : Z.Warmed39 s.vm) (hw : ∀ d ∈ words, d.before a0 Z = true) {kI : Nat} (wi : (Jvm.Cond.instantiable ST kI).before a0 Z = true)
    {x b : Addr} {k : ClassId} {zn z : Int32} {cs : List Int32} {dv v0 c0 : Value} (E : RoadKit.Exa Z h x ST) (V : RoadKit.Fld Z h x ST "value" "[B" v0) (C : RoadKit.Fld Z h x ST "coder" "B" c0) (K : RoadKit.Arv Z h b k .char zn (cs.map Value.int) dv) (S : RoadKit.Sta Z h ST "COMPACT_STRINGS" "Z" (.int z)) (hz : ¬ z = 0)
    (hlen : zn.toNatClampNeg = cs.length) (h0 : 0 < cs.length) (hbig : cs.length ≤ 536870912) (hall : ∀ c ∈ cs, ¬ 255 < c) (hfr : 4 ≤ R.frames) (hlo : W + 65 ≤ R.locals) :
    Back l R p e below s args New1.yN len W (fun P a => a = #[.ref x, .ref b] ∧ P.U.heap = h ∧ P.cells + 1 ≤ R.cells ∧ P.slots + cs.length ≤ R.slots)
      (fun P _ v B => ∃ L, QA Z x zn cs h v B.U.heap L ∧ B.locs = P.locs ++ L ∧ B.cells = P.cells + 1 ∧ B.slots = P.slots + cs.length) := by
  obtain ⟨A, K1, K2, K3, K4, K5, K6⟩ := K
  have e : A.slots.size = cs.length := K3.trans hlen
  have hat : ∀ (i : Nat) (hi : i < cs.length), A.slots[i]? = some (.int cs[i]) := fun i hi => by rw [K5 i (by omega)]; simp [List.getD_eq_getElem?_getD, hi]
  have hcv : ∀ (i : Nat) (hi : i < cs.length), cv A i = cs[i] := fun i hi => by unfold cv; rw [hat i hi]
  have hty : Typed .char A := fun i v hv => by
    have hi : i < A.slots.size := (Array.getElem?_eq_some_iff.mp hv).1
    have q := K5 i hi
    rw [hv] at q
    rw [Option.some.inj q]
    exact K6 i hi
  refine Back.mono (back hZ hw wi E V C K1 hty S hz (by omega) (by omega) (fun i hi => by rw [hcv i (by omega)]; exact hall _ (List.getElem_mem _)) hfr hlo) (fun P a hp => ⟨hp.1, hp.2.1, hp.2.2.1, by rw [e]; exact hp.2.2.2⟩) (fun P a v B hp hq => ?_)
  obtain ⟨L, ⟨q1, q2, q3, q4, q5, q6, q7, ⟨V', v1, v2, v3, v4, v5⟩, q9⟩, hl, hc, hs⟩ := hq
  refine ⟨L, ⟨q1, q2, q3, q4, q5, q6, q7, ⟨V'.cls, v3, V', v1, rfl, by rw [v4, e, hlen], K4, fun i hi => ?_, fun i hi => ?_⟩, q9⟩, hl, hc, by rw [hs, e]⟩
  · have hi' : i < cs.length := by omega
    rw [v5 i (by omega), hcv i hi']; simp [List.getD_eq_getElem?_getD, hi']
  · have hi' : i < cs.length := by omega
    simp only [List.getD_eq_getElem?_getD, List.getElem?_map, List.getElem?_eq_getElem hi', Option.map_some, Option.getD_some]
    exact fits_lo8 _
end StrChars.Road
namespace StrChars.Road
open Jvm Sem ClassFile Op Lib Jvm.Stand Jvm.Free Jvm.Free.XT
/-- WHAT COMES BACK, in the writer's own shape -/
def QV (Z : State) (x : Addr) (N : Int32) (bs : List Int32) (h : Heap) (n0 : Nat) (v : Option Value) (h' : Heap) (L : List Loc) : Prop := v = none ∧ RoadKit.Fr n0 L ∧ RoadKit.Keep h h' [x] ∧ RoadKit.Exa Z h' x ST ∧ RoadKit.Fld Z h' x ST "coder" "B" (.int 0) ∧
  ∃ (t : Addr) (kb : ClassId), n0 ≤ t ∧ h.size ≤ t ∧ ¬ t = x ∧ RoadKit.Fld Z h' x ST "value" "[B" (.ref t) ∧ RoadKit.Arv Z h' t kb .byte N (bs.map Value.int) (.int 0)
/-- **new String(chars) AT A CALL, FOR THE WRITER**: a char[] of n known ints, each 0 to 255 -/
theorem backV {p : Program} {l : Launch} {e : Env} {R : Room} {s : State} {args : Array Value} {below : List Frame} {len W : Nat} {Z : State} {a0 : Array Value} {h : Heap} (hZ : Z.Warmed39 s.vm) (hw : ∀ d ∈ words, d.before a0 Z = true) {kI : Nat} (wi : (Jvm.Cond.instantiable ST kI).before a0 Z = true)
    {x b : Addr} {kC : ClassId} {cs bs : List Int32} {d v0 c0 : Value} {z N : Int32} {n n0 : Nat} (hx0 : n0 ≤ x) (hh0 : n0 ≤ h.size) (E : RoadKit.Exa Z h x ST) (V : RoadKit.Fld Z h x ST "value" "[B" v0) (C : RoadKit.Fld Z h x ST "coder" "B" c0) (K : RoadKit.Arv Z h b kC .char N (cs.map Value.int) d) (S : RoadKit.Sta Z h ST "COMPACT_STRINGS" "Z" (.int z)) (hz : ¬ z = 0)
    (hn : cs.length = n) (hN : N = Int32.ofNat n) (l0 : 0 < n) (l2 : n ≤ 4000) (hp : ∀ c ∈ cs, ¬ c < 0 ∧ ¬ (255 : Int32) < c) (hb : bs = cs.map (fun c => c.toInt8.toInt32)) (hfr : 4 ≤ R.frames) (hlo : W + 65 ≤ R.locals) :
    Back l R p e below s args (⟨"java/lang/String", "<init>", "([C)V"⟩ : MethodName) len W (fun P a => a = #[.ref x, .ref b] ∧ P.U.heap = h ∧ P.cells + 1 ≤ R.cells ∧ P.slots + n ≤ R.slots)
      (fun P _ v B => ∃ L, QV Z x N bs h n0 v B.U.heap L ∧ B.locs = P.locs ++ L ∧ B.cells = P.cells + 1 ∧ B.slots = P.slots + n) := by
  subst hn hN hb
  refine Back.mono (backArv hZ hw wi E V C K S hz (n32 (by omega)) l0 (by omega) (fun c hc => (hp c hc).2) hfr hlo) (fun P a hp => hp) (fun P a v B hp hq => ?_)
  obtain ⟨L, ⟨q1, q2, q3, q4, q5, q6, q7, ⟨kb, v1, v2⟩, q9⟩, hl, hc, hs⟩ := hq
  exact ⟨L, ⟨q1, fun y hy => by rw [q2 y hy]; exact hx0, q3, q5, q7, h.size, kb, hh0, Nat.le_refl _, Nat.ne_of_gt E.lt, q6, by rw [List.map_map]; exact v2⟩, hl, hc, hs⟩
end StrChars.Road
namespace StrChars
open Jvm Sem ClassFile Op Lib Jvm.Stand Jvm.Free.XT Jvm.Free.ALB Jvm.Free.JM Jvm.Free
open Jvm.Lib.Cold (StaticIs)
def hi8 (x : Int32) : Int32 := lo8 (x >>> ((8 : Int32) &&& 31))
/-- what StringUTF16.getChar makes of two bytes -/
def pairCh (u v : Int32) : Int32 := (((u &&& 255) <<< ((0 : Int32) &&& 31)) ||| ((v &&& 255) <<< ((8 : Int32) &&& 31))).toUInt32.toUInt16.toUInt32.toInt32
theorem shr0 (c : Int32) : c >>> ((0 : Int32) &&& 31) = c := by
  have e : ((0 : Int32) &&& 31) = 0 := by decide
  rw [e]
  apply Int32.toBitVec_inj.mp
  rw [Int32.toBitVec_shiftRight]
  have e1 : ((0 : Int32).toBitVec.smod 32) = 0#32 := by decide
  rw [e1, BitVec.sshiftRight_eq']
  exact BitVec.sshiftRight_zero
theorem lo8_and (x : Int32) : (lo8 x &&& 255).toBitVec.toNat = x.toBitVec.toNat % 256 := by
  have h : (lo8 x).toBitVec = (x.toBitVec.signExtend 8).signExtend 32 := by rw [lo8, Int8.toBitVec_toInt32, Int32.toBitVec_toInt8]
  rw [Int32.toBitVec_and, BitVec.toNat_and, h]
  have e : ((x.toBitVec.signExtend 8).signExtend 32).toNat % 256 = x.toBitVec.toNat % 256 := by
    rw [BitVec.toNat_signExtend]
    have hlt := x.toBitVec.isLt
    simp only [BitVec.toNat_setWidth, BitVec.toNat_signExtend]
    split <;> split <;> omega
  rw [← e]
  exact Nat.and_two_pow_sub_one_eq_mod _ 8
theorem pair_says {c : Int32} (h0 : ¬ c < 0) (h1 : ¬ 65535 < c) : pairCh (lo8 c) (hi8 c) = c := by
  rw [Int32.lt_iff_toInt_lt] at h0 h1
  have e0 : (0 : Int32).toInt = 0 := rfl
  have e1 : (65535 : Int32).toInt = 65535 := rfl
  have hc : c.toInt = c.toBitVec.toNat := by
    have := c.toBitVec.isLt
    have e : c.toInt = c.toBitVec.toInt := rfl
    rw [e] at h0 h1
    rw [e]
    rw [BitVec.toInt_eq_toNat_cond] at h0 h1 ⊢
    split at h0 <;> split <;> omega
  have hn : c.toBitVec.toNat < 65536 := by omega
  have a1 := lo8_and c
  have a2 : (hi8 c &&& 255).toBitVec.toNat = c.toBitVec.toNat / 256 := by
    rw [hi8, lo8_and]
    have e : ((8 : Int32) &&& 31) = 8 := by decide
    rw [e, Int32.toBitVec_shiftRight]
    have e2 : ((8 : Int32).toBitVec.smod 32) = 8#32 := by decide
    rw [e2, BitVec.sshiftRight_eq', BitVec.toNat_sshiftRight_of_msb_false (by rw [BitVec.msb_eq_false_iff_two_mul_lt]; omega)]
    show c.toBitVec.toNat >>> 8 % 256 = _
    rw [Nat.shiftRight_eq_div_pow]
    omega
  unfold pairCh
  apply Int32.toBitVec_inj.mp
  apply BitVec.eq_of_toNat_eq
  have f0 : ((0 : Int32) &&& 31) = 0 := by decide
  have f8 : ((8 : Int32) &&& 31) = 8 := by decide
  rw [f0, f8]
  have g : (((lo8 c &&& 255) <<< (0 : Int32)) ||| ((hi8 c &&& 255) <<< (8 : Int32))).toBitVec.toNat = c.toBitVec.toNat := by
    rw [Int32.toBitVec_or, Int32.toBitVec_shiftLeft, Int32.toBitVec_shiftLeft]
    have s0 : ((0 : Int32).toBitVec.smod 32) = 0#32 := by decide
    have s8 : ((8 : Int32).toBitVec.smod 32) = 8#32 := by decide
    rw [s0, s8, BitVec.toNat_or]
    simp only [BitVec.shiftLeft_eq', BitVec.toNat_shiftLeft, a1, a2]
    show (c.toBitVec.toNat % 256) <<< 0 % 2 ^ 32 ||| (c.toBitVec.toNat / 256) <<< 8 % 2 ^ 32 = _
    rw [Nat.shiftLeft_zero, Nat.mod_eq_of_lt (show c.toBitVec.toNat % 256 < 2 ^ 32 by omega), Nat.mod_eq_of_lt (show (c.toBitVec.toNat / 256) <<< 8 < 2 ^ 32 by rw [Nat.shiftLeft_eq]; omega), Nat.or_comm, ← Nat.shiftLeft_add_eq_or_of_lt (by omega), Nat.shiftLeft_eq]
    omega
  show BitVec.toNat (((((lo8 c &&& 255) <<< (0 : Int32)) ||| ((hi8 c &&& 255) <<< (8 : Int32))).toBitVec.setWidth 16).setWidth 32) = _
  rw [BitVec.toNat_setWidth, BitVec.toNat_setWidth, g]
  omega
end StrChars
namespace StrChars
open Jvm Sem ClassFile Op Lib Jvm.Stand Jvm.Free.XT Jvm.Free.ALB Jvm.Free.JM Jvm.Free
open Jvm.Lib.Cold (StaticIs)
theorem shr1 {n : Nat} (h : 2 * n < 2 ^ 31) : Int32.ofNat (2 * n) >>> ((1 : Int32) &&& 31) = Int32.ofNat n := by
  have e : ((1 : Int32) &&& 31) = 1 := by decide
  rw [e]
  apply Int32.toBitVec_inj.mp
  rw [Int32.toBitVec_shiftRight]
  have e1 : ((1 : Int32).toBitVec.smod 32) = 1#32 := by decide
  have hm : (BitVec.ofNat 32 (2 * n)).toNat = 2 * n := by rw [BitVec.toNat_ofNat, Nat.mod_eq_of_lt (by omega)]
  rw [e1, BitVec.sshiftRight_eq']
  apply BitVec.eq_of_toNat_eq
  show ((BitVec.ofNat 32 (2 * n)).sshiftRight 1).toNat = (BitVec.ofNat 32 n).toNat
  rw [BitVec.toNat_sshiftRight_of_msb_false (by rw [BitVec.msb_eq_false_iff_two_mul_lt, hm]; omega), hm, BitVec.toNat_ofNat, Nat.shiftRight_eq_div_pow]
  omega
/-- charAt's cast of a byte read back -/
def chr8 (u : Int32) : Int32 := (u &&& 255).toUInt32.toUInt16.toUInt32.toInt32
theorem chr8_lo8 {c : Int32} (h0 : ¬ c < 0) (h1 : ¬ 255 < c) : chr8 (lo8 c) = c := by
  have t : ∀ k : Fin 256, (Int32.ofNat k.val).toUInt32.toUInt16.toUInt32.toInt32 = Int32.ofNat k.val := by decide +kernel
  unfold chr8
  rw [lo8_mask h0 h1]
  rw [Int32.lt_iff_toInt_lt] at h0 h1
  have e0 : (0 : Int32).toInt = 0 := rfl
  have e1 : (255 : Int32).toInt = 255 := rfl
  obtain ⟨k, hk⟩ : ∃ k : Nat, c.toInt = k := ⟨c.toInt.toNat, by omega⟩
  have hx : c = Int32.ofNat k := Int32.toInt_inj.mp (by rw [hk, Int32.toInt_ofNat_small (by omega)])
  rw [hx]
  exact t ⟨k, by omega⟩
theorem narrow_ch {c : Int32} (h0 : ¬ c < 0) (h1 : ¬ 65535 < c) : narrow .char (.int c) = .int c := by
  have q : narrow .char (.int (pairCh (lo8 c) (hi8 c))) = .int (pairCh (lo8 c) (hi8 c)) := narrow_c _
  rwa [pair_says h0 h1] at q
/-- the array's cell V codes the n chars f 0 .. f (n - 1) by the coder cd, as the JDK does: coder 1 just where some char is above 255 -/
def Cod (cd : Int32) (n : Nat) (f : Nat → Int32) (V : Cell) : Prop := (cd = 0 ∧ V.slots.size = n ∧ ∀ j, j < n → V.slots[j]? = some (.int (lo8 (f j))) ∧ ¬ 255 < f j) ∨ (cd = 1 ∧ V.slots.size = 2 * n ∧ (∀ j, j < n → V.slots[2 * j]? = some (.int (lo8 (f j))) ∧ V.slots[2 * j + 1]? = some (.int (hi8 (f j)))) ∧ ∃ j, j < n ∧ 255 < f j)
/-- **x is a String of the n chars f 0 .. f (n - 1)**, Latin-1 or UTF-16; its array at t has the cell V -/
def Txt (x t : Addr) (V : Cell) (cd : Int32) (n : Nat) (f : Nat → Int32) (U : State) : Prop := Exact "java/lang/String" x U ∧ Has x "java/lang/String" "value" "[B" (.ref t) U ∧ Has x "java/lang/String" "coder" "B" (.int cd) U ∧ XT.Arr .byte t V U ∧ Cod cd n f V ∧ ∀ j, j < n → ¬ f j < 0 ∧ ¬ 65535 < f j
theorem Txt.mv {x t : Addr} {V : Cell} {cd : Int32} {n : Nat} {f : Nat → Int32} {U U' : State} (h : Txt x t V cd n f U) (hal : U.vm.Alike U'.vm) (hh : U'.heap = U.heap) : Txt x t V cd n f U' := ⟨h.1.mv hal hh, h.2.1.mv hal hh, h.2.2.1.mv hal hh, h.2.2.2.1.mv hal hh, h.2.2.2.2⟩
end StrChars
namespace StrChars.Road
open Jvm Sem ClassFile Op Lib Jvm.Stand Jvm.Free Jvm.Free.XT
open Jvm.Lib.Cold (StaticIs)
theorem consq {a : Array Value} {s : State} {c : Jvm.Cond} {L : List Jvm.Cond} (h0 : c.before a s = true) (h : ∀ w ∈ L, w.before a s = true) : ∀ w ∈ c :: L, w.before a s = true := fun w hw => (List.mem_cons.mp hw).elim (fun e => e ▸ h0) (h w)
/-- the bytes of the chars cs, low before high -/
def wideBytes : List Int32 → List Value
  | [] => []
  | c :: cs => .int (lo8 c) :: .int (hi8 c) :: wideBytes cs
theorem wide_lo (d : Value) : ∀ (cs : List Int32) (j : Nat), j < cs.length → (wideBytes cs).getD (2 * j) d = .int (lo8 (cs.getD j 0))
  | [], j, h => absurd h (Nat.not_lt_zero j)
  | c :: cs, 0, _ => rfl
  | c :: cs, j + 1, h => by
    have q := wide_lo d cs j (by simpa using h)
    rw [show 2 * (j + 1) = 2 * j + 1 + 1 from by omega]
    simpa [wideBytes] using q
theorem wide_hi (d : Value) : ∀ (cs : List Int32) (j : Nat), j < cs.length → (wideBytes cs).getD (2 * j + 1) d = .int (hi8 (cs.getD j 0))
  | [], j, h => absurd h (Nat.not_lt_zero j)
  | c :: cs, 0, _ => rfl
  | c :: cs, j + 1, h => by
    have q := wide_hi d cs j (by simpa using h)
    rw [show 2 * (j + 1) + 1 = 2 * j + 1 + 1 + 1 from by omega]
    simpa [wideBytes] using q
theorem low_at (d : Value) (cs : List Int32) (j : Nat) (h : j < cs.length) : (cs.map fun c => Value.int (lo8 c)).getD j d = .int (lo8 (cs.getD j 0)) := by
  simp [List.getD_eq_getElem?_getD, h]
/-- an array of N2 bytes vs codes the chars cs by the coder cd -/
def CodA (cs : List Int32) (cd N2 : Int32) (vs : List Value) : Prop := (cd = 0 ∧ N2 = Int32.ofNat cs.length ∧ vs = (cs.map fun c => Value.int (lo8 c)) ∧ ∀ c ∈ cs, ¬ 255 < c) ∨ (cd = 1 ∧ N2 = Int32.ofNat (2 * cs.length) ∧ vs = wideBytes cs ∧ ∃ c ∈ cs, 255 < c)
theorem CodA.cod {cs : List Int32} {cd N2 : Int32} {vs : List Value} {V : Cell} (h : CodA cs cd N2 vs) (hn : 2 * cs.length < 2 ^ 31) (hs : V.slots.size = N2.toNatClampNeg) (hv : RoadKit.Has V vs (.int 0)) : Cod cd cs.length (fun j => cs.getD j 0) V := by
  rcases h with ⟨rfl, rfl, rfl, h⟩ | ⟨rfl, rfl, rfl, c, hc, hw⟩
  · rw [n32 (by omega)] at hs
    exact Or.inl ⟨rfl, hs, fun j hj => ⟨by rw [hv j (by omega), low_at _ _ _ hj], by
      have e : cs.getD j 0 = cs[j] := by simp [List.getD_eq_getElem?_getD, hj]
      show ¬ 255 < cs.getD j 0
      rw [e]; exact h _ (List.getElem_mem _)⟩⟩
  · rw [n32 (by omega)] at hs
    obtain ⟨j, hj, rfl⟩ := List.getElem_of_mem hc
    exact Or.inr ⟨rfl, hs, fun j hj => ⟨by rw [hv _ (by omega), wide_lo _ _ _ hj], by rw [hv _ (by omega), wide_hi _ _ _ hj]⟩, j, hj, by
      have e : cs.getD j 0 = cs[j] := by simp [List.getD_eq_getElem?_getD, hj]
      show 255 < cs.getD j 0
      rw [e]; exact hw⟩
/-- an object of exactly java/lang/String, its two fields found: as the laws ask it -/
theorem strObj {Z U : State} {a0 : Array Value} {kI : Nat} (wi : (Jvm.Cond.instantiable ST kI).before a0 Z = true) (al : Z.vm.Alike U.vm) {x : Addr} {v0 c0 : Value} (E : RoadKit.Exa Z U.heap x ST) (V : RoadKit.Fld Z U.heap x ST "value" "[B" v0) (C : RoadKit.Fld Z U.heap x ST "coder" "B" c0) :
    ∃ (D : Cell) (fV fC : Field), Blank ST x D U ∧ Found ST "value" "[B" fV U ∧ Found ST "coder" "B" fC U ∧ D.slots[fV.slot]? = some v0 ∧ D.slots[fC.slot]? = some c0 ∧ RoadKit.slotOf Z ST "value" "[B" = fV.slot ∧ RoadKit.slotOf Z ST "coder" "B" = fC.slot := by
  obtain ⟨D, cfV, kV, iV, fV, hD, gV, stV, knV, obV, asV, slV⟩ := V
  obtain ⟨D', cfC, kC, iC, fC, hD', gC, stC, -, -, asC, slC⟩ := C
  cases hD.symm.trans hD'
  obtain ⟨D2, kD, e1, e2, e3, e4, e5⟩ := E
  cases hD.symm.trans e1
  obtain ⟨c2, k2, i1, i2, i3, -⟩ := Cond.instantiable_spec wi
  cases e2.symm.trans i1
  cases e3.symm.trans i2
  obtain ⟨kU, u1, u2⟩ := al.2.2 _ _ e3
  exact ⟨D, fV, fC, ⟨hD, ⟨knV, fun q hq => by rw [hq] at obV; cases obV⟩, by rw [al.findClass]; exact e2, kU, u1, by rw [u2]; exact i3, by rw [u2]; exact e5 i3⟩, ⟨SBG.found_only al ⟨cfV, kV, iV, gV⟩, stV⟩, ⟨SBG.found_only al ⟨cfC, kC, iC, gC⟩, stC⟩, slV, slC, by simp [RoadKit.slotOf, gV], by simp [RoadKit.slotOf, gC]⟩
theorem sta_is {Z U : State} (al : Z.vm.Alike U.vm) {C n d : String} {v : Value} (S : RoadKit.Sta Z U.heap C n d v) : StaticIs U C n d v := by
  obtain ⟨cfS, iS, kS, fS, st, cS, t1, t2, t3, t4, t5, t6, t7⟩ := S
  exact StaticIs.there (s := { Z with heap := U.heap }) ⟨cfS, iS, kS, fS, st, cS, t1, t2, t3, t4, t5, (fun q => by rw [q] at t6; cases t6), t7⟩ al rfl
end StrChars.Road
namespace StrChars
open Jvm Sem ClassFile Op Lib Jvm.Stand Jvm.Free.XT Jvm.Free.ALB Jvm.Free.JM Jvm.Free
open Jvm.Lib.Cold (StaticIs)
/-- what place i of a byte[]'s cell holds -/
def yv (A : Cell) (i : Nat) : Int32 := match A.slots[i]? with | some (.int x) => x | _ => 0
theorem yv_get {a : Addr} {A : Cell} {U : State} (h : XT.Arr .byte a A U) (ht : Typed .byte A) {i : Nat} (hi : i < A.slots.size) : A.slots[i]? = some (.int (yv A i)) := by
  have e := Array.getElem?_eq_getElem hi
  have f := ht i _ e
  unfold yv; rw [e]
  generalize A.slots[i] = v at f
  cases v <;> simp [fits] at f ⊢
/-- the two arrays are equal, place for place -/
def EqC (A B : Cell) : Prop := A.slots.size = B.slots.size ∧ ∀ i, i < A.slots.size → yv A i = yv B i
/-- a boolean that says whether p -/
def Says01 (q : Prop) (r : Option Value) (s u : State) : Prop := ∃ v : Int32, r = some (.int v) ∧ u.heap = s.heap ∧ ((v = 1 ∧ q) ∨ (v = 0 ∧ ¬ q))
theorem Says01.mv {q : Prop} : ∀ r (U U' V V' : State), U'.heap = U.heap → V.vm.Alike V'.vm → V'.heap = V.heap → Says01 q r U V → Says01 q r U' V' :=
  fun r U U' V V' h1 _ h2 ⟨v, a, b, c⟩ => ⟨v, a, by rw [h1, h2]; exact b, c⟩
namespace LEq
def yN : MethodName := ⟨"java/lang/StringLatin1", "equals", "([B[B)Z"⟩
abbrev yB : ByteArray := jdk_43_method_13_code
theorem d0 : decode yB 0 = .ok (.aload_n 0, 1) := by decide +kernel
theorem d1 : decode yB 1 = .ok (.arraylength, 1) := by decide +kernel
theorem d2 : decode yB 2 = .ok (.aload_n 1, 1) := by decide +kernel
theorem d3 : decode yB 3 = .ok (.arraylength, 1) := by decide +kernel
theorem d4 : decode yB 4 = .ok (.if_icmp (.ne) 30, 3) := by decide +kernel
theorem d7 : decode yB 7 = .ok (.iconst 0, 1) := by decide +kernel
theorem d8 : decode yB 8 = .ok (.istore_n 2, 1) := by decide +kernel
theorem d9 : decode yB 9 = .ok (.iload_n 2, 1) := by decide +kernel
theorem d10 : decode yB 10 = .ok (.aload_n 0, 1) := by decide +kernel
theorem d11 : decode yB 11 = .ok (.arraylength, 1) := by decide +kernel
theorem d12 : decode yB 12 = .ok (.if_icmp (.ge) 20, 3) := by decide +kernel
theorem d15 : decode yB 15 = .ok (.aload_n 0, 1) := by decide +kernel
theorem d16 : decode yB 16 = .ok (.iload_n 2, 1) := by decide +kernel
theorem d17 : decode yB 17 = .ok (.baload, 1) := by decide +kernel
theorem d18 : decode yB 18 = .ok (.aload_n 1, 1) := by decide +kernel
theorem d19 : decode yB 19 = .ok (.iload_n 2, 1) := by decide +kernel
theorem d20 : decode yB 20 = .ok (.baload, 1) := by decide +kernel
theorem d21 : decode yB 21 = .ok (.if_icmp (.eq) 5, 3) := by decide +kernel
theorem d24 : decode yB 24 = .ok (.iconst 0, 1) := by decide +kernel
theorem d25 : decode yB 25 = .ok (.ireturn, 1) := by decide +kernel
theorem d26 : decode yB 26 = .ok (.iinc 2 1, 3) := by decide +kernel
theorem d29 : decode yB 29 = .ok (.goto (-20), 3) := by decide +kernel
theorem d32 : decode yB 32 = .ok (.iconst 1, 1) := by decide +kernel
theorem d33 : decode yB 33 = .ok (.ireturn, 1) := by decide +kernel
theorem d34 : decode yB 34 = .ok (.iconst 0, 1) := by decide +kernel
theorem d35 : decode yB 35 = .ok (.ireturn, 1) := by decide +kernel
def site : List Cond := []
def tab : Cond := tabOf yN yB 3 (some .boolean) site
def P (a : Addr) (A : Cell) (b : Addr) (B : Cell) (args : Array Value) (s : State) : Prop := args = #[.ref a, .ref b] ∧ XT.Arr .byte a A s ∧ Typed .byte A ∧ XT.Arr .byte b B s ∧ Typed .byte B
/-- whether two byte[] are equal, place for place -/
theorem law (l : Launch) (a : Addr) (A : Cell) (b : Addr) (B : Cell) : Law l yN 2 2 0 0 yB 3 (some .boolean) site (P a A b B) (Says01 (EqC A B)) [] 0 0 := by
  refine Law.of_walk (plainFor_of_name (by decide +kernel)) (by decide +kernel) (by decide +kernel) (by decide) (fun _ _ h => by rw [h.1]; rfl) (fun _ U U' hal hh h => ⟨h.1, h.2.1.mv hal hh, h.2.2.1, h.2.2.2.1.mv hal hh, h.2.2.2.2⟩) (fun r U U' V V' h1 hal h2 h => Says01.mv r U U' V V' h1 hal h2 h) ?_
  intro p e s m args below meth c s₁ X0 hexec hbytes hml hret hlk hnm hown hh0 W hP
  obtain ⟨rfl, hA, tA, hB, tB⟩ := hP
  have a31 := hA.2.2.2
  have b31 := hB.2.2.2
  have hA0 := hA.mv X0.warmed.alike hh0
  have hB0 := hB.mv X0.warmed.alike hh0
  have c1 : Steps p.tables e below (s₁.setTop (entryFrame m #[.ref a, .ref b] 3)) (s₁.setTop (mkF m 0 #[.val (.ref a), .val (.ref b), .unset] [])) := entry rfl
  have c2 : Steps p.tables e below (s₁.setTop (entryFrame m #[.ref a, .ref b] 3)) (s₁.setTop (mkF m 4 #[.val (.ref a), .val (.ref b), .unset] [.int (Int32.ofNat B.slots.size), .int (Int32.ofNat A.slots.size)])) := c1.trans (by
    refine XS.aloadN X0.here hexec rfl (hb hbytes d0) rfl rfl ?_
    refine X0.alen hexec hA0 rfl rfl (hb hbytes d1) ?_
    refine XS.aloadN X0.here hexec rfl (hb hbytes d2) rfl rfl ?_
    refine X0.alen hexec hB0 rfl rfl (hb hbytes d3) ?_
    exact Steps.refl _)
  by_cases hs : A.slots.size = B.slots.size
  · have c3 : Steps p.tables e below (s₁.setTop (entryFrame m #[.ref a, .ref b] 3)) (s₁.setTop (mkF m 9 #[.val (.ref a), .val (.ref b), .val (.int 0)] [])) := c2.trans (by
      refine XS.icmpNo X0.here hexec rfl (hb hbytes d4) rfl (ii_ne_f (by rw [hs])) ?_
      refine iconstV X0.here hexec rfl 0 (hb hbytes d7) (by decide) ?_
      refine XS.istoreN X0.here hexec rfl (hb hbytes d8) rfl rfl ?_
      exact Steps.refl _)
    have loop : ∀ (r i : Nat), i + r = A.slots.size → (∀ j, j < i → yv A j = yv B j) → Steps p.tables e below (s₁.setTop (entryFrame m #[.ref a, .ref b] 3)) (s₁.setTop (mkF m 9 #[.val (.ref a), .val (.ref b), .val (.int (Int32.ofNat i))] [])) → ∃ (pc : Nat) (Ls : Array Slot) (v : Int32), (pc = 25 ∨ pc = 33) ∧ ((v = 1 ∧ EqC A B) ∨ (v = 0 ∧ ¬ EqC A B)) ∧ Steps p.tables e below (s₁.setTop (entryFrame m #[.ref a, .ref b] 3)) (s₁.setTop (mkF m pc Ls [.int v])) := by
      intro r
      induction r with
      | zero =>
        intro i hi he cl
        exact ⟨33, _, 1, Or.inr rfl, Or.inl ⟨rfl, hs, fun j hj => he j (by omega)⟩, cl.trans (by
          refine XS.iloadN X0.here hexec rfl (hb hbytes d9) rfl ?_
          refine XS.aloadN X0.here hexec rfl (hb hbytes d10) rfl rfl ?_
          refine X0.alen hexec hA0 rfl rfl (hb hbytes d11) ?_
          refine XS.icmpYes X0.here hexec rfl (pc0 := 12) rfl (hb hbytes d12) rfl (ii_ge_t (nlt32 (by omega) (by omega))) (by decide) rfl ?_
          refine iconstV X0.here hexec rfl 1 (hb hbytes d32) (by decide) ?_
          exact Steps.refl _)⟩
      | succ r ih =>
        intro i hi he cl
        have c4 : Steps p.tables e below (s₁.setTop (entryFrame m #[.ref a, .ref b] 3)) (s₁.setTop (mkF m 21 #[.val (.ref a), .val (.ref b), .val (.int (Int32.ofNat i))] [.int (yv B i), .int (yv A i)])) := cl.trans (by
          refine XS.iloadN X0.here hexec rfl (hb hbytes d9) rfl ?_
          refine XS.aloadN X0.here hexec rfl (hb hbytes d10) rfl rfl ?_
          refine X0.alen hexec hA0 rfl rfl (hb hbytes d11) ?_
          refine XS.icmpNo X0.here hexec rfl (hb hbytes d12) rfl (ii_ge_f (lt32 (by omega) (by omega))) ?_
          refine XS.aloadN X0.here hexec rfl (hb hbytes d15) rfl rfl ?_
          refine XS.iloadN X0.here hexec rfl (hb hbytes d16) rfl ?_
          refine X0.aget hexec hA0 rfl (yv_get hA tA (i := i) (by omega)) rfl rfl (hb hbytes d17) ?_
          refine XS.aloadN X0.here hexec rfl (hb hbytes d18) rfl rfl ?_
          refine XS.iloadN X0.here hexec rfl (hb hbytes d19) rfl ?_
          refine X0.aget hexec hB0 rfl (yv_get hB tB (i := i) (by omega)) rfl rfl (hb hbytes d20) ?_
          exact Steps.refl _)
        by_cases hv : yv A i = yv B i
        · have c5 : Steps p.tables e below (s₁.setTop (entryFrame m #[.ref a, .ref b] 3)) (s₁.setTop (mkF m 9 #[.val (.ref a), .val (.ref b), .val (.int (Int32.ofNat i + 1))] [])) := c4.trans (by
            refine XS.icmpYes X0.here hexec rfl (pc0 := 21) rfl (hb hbytes d21) rfl (ii_eq_t hv) (by decide) rfl ?_
            refine iincV X0.here hexec rfl 1 (hb hbytes d26) (by decide) rfl rfl ?_
            refine XS.goto X0.here hexec rfl (pc0 := 29) rfl (hb hbytes d29) (by decide) rfl ?_
            exact Steps.refl _)
          rw [succ32] at c5
          exact ih (i + 1) (by omega) (fun j hj => by
            by_cases e : j = i
            · rw [e]; exact hv
            · exact he j (by omega)) c5
        · exact ⟨25, _, 0, Or.inl rfl, Or.inr ⟨rfl, fun q => hv (q.2 i (by omega))⟩, c4.trans (by
            refine XS.icmpNo X0.here hexec rfl (hb hbytes d21) rfl (ii_eq_f hv) ?_
            refine iconstV X0.here hexec rfl 0 (hb hbytes d24) (by decide) ?_
            exact Steps.refl _)⟩
    obtain ⟨pc, Ls, v, hpc, hv, cz⟩ := loop A.slots.size 0 (by omega) (fun j hj => absurd hj (Nat.not_lt_zero j)) c3
    have nv : narrow .boolean (.int v) = .int v := by rcases hv with ⟨rfl, -⟩ | ⟨rfl, -⟩ <;> rfl
    rcases hpc with rfl | rfl
    · exact ⟨s₁, some (.int v), _, _, _, X0, rfl, rfl, rfl, (fun h => by cases h), ⟨v, rfl, hh0, hv⟩, fun fs hl => cz.trans (X0.ireturnOut hexec hret nv (Or.inr (Or.inl rfl)) (hb hbytes d25) hl)⟩
    · exact ⟨s₁, some (.int v), _, _, _, X0, rfl, rfl, rfl, (fun h => by cases h), ⟨v, rfl, hh0, hv⟩, fun fs hl => cz.trans (X0.ireturnOut hexec hret nv (Or.inr (Or.inl rfl)) (hb hbytes d33) hl)⟩
  · have c3 : Steps p.tables e below (s₁.setTop (entryFrame m #[.ref a, .ref b] 3)) (s₁.setTop (mkF m 35 #[.val (.ref a), .val (.ref b), .unset] [.int 0])) := c2.trans (by
      refine XS.icmpYes X0.here hexec rfl (pc0 := 4) rfl (hb hbytes d4) rfl (ii_ne_t (ne32 a31 b31 hs)) (by decide) rfl ?_
      refine iconstV X0.here hexec rfl 0 (hb hbytes d34) (by decide) ?_
      exact Steps.refl _)
    exact ⟨s₁, some (.int 0), _, _, _, X0, rfl, rfl, rfl, (fun h => by cases h), ⟨0, rfl, hh0, Or.inr ⟨rfl, fun q => hs q.1⟩⟩, fun fs hl => c3.trans (X0.ireturnOut hexec hret rfl (Or.inr (Or.inl rfl)) (hb hbytes d35) hl)⟩
end LEq
theorem Cod.ty {cd : Int32} {n : Nat} {f : Nat → Int32} {V : Cell} (h : Cod cd n f V) : Typed .byte V := fun i v hv => by
  have hi : i < V.slots.size := (Array.getElem?_eq_some_iff.mp hv).1
  rcases h with ⟨-, k1, k2⟩ | ⟨-, k1, k2, -⟩
  · rw [(k2 i (by omega)).1] at hv; cases hv; exact fits_lo8 _
  · rcases Nat.mod_two_eq_zero_or_one i with e | e
    · obtain ⟨j, rfl⟩ : ∃ j, i = 2 * j := ⟨i / 2, by omega⟩
      rw [(k2 j (by omega)).1] at hv; cases hv; exact fits_lo8 _
    · obtain ⟨j, rfl⟩ : ∃ j, i = 2 * j + 1 := ⟨i / 2, by omega⟩
      rw [(k2 j (by omega)).2] at hv; cases hv; exact fits_lo8 _
/-- the same text -/
def SameT (n : Nat) (f : Nat → Int32) (k : Nat) (g : Nat → Int32) : Prop := n = k ∧ ∀ j, j < n → f j = g j
theorem lo8_inj {x y : Int32} (h0 : ¬ x < 0) (h1 : ¬ 255 < x) (k0 : ¬ y < 0) (k1 : ¬ 255 < y) (h : lo8 x = lo8 y) : x = y := by
  rw [← lo8_mask h0 h1, ← lo8_mask k0 k1, h]
/-- arrays coded by one coder are equal just where the texts are -/
theorem Cod.eqv {cd : Int32} {n k : Nat} {f g : Nat → Int32} {V V' : Cell} (h : Cod cd n f V) (h' : Cod cd k g V') (hf : ∀ j, j < n → ¬ f j < 0 ∧ ¬ 65535 < f j) (hg : ∀ j, j < k → ¬ g j < 0 ∧ ¬ 65535 < g j) : EqC V V' ↔ SameT n f k g := by
  have yvv : ∀ {W : Cell} {i : Nat} {x : Int32}, W.slots[i]? = some (.int x) → yv W i = x := fun q => by unfold yv; rw [q]
  rcases h with ⟨rfl, k1, k2⟩ | ⟨rfl, k1, k2, -⟩
  · rcases h' with ⟨-, m1, m2⟩ | ⟨e, -⟩
    · constructor
      · rintro ⟨e1, e2⟩
        refine ⟨by omega, fun j hj => ?_⟩
        have q := e2 j (by omega)
        rw [yvv (k2 j hj).1, yvv (m2 j (by omega)).1] at q
        exact lo8_inj (hf j hj).1 (k2 j hj).2 (hg j (by omega)).1 (m2 j (by omega)).2 q
      · rintro ⟨rfl, e2⟩
        refine ⟨by omega, fun j hj => ?_⟩
        rw [yvv (k2 j (by omega)).1, yvv (m2 j (by omega)).1, e2 j (by omega)]
    · exact absurd e (by decide)
  · rcases h' with ⟨e, -⟩ | ⟨-, m1, m2, -⟩
    · exact absurd e (by decide)
    · constructor
      · rintro ⟨e1, e2⟩
        refine ⟨by omega, fun j hj => ?_⟩
        have q1 := e2 (2 * j) (by omega)
        have q2 := e2 (2 * j + 1) (by omega)
        rw [yvv (k2 j hj).1, yvv (m2 j (by omega)).1] at q1
        rw [yvv (k2 j hj).2, yvv (m2 j (by omega)).2] at q2
        rw [← pair_says (hf j hj).1 (hf j hj).2, ← pair_says (hg j (by omega)).1 (hg j (by omega)).2, q1, q2]
      · rintro ⟨rfl, e2⟩
        refine ⟨by omega, fun i hi => ?_⟩
        rcases Nat.mod_two_eq_zero_or_one i with e | e
        · obtain ⟨j, rfl⟩ : ∃ j, i = 2 * j := ⟨i / 2, by omega⟩
          rw [yvv (k2 j (by omega)).1, yvv (m2 j (by omega)).1, e2 j (by omega)]
        · obtain ⟨j, rfl⟩ : ∃ j, i = 2 * j + 1 := ⟨i / 2, by omega⟩
          rw [yvv (k2 j (by omega)).2, yvv (m2 j (by omega)).2, e2 j (by omega)]
/-- two codings differ: so do the texts -/
theorem Cod.dif {cd cd' : Int32} {n k : Nat} {f g : Nat → Int32} {V V' : Cell} (h : Cod cd n f V) (h' : Cod cd' k g V') (hne : ¬ cd = cd') : ¬ SameT n f k g := by
  rintro ⟨rfl, e⟩
  rcases h with ⟨rfl, -, k2⟩ | ⟨rfl, -, -, j, hj, hw⟩
  · rcases h' with ⟨rfl, -⟩ | ⟨-, -, -, j, hj, hw⟩
    · exact hne rfl
    · exact (k2 j hj).2 (by rw [e j hj]; exact hw)
  · rcases h' with ⟨-, -, m2⟩ | ⟨rfl, -⟩
    · exact (m2 j hj).2 (by rw [← e j hj]; exact hw)
    · exact hne rfl
/-- an object of exactly C is an instance of C -/
theorem cinst {p : Program} {l : Launch} {e : Env} {R : Room} {s : State} {m : MethodId} {args : Array Value} {below : List Frame} {meth : Method} {c : Code} {T : State} {locs : List Loc} {cells slots : Nat} (X : Stand p l e R s m args below meth c T locs cells slots) (hexec : p.tables.exec = Jvm.exec) {own C : String} {index : Nat} (hown : s.vm.findClass own = some m.cls) (hlink : (Cond.classLink own index C).before args s = true) {a : Addr} (hE : Exact C a T)
    {g : JFrame} (hg : g.method = m) {rest : List Value} (hstack : g.stack = .ref a :: rest) (hdg : decode c.code g.pc = .ok (.instanceof index, 3)) :
    ∃ T', Stand p l e R s m args below meth c T' locs cells slots ∧ T'.heap = T.heap ∧ ∀ target, Steps p.tables e below (T'.setTop { g with pc := g.pc + 3, stack := .int 1 :: rest }) target → Steps p.tables e below (T.setTop g) target := by
  obtain ⟨cB, h1, D, h2, h3, h4⟩ := hE
  have h1' : s.vm.findClass C = some cB := by rw [← X.warmed.alike.findClass]; exact h1
  obtain ⟨vm', X', st⟩ := X.instanceofYes hexec hown hlink h2 h4 h1' (by rw [h3]; exact Jvm.Free.SB.assignable_self _ _) hg hstack hdg
  exact ⟨_, X', rfl, st⟩
theorem cself {p : Program} {l : Launch} {e : Env} {R : Room} {s : State} {m : MethodId} {args : Array Value} {below : List Frame} {meth : Method} {c : Code} {T : State} {locs : List Loc} {cells slots : Nat} (X : Stand p l e R s m args below meth c T locs cells slots) (hexec : p.tables.exec = Jvm.exec) {own C : String} {index : Nat} (hown : s.vm.findClass own = some m.cls) (hlink : (Cond.classLink own index C).before args s = true) {a : Addr} (hE : Exact C a T)
    {g : JFrame} (hg : g.method = m) {rest : List Value} (hstack : g.stack = .ref a :: rest) (hdg : decode c.code g.pc = .ok (.checkcast index, 3)) :
    ∃ T', Stand p l e R s m args below meth c T' locs cells slots ∧ T'.heap = T.heap ∧ ∀ target, Steps p.tables e below (T'.setTop { g with pc := g.pc + 3, stack := .ref a :: rest }) target → Steps p.tables e below (T.setTop g) target := by
  obtain ⟨cB, h1, D, h2, h3, h4⟩ := hE
  have h1' : s.vm.findClass C = some cB := by rw [← X.warmed.alike.findClass]; exact h1
  obtain ⟨vm', X', st⟩ := X.checkcastYes hexec hown hlink h2 h4 h1' (by rw [h3]; exact Jvm.Free.SB.assignable_self _ _) hg hstack hdg
  exact ⟨_, X', rfl, fun t h => st t (by rw [← hstack] at h; exact h)⟩
namespace SEq
def yN : MethodName := ⟨"java/lang/String", "equals", "(Ljava/lang/Object;)Z"⟩
abbrev yB : ByteArray := jdk_42_method_66_code
theorem d0 : decode yB 0 = .ok (.aload_n 0, 1) := by decide +kernel
theorem d1 : decode yB 1 = .ok (.aload_n 1, 1) := by decide +kernel
theorem d2 : decode yB 2 = .ok (.if_acmp (.ne) 5, 3) := by decide +kernel
theorem d5 : decode yB 5 = .ok (.iconst 1, 1) := by decide +kernel
theorem d6 : decode yB 6 = .ok (.ireturn, 1) := by decide +kernel
theorem d7 : decode yB 7 = .ok (.aload_n 1, 1) := by decide +kernel
theorem d8 : decode yB 8 = .ok (.instanceof 10, 3) := by decide +kernel
theorem d11 : decode yB 11 = .ok (.ifCond (.eq) 43, 3) := by decide +kernel
theorem d14 : decode yB 14 = .ok (.aload_n 1, 1) := by decide +kernel
theorem d15 : decode yB 15 = .ok (.checkcast 10, 3) := by decide +kernel
theorem d18 : decode yB 18 = .ok (.astore_n 2, 1) := by decide +kernel
theorem d19 : decode yB 19 = .ok (.getstatic 38, 3) := by decide +kernel
theorem d22 : decode yB 22 = .ok (.ifCond (.eq) 14, 3) := by decide +kernel
theorem d25 : decode yB 25 = .ok (.aload_n 0, 1) := by decide +kernel
theorem d26 : decode yB 26 = .ok (.getfield 15, 3) := by decide +kernel
theorem d29 : decode yB 29 = .ok (.aload_n 2, 1) := by decide +kernel
theorem d30 : decode yB 30 = .ok (.getfield 15, 3) := by decide +kernel
theorem d33 : decode yB 33 = .ok (.if_icmp (.ne) 21, 3) := by decide +kernel
theorem d36 : decode yB 36 = .ok (.aload_n 0, 1) := by decide +kernel
theorem d37 : decode yB 37 = .ok (.getfield 9, 3) := by decide +kernel
theorem d40 : decode yB 40 = .ok (.aload_n 2, 1) := by decide +kernel
theorem d41 : decode yB 41 = .ok (.getfield 9, 3) := by decide +kernel
theorem d44 : decode yB 44 = .ok (.invokestatic 541, 3) := by decide +kernel
theorem d47 : decode yB 47 = .ok (.ifCond (.eq) 7, 3) := by decide +kernel
theorem d50 : decode yB 50 = .ok (.iconst 1, 1) := by decide +kernel
theorem d51 : decode yB 51 = .ok (.goto 4, 3) := by decide +kernel
theorem d54 : decode yB 54 = .ok (.iconst 0, 1) := by decide +kernel
theorem d55 : decode yB 55 = .ok (.ireturn, 1) := by decide +kernel
def site : List Cond := [.classLink "java/lang/String" 10 "java/lang/String", .fieldLink "java/lang/String" 38 "java/lang/String" "COMPACT_STRINGS" "Z", .fieldLink "java/lang/String" 15 "java/lang/String" "coder" "B", .fieldLink "java/lang/String" 9 "java/lang/String" "value" "[B", LEq.tab] ++ staticW "java/lang/String" 541 LEq.yN
def tab : Cond := tabOf yN yB 3 (some .boolean) site
def P (x t : Addr) (V : Cell) (cd : Int32) (n : Nat) (f : Nat → Int32) (y t' : Addr) (V' : Cell) (cd' : Int32) (k : Nat) (g : Nat → Int32) (z : Int32) (args : Array Value) (s : State) : Prop := args = #[.ref x, .ref y] ∧ Txt x t V cd n f s ∧ Txt y t' V' cd' k g s ∧ StaticIs s "java/lang/String" "COMPACT_STRINGS" "Z" (.int z) ∧ ¬ z = 0
/-- equals(Object) of two Strings: whether the texts are the same -/
theorem law (l : Launch) (x t : Addr) (V : Cell) (cd : Int32) (n : Nat) (f : Nat → Int32) (y t' : Addr) (V' : Cell) (cd' : Int32) (k : Nat) (g : Nat → Int32) (z : Int32) : Law l yN 2 1 1 14 yB 3 (some .boolean) site (P x t V cd n f y t' V' cd' k g z) (Says01 (SameT n f k g)) [] 0 0 := by
  refine Law.of_walk (plainFor_of_name (by decide +kernel)) (by decide +kernel) (by decide +kernel) (by decide) (fun _ _ h => by rw [h.1]; rfl) (fun _ U U' hal hh h => ⟨h.1, h.2.1.mv hal hh, h.2.2.1.mv hal hh, h.2.2.2.1.there hal hh, h.2.2.2.2⟩) (fun r U U' V V' h1 hal h2 h => Says01.mv r U U' V V' h1 hal h2 h) ?_
  intro p e s m args below meth c s₁ X0 hexec hbytes hml hret hlk hnm hown hh0 W hP
  obtain ⟨rfl, hx, hy, s1, hz⟩ := hP
  have c1 : Steps p.tables e below (s₁.setTop (entryFrame m #[.ref x, .ref y] 3)) (s₁.setTop (mkF m 2 #[.val (.ref x), .val (.ref y), .unset] [.ref y, .ref x])) := Steps.trans (entry rfl) (by
    show Steps p.tables e below (s₁.setTop (mkF m 0 #[.val (.ref x), .val (.ref y), .unset] [])) _
    refine XS.aloadN X0.here hexec rfl (hb hbytes d0) rfl rfl ?_
    refine XS.aloadN X0.here hexec rfl (hb hbytes d1) rfl rfl ?_
    exact Steps.refl _)
  by_cases hxy : x = y
  · have c2 : Steps p.tables e below (s₁.setTop (entryFrame m #[.ref x, .ref y] 3)) (s₁.setTop (mkF m 6 #[.val (.ref x), .val (.ref y), .unset] [.int 1])) := c1.trans (by
      refine acmpNo X0.here hexec rfl (hb hbytes d2) rfl rfl rfl (by simp [acmp, hxy]) ?_
      refine iconstV X0.here hexec rfl 1 (hb hbytes d5) (by decide) ?_
      exact Steps.refl _)
    subst hxy
    have ec : cd = cd' := by
      obtain ⟨D, fd, a1, a2, a3⟩ := hx.2.2.1
      obtain ⟨D', fd', b1, b2, b3⟩ := hy.2.2.1
      cases a1.symm.trans b1
      obtain ⟨q1, q2, q3, q4⟩ := a2.1
      obtain ⟨r1, r2, r3, r4⟩ := b2.1
      cases q4.symm.trans r4
      cases a3.symm.trans b3; rfl
    have et : t = t' := by
      obtain ⟨D, fd, a1, a2, a3⟩ := hx.2.1
      obtain ⟨D', fd', b1, b2, b3⟩ := hy.2.1
      cases a1.symm.trans b1
      obtain ⟨q1, q2, q3, q4⟩ := a2.1
      obtain ⟨r1, r2, r3, r4⟩ := b2.1
      cases q4.symm.trans r4
      cases a3.symm.trans b3; rfl
    subst ec et
    have ev : V = V' := by cases hx.2.2.2.1.1.symm.trans hy.2.2.2.1.1; rfl
    subst ev
    have hs : SameT n f k g := (Cod.eqv hx.2.2.2.2.1 hy.2.2.2.2.1 hx.2.2.2.2.2 hy.2.2.2.2.2).mp ⟨rfl, fun _ _ => rfl⟩
    exact ⟨s₁, some (.int 1), _, _, _, X0, rfl, rfl, rfl, (fun h => by cases h), ⟨1, rfl, hh0, Or.inl ⟨rfl, hs⟩⟩, fun fs hl => c2.trans (X0.ireturnOut hexec hret rfl (Or.inr (Or.inl rfl)) (hb hbytes d6) hl)⟩
  · have c2 : Steps p.tables e below (s₁.setTop (entryFrame m #[.ref x, .ref y] 3)) (s₁.setTop (mkF m 8 #[.val (.ref x), .val (.ref y), .unset] [.ref y])) := c1.trans (by
      refine acmpYes X0.here hexec rfl (pc0 := 2) rfl (hb hbytes d2) rfl rfl rfl (by simp [acmp, hxy]) (by decide) rfl ?_
      refine XS.aloadN X0.here hexec rfl (hb hbytes d7) rfl rfl ?_
      exact Steps.refl _)
    obtain ⟨T3, X3, q3, st3⟩ := cinst X0 hexec hown (wk W (.classLink "java/lang/String" 10 "java/lang/String")) (hy.mv X0.warmed.alike hh0).1 (g := (mkF m 8 #[.val (.ref x), .val (.ref y), .unset] [.ref y])) rfl (rest := []) rfl (hb hbytes d8)
    have hh3 := q3.trans hh0
    have c4 : Steps p.tables e below (s₁.setTop (entryFrame m #[.ref x, .ref y] 3)) (T3.setTop (mkF m 15 #[.val (.ref x), .val (.ref y), .unset] [.ref y])) := (c2.trans (st3 _ (Steps.refl _))).trans (by
      refine XS.ifNo X3.here hexec rfl (hb hbytes d11) rfl (i0_eq_f (by decide)) ?_
      refine XS.aloadN X3.here hexec rfl (hb hbytes d14) rfl rfl ?_
      exact Steps.refl _)
    obtain ⟨T5, X5, q5, st5⟩ := cself X3 hexec hown (wk W (.classLink "java/lang/String" 10 "java/lang/String")) (hy.mv X3.warmed.alike hh3).1 (g := (mkF m 15 #[.val (.ref x), .val (.ref y), .unset] [.ref y])) rfl (rest := []) rfl (hb hbytes d15)
    have hh5 := q5.trans hh3
    have c6 : Steps p.tables e below (s₁.setTop (entryFrame m #[.ref x, .ref y] 3)) (T5.setTop (mkF m 19 #[.val (.ref x), .val (.ref y), .val (.ref y)] [])) := (c4.trans (st5 _ (Steps.refl _))).trans (by
      refine XS.astoreN X5.here hexec rfl (hb hbytes d18) rfl rfl rfl ?_
      exact Steps.refl _)
    obtain ⟨T7, X7, q7, st7⟩ := X5.sget hexec hown (wk W (.fieldLink "java/lang/String" 38 "java/lang/String" "COMPACT_STRINGS" "Z")) s1 (fun _ _ h => by rw [hh5]; exact h) (g := (mkF m 19 #[.val (.ref x), .val (.ref y), .val (.ref y)] [])) rfl (hb hbytes d19)
    have hh7 := q7.trans hh5
    have c8 : Steps p.tables e below (s₁.setTop (entryFrame m #[.ref x, .ref y] 3)) (T7.setTop (mkF m 26 #[.val (.ref x), .val (.ref y), .val (.ref y)] [.ref x])) := (c6.trans (st7 _ (Steps.refl _))).trans (by
      refine XS.ifNo X7.here hexec rfl (hb hbytes d22) rfl (i0_eq_f hz) ?_
      refine XS.aloadN X7.here hexec rfl (hb hbytes d25) rfl rfl ?_
      exact Steps.refl _)
    obtain ⟨T9, X9, q9, st9⟩ := X7.hget hexec hown (wk W (.fieldLink "java/lang/String" 15 "java/lang/String" "coder" "B")) (hx.mv X7.warmed.alike hh7).2.2.1 (g := (mkF m 26 #[.val (.ref x), .val (.ref y), .val (.ref y)] [.ref x])) rfl (rest := []) rfl (hb hbytes d26)
    have hh9 := q9.trans hh7
    have c10 : Steps p.tables e below (s₁.setTop (entryFrame m #[.ref x, .ref y] 3)) (T9.setTop (mkF m 30 #[.val (.ref x), .val (.ref y), .val (.ref y)] [.ref y, .int cd])) := (c8.trans (st9 _ (Steps.refl _))).trans (by
      refine XS.aloadN X9.here hexec rfl (hb hbytes d29) rfl rfl ?_
      exact Steps.refl _)
    obtain ⟨T11, X11, q11, st11⟩ := X9.hget hexec hown (wk W (.fieldLink "java/lang/String" 15 "java/lang/String" "coder" "B")) (hy.mv X9.warmed.alike hh9).2.2.1 (g := (mkF m 30 #[.val (.ref x), .val (.ref y), .val (.ref y)] [.ref y, .int cd])) rfl (rest := [.int cd]) rfl (hb hbytes d30)
    have hh11 := q11.trans hh9
    have c12 : Steps p.tables e below (s₁.setTop (entryFrame m #[.ref x, .ref y] 3)) (T11.setTop (mkF m 33 #[.val (.ref x), .val (.ref y), .val (.ref y)] [.int cd', .int cd])) := c10.trans (st11 _ (Steps.refl _))
    by_cases hcd : cd = cd'
    · subst hcd
      have c13 : Steps p.tables e below (s₁.setTop (entryFrame m #[.ref x, .ref y] 3)) (T11.setTop (mkF m 37 #[.val (.ref x), .val (.ref y), .val (.ref y)] [.ref x])) := c12.trans (by
        refine XS.icmpNo X11.here hexec rfl (hb hbytes d33) rfl (ii_ne_f rfl) ?_
        refine XS.aloadN X11.here hexec rfl (hb hbytes d36) rfl rfl ?_
        exact Steps.refl _)
      obtain ⟨T14, X14, q14, st14⟩ := X11.hget hexec hown (wk W (.fieldLink "java/lang/String" 9 "java/lang/String" "value" "[B")) (hx.mv X11.warmed.alike hh11).2.1 (g := (mkF m 37 #[.val (.ref x), .val (.ref y), .val (.ref y)] [.ref x])) rfl (rest := []) rfl (hb hbytes d37)
      have hh14 := q14.trans hh11
      have c15 : Steps p.tables e below (s₁.setTop (entryFrame m #[.ref x, .ref y] 3)) (T14.setTop (mkF m 41 #[.val (.ref x), .val (.ref y), .val (.ref y)] [.ref y, .ref t])) := (c13.trans (st14 _ (Steps.refl _))).trans (by
        refine XS.aloadN X14.here hexec rfl (hb hbytes d40) rfl rfl ?_
        exact Steps.refl _)
      obtain ⟨T16, X16, q16, st16⟩ := X14.hget hexec hown (wk W (.fieldLink "java/lang/String" 9 "java/lang/String" "value" "[B")) (hy.mv X14.warmed.alike hh14).2.1 (g := (mkF m 41 #[.val (.ref x), .val (.ref y), .val (.ref y)] [.ref y, .ref t])) rfl (rest := [.ref t]) rfl (hb hbytes d41)
      have hh16 := q16.trans hh14
      have c17 : Steps p.tables e below (s₁.setTop (entryFrame m #[.ref x, .ref y] 3)) (T16.setTop (mkF m 44 #[.val (.ref x), .val (.ref y), .val (.ref y)] [.ref t', .ref t])) := c15.trans (st16 _ (Steps.refl _))
      obtain ⟨v18, T18, X18, E18, g18⟩ := X16.callS hexec (LEq.law l t V t' V') hown (wks W (staticW "java/lang/String" 541 LEq.yN)) (wk W LEq.tab) (W := 0) (Nat.le_of_ble_eq_true rfl) (Nat.le_of_ble_eq_true rfl) (Nat.le_refl _) (Nat.le_refl _) (g := (mkF m 44 #[.val (.ref x), .val (.ref y), .val (.ref y)] [.ref t', .ref t])) rfl (by rw [hml]; rfl) c17 (argsL := [.ref t, .ref t']) (rest := []) rfl rfl (by show 2 * 0 + 0 ≤ _; decide) (hb hbytes d44) (⟨rfl, hx.2.2.2.1.mv X16.warmed.alike hh16, hx.2.2.2.2.1.ty, hy.2.2.2.1.mv X16.warmed.alike hh16, hy.2.2.2.2.1.ty⟩)
      obtain ⟨v, rfl, q18, hv⟩ := E18
      have iff := Cod.eqv hx.2.2.2.2.1 hy.2.2.2.2.1 hx.2.2.2.2.2 hy.2.2.2.2.2
      rcases hv with ⟨rfl, he⟩ | ⟨rfl, he⟩
      · have c19 : Steps p.tables e below (s₁.setTop (entryFrame m #[.ref x, .ref y] 3)) (T18.setTop (mkF m 55 #[.val (.ref x), .val (.ref y), .val (.ref y)] [.int 1])) := Steps.trans g18 (by
          refine XS.ifNo X18.here hexec rfl (hb hbytes d47) rfl (i0_eq_f (by decide)) ?_
          refine iconstV X18.here hexec rfl 1 (hb hbytes d50) (by decide) ?_
          refine XS.goto X18.here hexec rfl (pc0 := 51) rfl (hb hbytes d51) (by decide) rfl ?_
          exact Steps.refl _)
        exact ⟨T18, some (.int 1), _, _, _, X18, rfl, rfl, rfl, (fun h => by cases h), ⟨1, rfl, q18.trans hh16, Or.inl ⟨rfl, iff.mp he⟩⟩, fun fs hl => c19.trans (X18.ireturnOut hexec hret rfl (Or.inr (Or.inl rfl)) (hb hbytes d55) hl)⟩
      · have c19 : Steps p.tables e below (s₁.setTop (entryFrame m #[.ref x, .ref y] 3)) (T18.setTop (mkF m 55 #[.val (.ref x), .val (.ref y), .val (.ref y)] [.int 0])) := Steps.trans g18 (by
          refine XS.ifYes X18.here hexec rfl (pc0 := 47) rfl (hb hbytes d47) rfl (i0_eq_t rfl) (by decide) rfl ?_
          refine iconstV X18.here hexec rfl 0 (hb hbytes d54) (by decide) ?_
          exact Steps.refl _)
        exact ⟨T18, some (.int 0), _, _, _, X18, rfl, rfl, rfl, (fun h => by cases h), ⟨0, rfl, q18.trans hh16, Or.inr ⟨rfl, fun q => he (iff.mpr q)⟩⟩, fun fs hl => c19.trans (X18.ireturnOut hexec hret rfl (Or.inr (Or.inl rfl)) (hb hbytes d55) hl)⟩
    · have c13 : Steps p.tables e below (s₁.setTop (entryFrame m #[.ref x, .ref y] 3)) (T11.setTop (mkF m 55 #[.val (.ref x), .val (.ref y), .val (.ref y)] [.int 0])) := c12.trans (by
        refine XS.icmpYes X11.here hexec rfl (pc0 := 33) rfl (hb hbytes d33) rfl (ii_ne_t hcd) (by decide) rfl ?_
        refine iconstV X11.here hexec rfl 0 (hb hbytes d54) (by decide) ?_
        exact Steps.refl _)
      exact ⟨T11, some (.int 0), _, _, _, X11, rfl, rfl, rfl, (fun h => by cases h), ⟨0, rfl, hh11, Or.inr ⟨rfl, Cod.dif hx.2.2.2.2.1 hy.2.2.2.2.1 hcd⟩⟩, fun fs hl => c13.trans (X11.ireturnOut hexec hret rfl (Or.inr (Or.inl rfl)) (hb hbytes d55) hl)⟩
theorem pays {l : Launch} {R : Room} {p : Program} {e : Env} {below : List Frame} {s : State} {sargs : Array Value} {len W : Nat} (x t : Addr) (V : Cell) (cd : Int32) (n : Nat) (f : Nat → Int32) (y t' : Addr) (V' : Cell) (cd' : Int32) (k : Nat) (g : Nat → Int32) (z : Int32) (htab : tab.before sargs s = true) (hfr : 2 ≤ R.frames) (hlo : W + 28 ≤ R.locals) :
    Back l R p e below s sargs yN len W (fun A₁ a₁ => A₁.cells + 0 ≤ R.cells ∧ A₁.slots + 0 ≤ R.slots ∧ P x t V cd n f y t' V' cd' k g z a₁ A₁.U) (fun A₁ _ v₁ B₁ => Says01 (SameT n f k g) v₁ A₁.U B₁.U ∧ B₁.locs = A₁.locs ++ [] ∧ B₁.cells = A₁.cells + 0 ∧ B₁.slots = A₁.slots + 0) :=
  (law l x t V cd n f y t' V' cd' k g z).pays htab hfr (by omega)
end SEq
end StrChars
namespace StrChars.Road
open Jvm Sem ClassFile Op Lib Jvm.Stand Jvm.Free Jvm.Free.XT
open Jvm.Lib.Cold (StaticIs)
/-- the words of String.equals(Object) -/
abbrev wordsEq : List Jvm.Cond := [.code SEq.yN SEq.yB 3 (some .boolean), .initialized ST, .classLink ST 10 ST, .fieldLink ST 38 ST "COMPACT_STRINGS" "Z", .fieldLink ST 15 ST "coder" "B", .fieldLink ST 9 ST "value" "[B", .methodLink ST 541 LEq.yN, .static LEq.yN, .code LEq.yN LEq.yB 3 (some .boolean), .initialized "java/lang/StringLatin1"]
theorem tabEq_of {a : Array Value} {s : State} (h : ∀ w ∈ wordsEq, w.before a s = true) : SEq.tab.before a s = true := by
  have hl : LEq.tab.before a s = true := unparts (wk h (.code LEq.yN LEq.yB 3 (some .boolean))) (wks h (.initialized LEq.yN.cls :: LEq.site))
  have q := consq hl h
  exact unparts (wk q (.code SEq.yN SEq.yB 3 (some .boolean))) (wks q (.initialized SEq.yN.cls :: SEq.site))
theorem movedEq {Z s : State} {a0 args : Array Value} (hZ : Z.Warmed39 s.vm) (hw : ∀ d ∈ wordsEq, d.before a0 Z = true) : ∀ d ∈ wordsEq, d.before args s = true := fun d hd => by
  have t : ∀ d ∈ wordsEq, (d.onTables && d.keepsFace) = true := by decide +kernel
  exact RoadKit.mv hZ (hw d hd) (t d hd)
/-- the road's facts of a String, as the laws ask it -/
theorem txt_of {Z U : State} {a0 : Array Value} {kI : Nat} (wi : (Jvm.Cond.instantiable ST kI).before a0 Z = true) (al : Z.vm.Alike U.vm) {x t : Addr} {kb : ClassId} {cs : List Int32} {cd N2 : Int32} {vs : List Value} (E : RoadKit.Exa Z U.heap x ST) (V : RoadKit.Fld Z U.heap x ST "value" "[B" (.ref t)) (C : RoadKit.Fld Z U.heap x ST "coder" "B" (.int cd)) (K : RoadKit.Arv Z U.heap t kb .byte N2 vs (.int 0)) (hc : CodA cs cd N2 vs) (hb : ∀ c ∈ cs, ¬ c < 0 ∧ ¬ (65535 : Int32) < c) (l2 : cs.length ≤ 4000) :
    ∃ A, Txt x t A cd cs.length (fun j => cs.getD j 0) U := by
  obtain ⟨A, K1, K2, K3, K4, K5, K6⟩ := K
  have hcod := hc.cod (by omega) K3 K5
  obtain ⟨D, fV, fC, hB, F1, F2, g1, g2, -, -⟩ := strObj wi al E V C
  exact ⟨A, ⟨_, hB.2.2.1, D, hB.1, rfl, by cases q : D.vm <;> first | rfl | exact absurd q (hB.2.1.2 _)⟩, Has.of hB F1 g1, Has.of hB F2 g2, ⟨K1.1, State.isArrayOf_alike al K1.2.1, K1.2.2, by rcases hcod with ⟨-, q, -⟩ | ⟨-, q, -⟩ <;> omega⟩, hcod, fun j hj => by
    have e : cs.getD j 0 = cs[j] := by simp [List.getD_eq_getElem?_getD, hj]
    show ¬ cs.getD j 0 < 0 ∧ ¬ 65535 < cs.getD j 0
    rw [e]; exact hb _ (List.getElem_mem _)⟩
theorem same_list (cs ds : List Int32) : SameT cs.length (fun j => cs.getD j 0) ds.length (fun j => ds.getD j 0) ↔ cs = ds := by
  constructor
  · rintro ⟨e, q⟩
    refine List.ext_getElem e fun j h1 h2 => ?_
    have := q j h1
    simpa [List.getD_eq_getElem?_getD, h1, h2] using this
  · rintro rfl
    exact ⟨rfl, fun _ _ => rfl⟩
/-- **equals(Object) OF TWO SUCH STRINGS**: 1 just where the chars are the same -/
theorem eqW {p : Program} {l : Launch} {e : Env} {R : Room} {s : State} {args : Array Value} {below : List Frame} {len W : Nat} {Z : State} {a0 : Array Value} {h : Heap} (hZ : Z.Warmed39 s.vm) (hw : ∀ d ∈ wordsEq, d.before a0 Z = true) {kI : Nat} (wi : (Jvm.Cond.instantiable ST kI).before a0 Z = true)
    {x t : Addr} {kb : ClassId} {cs : List Int32} {cd N2 : Int32} {vs : List Value} (E : RoadKit.Exa Z h x ST) (V : RoadKit.Fld Z h x ST "value" "[B" (.ref t)) (C : RoadKit.Fld Z h x ST "coder" "B" (.int cd)) (K : RoadKit.Arv Z h t kb .byte N2 vs (.int 0)) (hc : CodA cs cd N2 vs) (hb : ∀ c ∈ cs, ¬ c < 0 ∧ ¬ (65535 : Int32) < c) (l2 : cs.length ≤ 4000)
    {y t' : Addr} {kb' : ClassId} {ds : List Int32} {cd' N2' : Int32} {vs' : List Value} (E' : RoadKit.Exa Z h y ST) (V' : RoadKit.Fld Z h y ST "value" "[B" (.ref t')) (C' : RoadKit.Fld Z h y ST "coder" "B" (.int cd')) (K' : RoadKit.Arv Z h t' kb' .byte N2' vs' (.int 0)) (hc' : CodA ds cd' N2' vs') (hb' : ∀ c ∈ ds, ¬ c < 0 ∧ ¬ (65535 : Int32) < c) (l2' : ds.length ≤ 4000)
    {z : Int32} (S : RoadKit.Sta Z h ST "COMPACT_STRINGS" "Z" (.int z)) (hz : ¬ z = 0) (hfr : 2 ≤ R.frames) (hlo : W + 28 ≤ R.locals) :
    Back l R p e below s args (⟨"java/lang/String", "equals", "(Ljava/lang/Object;)Z"⟩ : MethodName) len W (fun P a => a = #[.ref x, .ref y] ∧ P.U.heap = h ∧ P.cells + 0 ≤ R.cells ∧ P.slots + 0 ≤ R.slots)
      (fun P _ v B => ∃ L, (((v = some (.int 1) ∧ cs = ds) ∨ (v = some (.int 0) ∧ ¬ cs = ds)) ∧ L = [] ∧ B.U.heap = h) ∧ B.locs = P.locs ++ L ∧ B.cells = P.cells + 0 ∧ B.slots = P.slots + 0) := by
  intro m meth c P g ig mk a X hg hsize hdg hW hn hp'
  obtain ⟨rfl, rfl, r1, r2⟩ := hp'
  have al : Z.vm.Alike P.U.vm := hZ.alike.trans X.warmed.alike
  obtain ⟨A, hx⟩ := txt_of wi al E V C K hc hb l2
  obtain ⟨A', hy⟩ := txt_of wi al E' V' C' K' hc' hb' l2'
  obtain ⟨v, B, X', ⟨⟨w, hv, hh, hq⟩, hl, hk, hs⟩, st⟩ := SEq.pays x t A cd cs.length (fun j => cs.getD j 0) y t' A' cd' ds.length (fun j => ds.getD j 0) z (tabEq_of (movedEq hZ hw)) hfr hlo m meth c P g ig mk _ X hg hsize hdg hW hn ⟨r1, r2, rfl, hx, hy, sta_is al S, hz⟩
  refine ⟨v, B, X', ⟨[], ⟨?_, rfl, hh⟩, hl, hk, hs⟩, st⟩
  rcases hq with ⟨rfl, q⟩ | ⟨rfl, q⟩
  · exact Or.inl ⟨hv, (same_list cs ds).mp q⟩
  · exact Or.inr ⟨hv, fun e => q ((same_list cs ds).mpr e)⟩
end StrChars.Road
namespace StrChars.Road
open Jvm Sem ClassFile Op Lib Jvm.Stand Jvm.Free Jvm.Free.XT
open Jvm.Lib.Cold (StaticIs)
/-- what backV says of its String, as the contracts of this text ask it: cs's low bytes, coder 0 -/
theorem codOf {cs : List Int32} {n : Nat} (hn : cs.length = n) (hb : ∀ c ∈ cs, ¬ 255 < c) : CodA cs 0 (Int32.ofNat n) ((cs.map lo8).map Value.int) := Or.inl ⟨rfl, by rw [hn], by simp [List.map_map, Function.comp_def], hb⟩
end StrChars.Road
end Jvm.Pilot.@@N@@
namespace Jvm.Pilot.@@N@@
namespace W
open Jvm Jvm.ClassFile Sem Op Lib Jvm.Free Jvm.Stand Jvm.LawKit Jvm.RoadKit Bundle
/-- x is a String of the chars cs -/
def Str (Z : State) (h : Heap) (x : Addr) (cs : List Int32) : Prop := ∃ (t : Addr) (kb : ClassId) (N cd : Int32) (vs : List Value), Exa Z h x "java/lang/String" ∧ Fld Z h x "java/lang/String" "value" "[B" (.ref t) ∧ Fld Z h x "java/lang/String" "coder" "B" (.int cd) ∧ Arv Z h t kb .byte N vs (.int 0) ∧ StrChars.Road.CodA cs cd N vs ∧ (∀ c ∈ cs, ¬ c < 0 ∧ ¬ (65535 : Int32) < c) ∧ cs.length ≤ 4000
theorem Str.ext {Z : State} {h h' : Heap} {x : Addr} {cs : List Int32} (S : Str Z h x cs) (E : Ext h h') : Str Z h' x cs := by
  obtain ⟨t, kb, N, cd, vs, a, b, c, d, r⟩ := S; exact ⟨t, kb, N, cd, vs, a.ext E, b.ext E, c.ext E, d.ext E, r⟩
theorem Str.exa {Z : State} {h : Heap} {x : Addr} {cs : List Int32} (S : Str Z h x cs) : Exa Z h x "java/lang/String" := by
  obtain ⟨t, kb, N, cd, vs, a, r⟩ := S; exact a
theorem Str.keepExa {Z : State} {h h' : Heap} {x y : Addr} {cs : List Int32} {C : String} {n : Nat} {a0 : Array Value} (S : Str Z h x cs) (K : Keep h h' [y]) (E : Exa Z h y C) (wi : (Jvm.Cond.instantiable C n).before a0 Z = true) (hC : C ≠ "java/lang/String" := by decide) : Str Z h' x cs := by
  obtain ⟨t, kb, N, cd, vs, a, b, c, d, r⟩ := S
  have n1 : x ≠ y := Exa.ne a E (Ne.symm hC)
  have n2 : t ≠ y := Ne.symm (Exa.neArv E d wi)
  exact ⟨t, kb, N, cd, vs, a.keep K, b.keep K (ninS n1 nin0), c.keep K (ninS n1 nin0), d.keep K (ninS n2 nin0), r⟩
/-- null, or such a String -/
def OStr (Z : State) (h : Heap) (v : Value) (o : Option (List Int32)) : Prop := (v = .null ∧ o = none) ∨ ∃ a cs, v = .ref a ∧ o = some cs ∧ Str Z h a cs
theorem OStr.ext {Z : State} {h h' : Heap} {v : Value} {o : Option (List Int32)} (S : OStr Z h v o) (E : Ext h h') : OStr Z h' v o := by
  rcases S with q | ⟨a, cs, q1, q2, q3⟩
  · exact Or.inl q
  · exact Or.inr ⟨a, cs, q1, q2, q3.ext E⟩
theorem OStr.isRef {Z : State} {h : Heap} {v : Value} {o : Option (List Int32)} (S : OStr Z h v o) : v.isRef = true := by
  rcases S with ⟨rfl, -⟩ | ⟨a, cs, rfl, -⟩ <;> rfl
end W
end Jvm.Pilot.@@N@@
namespace Jvm.Pilot.@@N@@
namespace W
open Jvm Jvm.ClassFile Sem Op Lib Jvm.Free Jvm.Stand Jvm.LawKit Jvm.RoadKit Bundle
theorem i32 {n : Nat} (h : n < 2147483648) : (Int32.ofNat n).toInt = n := Int32.toInt_ofNat_of_lt h
theorem n32 {n : Nat} (h : n < 2147483648) : (Int32.ofNat n).toNatClampNeg = n := by rw [Int32.toNatClampNeg, i32 h]; rfl
theorem nn32 {n : Nat} (h : n < 2147483648) : ¬ Int32.ofNat n < 0 := by
  rw [Int32.lt_iff_toInt_lt, i32 h]; have e : (0 : Int32).toInt = 0 := rfl; omega
theorem lt32 {i n : Nat} (hi : i < 2147483648) (hn : n < 2147483648) : Int32.ofNat i < Int32.ofNat n ↔ i < n := by
  rw [Int32.lt_iff_toInt_lt, i32 hi, i32 hn]; omega
theorem eq32 {i n : Nat} (hi : i < 2147483648) (hn : n < 2147483648) : Int32.ofNat i = Int32.ofNat n ↔ i = n := by
  rw [← Int32.toInt_inj, i32 hi, i32 hn]; omega
theorem succ32 (i : Nat) : Int32.ofNat i + Int32.ofInt 1 = Int32.ofNat (i + 1) := by
  rw [Int32.ofNat_add]; rfl
theorem shl1 (n : Nat) : Int32.ofNat n <<< ((1 : Int32) &&& 31) = Int32.ofNat (2 * n) := by
  have e : ((1 : Int32) &&& 31) = 1 := by decide
  rw [e]
  apply Int32.toBitVec_inj.mp
  rw [Int32.toBitVec_shiftLeft]
  have e1 : ((1 : Int32).toBitVec.smod 32) = 1#32 := by decide
  rw [e1, BitVec.shiftLeft_eq']
  apply BitVec.eq_of_toNat_eq
  show ((BitVec.ofNat 32 n) <<< 1).toNat = (BitVec.ofNat 32 (2 * n)).toNat
  rw [BitVec.toNat_shiftLeft, BitVec.toNat_ofNat, BitVec.toNat_ofNat, Nat.shiftLeft_eq]
  omega
theorem nar8 (x : Int32) : nar .byte (StrChars.lo8 x) = StrChars.lo8 x := by
  show (x.toInt8.toInt32).toInt8.toInt32 = x.toInt8.toInt32
  rw [Int8.toInt8_toInt32]
theorem stI {ls ls2 : Array Slot} {k : Nat} {v : Int32} {o : Slot} (hold : ls[k]? = some o) (ho : One o) (h2 : ls.setIfInBounds k (.val (.int v)) = ls2) : storeLocals ls k (.int v) = some ls2 := by
  rw [← h2]; exact Jvm.Free.XS.store1 hold ho rfl
theorem safe0 {Z : State} {vm : Vm} {h : Heap} {x : Addr} : Safe Z [] vm h x := fun B => by obtain ⟨q, hq, -⟩ := B; cases hq
def upd (f : Nat → Int32) (i : Nat) (v : Int32) : Nat → Int32 := fun j => if j = i then v else f j
/-- the array a holds the n ints f 0 .. f (n - 1) -/
def Arg (Z : State) (h : Heap) (a : Addr) (k : ClassId) (ty : FieldType) (n : Nat) (f : Nat → Int32) : Prop := ∃ vs : List Value, Arv Z h a k ty (Int32.ofNat n) vs (.int 0) ∧ vs.length = n ∧ n < 2147483648 ∧ ∀ i, i < n → vs.getD i (.int 0) = .int (f i)
section A
variable {Z : State} {h h' : Heap} {a b : Addr} {k : ClassId} {ty : FieldType} {n : Nat} {f g : Nat → Int32}
theorem Arg.ext (A : Arg Z h a k ty n f) (E : Ext h h') : Arg Z h' a k ty n f := by obtain ⟨vs, q, r⟩ := A; exact ⟨vs, q.ext E, r⟩
theorem Arg.keep {ws : List Addr} (A : Arg Z h a k ty n f) (K : Keep h h' ws) (q : a ∉ ws) : Arg Z h' a k ty n f := by obtain ⟨vs, r, t⟩ := A; exact ⟨vs, r.keep K q, t⟩
theorem Arg.other {sl : Nat} {v : Value} (A : Arg Z h b k ty n f) (W : Wr h h' a sl v) (q : b ≠ a) : Arg Z h' b k ty n f := by obtain ⟨vs, r, t⟩ := A; exact ⟨vs, r.other W q, t⟩
theorem Arg.lt (A : Arg Z h a k ty n f) : a < h.size := by obtain ⟨vs, r, t⟩ := A; exact r.lt
theorem Arg.arv (A : Arg Z h a k ty n f) : ∃ vs, Arv Z h a k ty (Int32.ofNat n) vs (.int 0) := by obtain ⟨vs, r, t⟩ := A; exact ⟨vs, r⟩
theorem Arg.small (A : Arg Z h a k ty n f) : n < 2147483648 := by obtain ⟨vs, r, t, u, -⟩ := A; exact u
theorem Arg.congr (A : Arg Z h a k ty n f) (q : ∀ i, i < n → f i = g i) : Arg Z h a k ty n g := by obtain ⟨vs, r, t, u, w⟩ := A; exact ⟨vs, r, t, u, fun i hi => by rw [w i hi, q i hi]⟩
theorem Arg.new (hn : n < 2147483648) (V : Arv Z h a k ty (Int32.ofNat n) (List.replicate (Int32.ofNat n).toNatClampNeg (.int 0)) (.int 0)) : Arg Z h a k ty n (fun _ => 0) := ⟨_, V, by rw [List.length_replicate, n32 hn], hn, fun i hi => by
  rw [n32 hn]; simp [List.getD_eq_getElem?_getD, hi]⟩
end A
section P
variable {p : Program} {l : Launch} {e : Env} {R : Room} {s : State} {m : MethodId} {args : Array Value} {below : List Frame} {meth : Method} {c : Code} {code : ByteArray} {Z : State} {EL : List (String × Nat)} {wl : List Addr} {hS : Heap} {own : String} {vm0 : Vm} {T : State} {locs : List Loc} {cells slots : Nat} {h : Heap} {a0 : Array Value} {G : Outcome → State → Prop} {pc pc1 pc2 : Nat} {ls ls2 : Array Slot} {st : List Value}
theorem Pos.ldCg (P : Pos p l e R s m args below meth c code Z EL wl hS own vm0 T locs cells slots h) {a : Addr} {k : ClassId} {n i : Nat} {f : Nat → Int32} (V : Arg Z h a k .char n f) (hi : i < n) (hd : decode code pc = .ok (.caload, 1)) (hp : pc + 1 = pc1) (K : Go p.tables e below G (T.setTop (mkF m pc1 ls (.int (f i) :: st)))) : Go p.tables e below G (T.setTop (mkF m pc ls (.int (Int32.ofNat i) :: .ref a :: st))) := by
  obtain ⟨vs, r, t, u, w⟩ := V
  exact P.ldC r (nn32 (by omega)) (by rw [n32 (by omega), n32 u]; exact hi) (by rw [n32 (by omega)]; exact w i hi) hd hp K
theorem Pos.ldBg (P : Pos p l e R s m args below meth c code Z EL wl hS own vm0 T locs cells slots h) {a : Addr} {k : ClassId} {n i : Nat} {f : Nat → Int32} (V : Arg Z h a k .byte n f) (hi : i < n) (hd : decode code pc = .ok (.baload, 1)) (hp : pc + 1 = pc1) (K : Go p.tables e below G (T.setTop (mkF m pc1 ls (.int (f i) :: st)))) : Go p.tables e below G (T.setTop (mkF m pc ls (.int (Int32.ofNat i) :: .ref a :: st))) := by
  obtain ⟨vs, r, t, u, w⟩ := V
  exact P.ldB r (nn32 (by omega)) (by rw [n32 (by omega), n32 u]; exact hi) (by rw [n32 (by omega)]; exact w i hi) hd hp K
theorem Arg.set_ {a : Addr} {k : ClassId} {ty : FieldType} {n i : Nat} {f : Nat → Int32} {vs : List Value} {v : Int32} (V : Arv Z h a k ty (Int32.ofNat n) (vs.set i (.int v)) (.int 0)) (t : vs.length = n) (u : n < 2147483648) (w : ∀ i, i < n → vs.getD i (.int 0) = .int (f i)) : Arg Z h a k ty n (upd f i v) := by
  refine ⟨_, V, by rw [List.length_set]; exact t, u, fun j hj => ?_⟩
  simp only [List.getD_eq_getElem?_getD, List.getElem?_set, upd]
  by_cases q : i = j
  · subst q; simp [t, hj]
  · rw [if_neg q, if_neg (Ne.symm q), ← List.getD_eq_getElem?_getD]; exact w j hj
theorem Pos.stBg (P : Pos p l e R s m args below meth c code Z EL wl hS own vm0 T locs cells slots h) {a : Addr} {k : ClassId} {n i : Nat} {f : Nat → Int32} {x : Int32} (V : Arg Z h a k .byte n f) (hi : i < n) (ga : a ∈ wl ∨ hS.size ≤ a) (S : Safe Z EL vm0 h a) (hd : decode code pc = .ok (.bastore, 1)) (hp : pc + 1 = pc1)
    (K : ∀ (T' : State) (h' : Heap), Pos p l e R s m args below meth c code Z EL wl hS own vm0 T' (locs ++ [⟨a, (Int32.ofNat i).toNatClampNeg⟩]) cells slots h' → Wr h h' a (Int32.ofNat i).toNatClampNeg (.int (nar .byte x)) → Arg Z h' a k .byte n (upd f i (nar .byte x)) → Go p.tables e below G (T'.setTop (mkF m pc1 ls st))) : Go p.tables e below G (T.setTop (mkF m pc ls (.int x :: .int (Int32.ofNat i) :: .ref a :: st))) := by
  obtain ⟨vs, r, t, u, w⟩ := V
  exact P.stB r (nn32 (by omega)) (n32 (by omega)) (by omega) (by rw [n32 u, t]) ga S hd hp (fun T' h' P' W' V' => K T' h' P' W' (Arg.set_ V' t u w))
theorem Pos.stCg (P : Pos p l e R s m args below meth c code Z EL wl hS own vm0 T locs cells slots h) {a : Addr} {k : ClassId} {n i : Nat} {f : Nat → Int32} {x : Int32} (V : Arg Z h a k .char n f) (hi : i < n) (ga : a ∈ wl ∨ hS.size ≤ a) (S : Safe Z EL vm0 h a) (hd : decode code pc = .ok (.castore, 1)) (hp : pc + 1 = pc1)
    (K : ∀ (T' : State) (h' : Heap), Pos p l e R s m args below meth c code Z EL wl hS own vm0 T' (locs ++ [⟨a, (Int32.ofNat i).toNatClampNeg⟩]) cells slots h' → Wr h h' a (Int32.ofNat i).toNatClampNeg (.int (nar .char x)) → Arg Z h' a k .char n (upd f i (nar .char x)) → Go p.tables e below G (T'.setTop (mkF m pc1 ls st))) : Go p.tables e below G (T.setTop (mkF m pc ls (.int x :: .int (Int32.ofNat i) :: .ref a :: st))) := by
  obtain ⟨vs, r, t, u, w⟩ := V
  exact P.stC r (nn32 (by omega)) (n32 (by omega)) (by omega) (by rw [n32 u, t]) ga S hd hp (fun T' h' P' W' V' => K T' h' P' W' (Arg.set_ V' t u w))
theorem Pos.lenG (P : Pos p l e R s m args below meth c code Z EL wl hS own vm0 T locs cells slots h) {a : Addr} {k : ClassId} {ty : FieldType} {n : Nat} {f : Nat → Int32} (V : Arg Z h a k ty n f) (hd : decode code pc = .ok (.arraylength, 1)) (hp : pc + 1 = pc1) (K : Go p.tables e below G (T.setTop (mkF m pc1 ls (.int (Int32.ofNat n) :: st)))) : Go p.tables e below G (T.setTop (mkF m pc ls (.ref a :: st))) := by
  obtain ⟨vs, r⟩ := V.arv; exact P.len r hd hp K
end P
theorem Arg.list {Z : State} {h : Heap} {a : Addr} {k : ClassId} {ty : FieldType} {n : Nat} {f : Nat → Int32} {cs : List Int32} (A : Arg Z h a k ty n f) (hl : cs.length = n) (q : ∀ i, i < n → f i = cs.getD i 0) : Arv Z h a k ty (Int32.ofNat n) (cs.map Value.int) (.int 0) := by
  obtain ⟨vs, V, t, u, w⟩ := A
  refine V.pad (fun i => ?_)
  by_cases hi : i < n
  · rw [w i hi, q i hi]
    simp only [List.getD_eq_getElem?_getD, List.getElem?_map]
    rw [List.getElem?_eq_getElem (by omega)]; rfl
  · simp only [List.getD_eq_getElem?_getD]
    rw [List.getElem?_eq_none (by simp; omega), List.getElem?_eq_none (by omega)]
theorem Arg.safe {Z : State} {h : Heap} {a : Addr} {k : ClassId} {ty : FieldType} {n : Nat} {f : Nat → Int32} {EL : List (String × Nat)} {vm : Vm} (hal : Z.vm.Alike vm) (A : Arg Z h a k ty n f) (ht : ty ≠ .byte) : Safe Z EL vm h a := by
  obtain ⟨vs, V, -⟩ := A; exact Safe.arv hal V ht
/-- how n chars f lie in N bytes g, by the coder cd -/
def Cdd (n : Nat) (f : Nat → Int32) (cd : Int32) (N : Nat) (g : Nat → Int32) : Prop := (cd = 0 ∧ N = n ∧ ∀ i, i < n → g i = StrChars.lo8 (f i) ∧ ¬ (255 : Int32) < f i) ∨ (cd = 1 ∧ N = 2 * n ∧ (∀ i, i < n → g (2 * i) = StrChars.lo8 (f i) ∧ g (2 * i + 1) = StrChars.hi8 (f i)) ∧ ∃ i, i < n ∧ (255 : Int32) < f i)
/-- x is a String of the n chars f -/
def UStr (Z : State) (h : Heap) (x : Addr) (n : Nat) (f : Nat → Int32) : Prop := ∃ (t : Addr) (kb : ClassId) (cd : Int32) (N : Nat) (g : Nat → Int32), Exa Z h x "java/lang/String" ∧ Fld Z h x "java/lang/String" "value" "[B" (.ref t) ∧ Fld Z h x "java/lang/String" "coder" "B" (.int cd) ∧ Arg Z h t kb .byte N g ∧ Cdd n f cd N g ∧ (∀ i, i < n → ¬ f i < 0 ∧ ¬ (65535 : Int32) < f i) ∧ 2 * n < 2147483648
theorem UStr.ext {Z : State} {h h' : Heap} {x : Addr} {n : Nat} {f : Nat → Int32} (S : UStr Z h x n f) (E : Ext h h') : UStr Z h' x n f := by
  obtain ⟨t, kb, cd, N, g, a, b, c, d, r⟩ := S; exact ⟨t, kb, cd, N, g, a.ext E, b.ext E, c.ext E, d.ext E, r⟩
theorem UStr.exa {Z : State} {h : Heap} {x : Addr} {n : Nat} {f : Nat → Int32} (S : UStr Z h x n f) : Exa Z h x "java/lang/String" := by
  obtain ⟨t, kb, cd, N, g, a, r⟩ := S; exact a
theorem UStr.congr {Z : State} {h : Heap} {x : Addr} {n : Nat} {f f' : Nat → Int32} (S : UStr Z h x n f) (q : ∀ i, i < n → f i = f' i) : UStr Z h x n f' := by
  obtain ⟨t, kb, cd, N, g, a, b, c, d, r, u, w⟩ := S
  refine ⟨t, kb, cd, N, g, a, b, c, d, ?_, fun i hi => by rw [← q i hi]; exact u i hi, w⟩
  rcases r with ⟨r1, r2, r3⟩ | ⟨r1, r2, r3, j, r4, r5⟩
  · exact Or.inl ⟨r1, r2, fun i hi => by rw [← q i hi]; exact r3 i hi⟩
  · exact Or.inr ⟨r1, r2, fun i hi => by rw [← q i hi]; exact r3 i hi, j, r4, by rw [← q j r4]; exact r5⟩
theorem Arg.of {Z : State} {h : Heap} {a : Addr} {k : ClassId} {ty : FieldType} {vs : List Value} {f : Nat → Int32} (n : Nat) (V : Arv Z h a k ty (Int32.ofNat n) vs (.int 0)) (hl : vs.length = n) (hn : n < 2147483648) (w : ∀ i, i < n → vs.getD i (.int 0) = .int (f i)) : Arg Z h a k ty n f := ⟨vs, V, hl, hn, w⟩
theorem Cdd.cd {n : Nat} {f : Nat → Int32} {cd : Int32} {N : Nat} {g : Nat → Int32} (h : Cdd n f cd N g) : cd = 0 ∨ cd = 1 := h.imp (fun q => q.1) (fun q => q.1)
theorem Cdd.len {n : Nat} {f : Nat → Int32} {cd : Int32} {N : Nat} {g : Nat → Int32} (h : Cdd n f cd N g) (hn : 2 * n < 2147483648) : Int32.ofNat N >>> (cd &&& 31) = Int32.ofNat n := by
  rcases h with ⟨rfl, rfl, -⟩ | ⟨rfl, rfl, -⟩
  · exact StrChars.shr0 _
  · exact StrChars.shr1 hn
theorem Cdd.cfal {n : Nat} {f : Nat → Int32} {cd : Int32} {N : Nat} {g : Nat → Int32} (h : Cdd n f cd N g) (h0 : 0 < n) (hn : 2 * n < 2147483648) : (Jvm.Free.XT.ushr (Int32.ofNat n - Int32.ofNat N) 31).toInt8.toInt32 = cd := by
  rcases h with ⟨rfl, rfl, -⟩ | ⟨rfl, rfl, -⟩
  · rw [Int32.sub_self]; decide
  · have e : Jvm.Free.XT.ushr (Int32.ofNat n - Int32.ofNat (2 * n)) 31 = 1 := by
      unfold Jvm.Free.XT.ushr
      have e0 : ((31 : Int32) &&& 31).toUInt32 = 31 := by decide
      rw [e0]
      apply Int32.toBitVec_inj.mp
      apply BitVec.eq_of_toNat_eq
      show ((Int32.ofNat n - Int32.ofNat (2 * n)).toUInt32 >>> (31 : UInt32)).toNat = 1
      rw [UInt32.toNat_shiftRight]
      have e1 : (Int32.ofNat n - Int32.ofNat (2 * n)).toUInt32.toNat = 4294967296 - n := by
        show (BitVec.ofNat 32 n - BitVec.ofNat 32 (2 * n)).toNat = _
        rw [BitVec.toNat_sub, BitVec.toNat_ofNat, BitVec.toNat_ofNat]; omega
      rw [e1, Nat.shiftRight_eq_div_pow]
      show (4294967296 - n) / 2147483648 = 1
      omega
    rw [e]; decide
end W
end Jvm.Pilot.@@N@@
namespace Jvm.Pilot.@@N@@
namespace W
open Jvm Jvm.ClassFile Sem Op Lib Jvm.Free Jvm.Stand Jvm.LawKit Jvm.RoadKit Bundle
theorem hasL_of {c : Cell} {dv : Value} : ∀ (vs : List Value) (i : Nat), (∀ j, j < vs.length → c.slots[i + j]? = some (vs.getD j dv)) → HasL c i vs
  | [], _, _ => trivial
  | v :: r, i, H => ⟨H 0 (Nat.succ_pos _), hasL_of r (i + 1) (fun j q => by have := H (j + 1) (Nat.succ_lt_succ q); rw [Nat.add_right_comm]; exact this)⟩
theorem j32 {n : Nat} (h : n < 2147483648) : (Int32.ofNat n).toInt = n := Int32.toInt_ofNat_of_lt h
theorem k32 {n : Nat} (h : n < 2147483648) : (Int32.ofNat n).toNatClampNeg = n := by rw [Int32.toNatClampNeg, j32 h]; rfl
/-- an array of the start -/
theorem arvStart {Z : State} {args : Array Value} {t : Term} {a : Addr} {ty : FieldType} {vs : List Value} {dv : Value} (n : Nat) (hf : Fit Z) (ev : t.eval args Z none [] Z = some (.ref a)) (ha : (Jvm.Cond.arrayOf t ty).value args Z none Z [] = some true) (hl : (Term.length t).eval args Z none [] Z = some (.int (Int32.ofNat n))) (hn : n < 2147483648) (hlen : vs.length = n) (H : ∀ i, i < n → (Term.elem t (.int (Int32.ofNat i))).eval args Z none [] Z = some (vs.getD i dv)) : ∃ k, Arv Z Z.heap a k ty (Int32.ofNat n) vs dv := by
  obtain ⟨c, A⟩ := Arr.start ev ha
  have ha' := Arr.fin (Vm.Alike.refl _) A
  have hs : c.slots.size < 2147483648 ∧ c.slots.size.toInt32 = Int32.ofNat n := by
    simp only [Term.eval, ev, ha', Option.bind_eq_bind, Option.bind_some] at hl
    by_cases q : c.slots.size < 2147483648
    · rw [if_pos q] at hl; exact ⟨q, Value.int.inj (Option.some.inj hl)⟩
    · rw [if_neg q] at hl; cases hl
  refine ⟨c.cls, Arv.start hf A hs.1 hs.2 ?_ (by rw [k32 hn, hlen]) (hasL_of (dv := dv) vs 0 fun j hj => ?_)⟩
  · rw [Int32.lt_iff_toInt_lt, j32 hn]; show ¬ (n : Int) < 0; omega
  · have q := (elem_in (H j (hlen ▸ hj)) ev (Term.int_eval _) A.1).2
    rw [k32 (by omega)] at q; rw [Nat.zero_add]; exact q
theorem eqRef {args : Array Value} {first s : State} {o : Option Outcome} {idx : List Nat} {t u : Term} {p : Addr} (h : (Jvm.Cond.eq t u).value args first o s idx = some true) (hu : u.eval args first o idx s = some (.ref p)) : t.eval args first o idx s = some (.ref p) := by
  obtain ⟨x, y, e1, e2, -, k2⟩ := cmp_v (Or.inl h)
  cases hu.symm.trans e2
  have hx : x.isRef = true := k2.2
  rw [e1, gotT (eq_R e1 hu hx rfl) h]
/-- a String of the start, its bytes told -/
theorem strStart {Z : State} {args : Array Value} {t : Term} {a : Addr} {cs : List Int32} (n : Nat) (hf : Fit Z) (ev : t.eval args Z none [] Z = some (.ref a)) (hx : (Jvm.Cond.exactly t "java/lang/String").value args Z none Z [] = some true) (hcd : (Term.field t "java/lang/String" "coder" "B").eval args Z none [] Z = some (.int 0)) (ha : (Jvm.Cond.arrayOf (Term.field t "java/lang/String" "value" "[B") .byte).value args Z none Z [] = some true) (hl : (Term.length (Term.field t "java/lang/String" "value" "[B")).eval args Z none [] Z = some (.int (Int32.ofNat n))) (hn : n ≤ 4000) (hlen : cs.length = n) (hp : ∀ c ∈ cs, ¬ c < 0 ∧ ¬ (255 : Int32) < c) (H : ∀ i, i < n → (Term.elem (Term.field t "java/lang/String" "value" "[B") (.int (Int32.ofNat i))).eval args Z none [] Z = some (((cs.map StrChars.lo8).map Value.int).getD i (.int 0))) : Str Z Z.heap a cs := by
  obtain ⟨b, eb⟩ := arr_v ha
  obtain ⟨k, V⟩ := arvStart (vs := (cs.map StrChars.lo8).map Value.int) (dv := .int 0) n hf eb ha hl (by omega) (by simp [hlen]) H
  have up : ∀ c : Int32, ¬ (255 : Int32) < c → ¬ (65535 : Int32) < c := fun c h => by
    rw [Int32.lt_iff_toInt_lt] at h ⊢
    have e0 : (255 : Int32).toInt = 255 := rfl
    have e1 : (65535 : Int32).toInt = 65535 := rfl
    omega
  exact ⟨b, k, _, 0, _, Exa.start ev hx, Fld.start ((fld_at ev).symm.trans eb), Fld.start ((fld_at ev).symm.trans hcd), V, StrChars.Road.codOf hlen (fun c hc => (hp c hc).2), fun c hc => ⟨(hp c hc).1, up c (hp c hc).2⟩, by omega⟩
end W
end Jvm.Pilot.@@N@@
namespace Jvm.Pilot.@@N@@
namespace W
open Jvm Jvm.ClassFile Sem Op Lib Jvm.Free Jvm.Stand Jvm.LawKit Jvm.RoadKit Bundle
def QEq (cs ds : List Int32) (h0 : Heap) (v : Option Value) (h : Heap) (L : List Loc) : Prop := ((v = some (.int 1) ∧ cs = ds) ∨ (v = some (.int 0) ∧ ¬ cs = ds)) ∧ L = [] ∧ h0 = h
theorem QEq.ok {cs ds : List Int32} {h0 : Heap} {Z : State} {EL : List (String × Nat)} {vm0 : Vm} {wl : List Addr} {n : Nat} (H : CHv Z EL vm0 h0) : ∀ u h L, QEq cs ds h0 u h L → Frw wl n L ∧ CHr Z EL vm0 h0 vm0 h := fun u h L q => by
  obtain ⟨-, rfl, rfl⟩ := q; exact ⟨Frw.nil, CHr.refl H⟩
theorem Str.eqPay {p : Program} {l : Launch} {e : Env} {R : Room} {s : State} {args : Array Value} {below : List Frame} {len k : Nat} {Z : State} {a0 : Array Value} {h : Heap} {vm0 : Vm} (hZ : Z.Warmed39 (s.setVm vm0).vm) (hw : ∀ d ∈ StrChars.Road.wordsEq, d.before a0 Z = true) (wi : (Jvm.Cond.instantiable "java/lang/String" 4).before a0 Z = true) {x y : Addr} {cs ds : List Int32} (S1 : Str Z h x cs) (S2 : Str Z h y ds) {z : Int32} (C : Sta Z h "java/lang/String" "COMPACT_STRINGS" "Z" (.int z)) (hz : ¬ z = 0) (hfr : 2 ≤ R.frames) (hlo : k + 28 ≤ R.locals) :
    Back l R p e below (s.setVm vm0) args (⟨"java/lang/String", "equals", "(Ljava/lang/Object;)Z"⟩ : MethodName) len k (fun P a => a = #[.ref x, .ref y] ∧ P.U.heap = h ∧ P.cells + 0 ≤ R.cells ∧ P.slots + 0 ≤ R.slots)
      (fun P _ v B => ∃ L, QEq cs ds h v B.U.heap L ∧ B.locs = P.locs ++ L ∧ B.cells = P.cells + 0 ∧ B.slots = P.slots + 0) := by
  obtain ⟨t, kb, N, cd, vs, a, b, c, d, f, g, i⟩ := S1
  obtain ⟨t', kb', N', cd', vs', a', b', c', d', f', g', i'⟩ := S2
  exact Back.mono (StrChars.Road.eqW hZ hw wi a b c d f g i a' b' c' d' f' g' i' C hz hfr hlo) (fun _ _ q => q) (fun _ _ _ _ _ q => by obtain ⟨L, ⟨q1, q2, q3⟩, r⟩ := q; exact ⟨L, ⟨q1, q2, q3.symm⟩, r⟩)
end W
end Jvm.Pilot.@@N@@
namespace Jvm.Pilot.@@N@@
open Jvm Jvm.ClassFile Sem Op Lib Jvm.Free Jvm.Stand Jvm.LawKit Jvm.RoadKit Bundle Jvm.Pilot.@@N@@.Jvm.D
theorem wd {a0 : Array Value} {Z : State} (hw : ∀ d ∈ tables_1, d.before a0 Z = true) {k : Nat} {d : Jvm.Cond} (h : tables_1[k]? = some d) : d.before a0 Z = true := hw d (List.mem_of_getElem? h)
abbrev ownEL : List (String × Nat) := [("com/example/numerary/numerary/ScoringOfCodePinLaw", 13), ("com/example/numerary/numerary/ScoringOfCodePinLaw", 24), ("com/example/numerary/numerary/ScoringOfCodePinLaw", 26), ("java/lang/String", 7)]
theorem own_atoms : ∀ d ∈ Bundle.stringAtoms, d ∈ tables_1 := by decide +kernel
theorem own_consts : ∀ p ∈ ownEL, p ∈ consts_1 := by decide +kernel
theorem own_words : ∀ d ∈ StrChars.Road.words, d ∈ tables_1 := by decide +kernel
theorem own_wordsEq : ∀ d ∈ StrChars.Road.wordsEq, d ∈ tables_1 := by decide +kernel
theorem own_up {c : Int32} (h : ¬ (255 : Int32) < c) : ¬ (65535 : Int32) < c := by
  rw [Int32.lt_iff_toInt_lt] at h ⊢
  have e0 : (255 : Int32).toInt = 255 := rfl
  have e1 : (65535 : Int32).toInt = 65535 := rfl
  omega
theorem own_m255 (x : Int32) : ¬ (x &&& 255) < 0 ∧ ¬ (255 : Int32) < (x &&& 255) := by
  have q := c_mask x 255 8 (by decide) (by decide)
  have e0 : (0 : Int32).toInt = 0 := rfl
  have e1 : (255 : Int32).toInt = 255 := rfl
  rw [Int32.lt_iff_toInt_lt, Int32.lt_iff_toInt_lt]; omega
theorem own_nar255 (x : Int32) : nar .char (x &&& 255) = x &&& 255 := i2c_mask x
theorem own_mask3 (x : Int32) : (x &&& 3) = 0 ∨ (x &&& 3) = 1 ∨ (x &&& 3) = 2 ∨ (x &&& 3) = 3 := by
  have q := c_mask x 3 2 (by decide) (by decide)
  have r : (x &&& 3).toInt = 0 ∨ (x &&& 3).toInt = 1 ∨ (x &&& 3).toInt = 2 ∨ (x &&& 3).toInt = 3 := by omega
  rcases r with r | r | r | r
  · exact Or.inl (Int32.toInt_inj.mp r)
  · exact Or.inr (Or.inl (Int32.toInt_inj.mp r))
  · exact Or.inr (Or.inr (Or.inl (Int32.toInt_inj.mp r)))
  · exact Or.inr (Or.inr (Or.inr (Int32.toInt_inj.mp r)))
theorem own_rem (y : Int32) (k : Int32) (h : 0 ≤ y.toInt) (hk : 0 < k.toInt) : (y - y / k * k).toInt = y.toInt % k.toInt := by
  have d : (y / k).toInt = y.toInt / k.toInt := by
    rw [Int32.toInt_div, Int.tdiv_eq_ediv_of_nonneg h]
    have h1 : 0 ≤ y.toInt / k.toInt := Int.ediv_nonneg h (by omega)
    have h2 : y.toInt / k.toInt ≤ y.toInt := Int.ediv_le_self _ h
    have h3 := y.toInt_lt
    rw [Int.bmod_eq_of_le (by omega) (by omega)]
  have e := Int.mul_ediv_add_emod y.toInt k.toInt
  have e' : y.toInt / k.toInt * k.toInt = k.toInt * (y.toInt / k.toInt) := Int.mul_comm _ _
  have m0 := Int.emod_nonneg y.toInt (show k.toInt ≠ 0 by omega)
  have h0 : 0 ≤ k.toInt * (y.toInt / k.toInt) := Int.mul_nonneg (by omega) (Int.ediv_nonneg h (by omega))
  have h3 := y.toInt_lt
  have q : (y / k * k).toInt = y.toInt / k.toInt * k.toInt := by
    rw [Int32.toInt_mul, d, Int.bmod_eq_of_le (by omega) (by omega)]
  rw [Int32.toInt_sub, q, Int.bmod_eq_of_le (by omega) (by omega)]; omega
theorem own_eqI {args : Array Value} {first s : State} {o : Option Outcome} {idx : List Nat} {t : Term} {k : Int32} (h : (Jvm.Cond.eq t (.int k)).value args first o s idx = some true) : t.eval args first o idx s = some (.int k) := by
  obtain ⟨x, y, e1, e2, -, k2⟩ := cmp_v (Or.inl h)
  cases Option.some.inj ((Term.int_eval k).symm.trans e2)
  obtain ⟨z, rfl⟩ := k2
  rw [e1, gotT (Cond.eq_ints e1 e2) h]
theorem own_rf {C : String} {v : Value} (h : v.isRef = true) : narrow (.object C) v = v ∧ fits (.object C) v = true := by cases v <;> first | (cases h; done) | exact ⟨rfl, rfl⟩
theorem d1_0 : decode method_3_code 0 = .ok (.ldc 13, 2) := by decide +kernel
theorem d1_2 : decode method_3_code 2 = .ok (.astore_n 2, 1) := by decide +kernel
theorem d1_3 : decode method_3_code 3 = .ok (.iload_n 0, 1) := by decide +kernel
theorem d1_4 : decode method_3_code 4 = .ok (.bipush 10, 2) := by decide +kernel
theorem d1_6 : decode method_3_code 6 = .ok (.if_icmp .ne 93, 3) := by decide +kernel
theorem d1_9 : decode method_3_code 9 = .ok (.new 8, 3) := by decide +kernel
theorem d1_12 : decode method_3_code 12 = .ok (.dup, 1) := by decide +kernel
theorem d1_13 : decode method_3_code 13 = .ok (.bipush 9, 2) := by decide +kernel
theorem d1_15 : decode method_3_code 15 = .ok (.newarray .char, 2) := by decide +kernel
theorem d1_17 : decode method_3_code 17 = .ok (.dup, 1) := by decide +kernel
theorem d1_18 : decode method_3_code 18 = .ok (.iconst 0, 1) := by decide +kernel
theorem d1_19 : decode method_3_code 19 = .ok (.aload_n 2, 1) := by decide +kernel
theorem d1_20 : decode method_3_code 20 = .ok (.iconst 0, 1) := by decide +kernel
theorem d1_21 : decode method_3_code 21 = .ok (.invokevirtual 7, 3) := by decide +kernel
theorem d1_24 : decode method_3_code 24 = .ok (.castore, 1) := by decide +kernel
theorem d1_25 : decode method_3_code 25 = .ok (.dup, 1) := by decide +kernel
theorem d1_26 : decode method_3_code 26 = .ok (.iconst 1, 1) := by decide +kernel
theorem d1_27 : decode method_3_code 27 = .ok (.aload_n 2, 1) := by decide +kernel
theorem d1_28 : decode method_3_code 28 = .ok (.iconst 1, 1) := by decide +kernel
theorem d1_29 : decode method_3_code 29 = .ok (.invokevirtual 7, 3) := by decide +kernel
theorem d1_32 : decode method_3_code 32 = .ok (.castore, 1) := by decide +kernel
theorem d1_33 : decode method_3_code 33 = .ok (.dup, 1) := by decide +kernel
theorem d1_34 : decode method_3_code 34 = .ok (.iconst 2, 1) := by decide +kernel
theorem d1_35 : decode method_3_code 35 = .ok (.aload_n 2, 1) := by decide +kernel
theorem d1_36 : decode method_3_code 36 = .ok (.iconst 2, 1) := by decide +kernel
theorem d1_37 : decode method_3_code 37 = .ok (.invokevirtual 7, 3) := by decide +kernel
theorem d1_40 : decode method_3_code 40 = .ok (.castore, 1) := by decide +kernel
theorem d1_41 : decode method_3_code 41 = .ok (.dup, 1) := by decide +kernel
theorem d1_42 : decode method_3_code 42 = .ok (.iconst 3, 1) := by decide +kernel
theorem d1_43 : decode method_3_code 43 = .ok (.aload_n 2, 1) := by decide +kernel
theorem d1_44 : decode method_3_code 44 = .ok (.iconst 3, 1) := by decide +kernel
theorem d1_45 : decode method_3_code 45 = .ok (.invokevirtual 7, 3) := by decide +kernel
theorem d1_48 : decode method_3_code 48 = .ok (.castore, 1) := by decide +kernel
theorem d1_49 : decode method_3_code 49 = .ok (.dup, 1) := by decide +kernel
theorem d1_50 : decode method_3_code 50 = .ok (.iconst 4, 1) := by decide +kernel
theorem d1_51 : decode method_3_code 51 = .ok (.aload_n 2, 1) := by decide +kernel
theorem d1_52 : decode method_3_code 52 = .ok (.iconst 4, 1) := by decide +kernel
theorem d1_53 : decode method_3_code 53 = .ok (.invokevirtual 7, 3) := by decide +kernel
theorem d1_56 : decode method_3_code 56 = .ok (.castore, 1) := by decide +kernel
theorem d1_57 : decode method_3_code 57 = .ok (.dup, 1) := by decide +kernel
theorem d1_58 : decode method_3_code 58 = .ok (.iconst 5, 1) := by decide +kernel
theorem d1_59 : decode method_3_code 59 = .ok (.aload_n 2, 1) := by decide +kernel
theorem d1_60 : decode method_3_code 60 = .ok (.iconst 5, 1) := by decide +kernel
theorem d1_61 : decode method_3_code 61 = .ok (.invokevirtual 7, 3) := by decide +kernel
theorem d1_64 : decode method_3_code 64 = .ok (.castore, 1) := by decide +kernel
theorem d1_65 : decode method_3_code 65 = .ok (.dup, 1) := by decide +kernel
theorem d1_66 : decode method_3_code 66 = .ok (.bipush 6, 2) := by decide +kernel
theorem d1_68 : decode method_3_code 68 = .ok (.aload_n 2, 1) := by decide +kernel
theorem d1_69 : decode method_3_code 69 = .ok (.bipush 6, 2) := by decide +kernel
theorem d1_71 : decode method_3_code 71 = .ok (.invokevirtual 7, 3) := by decide +kernel
theorem d1_74 : decode method_3_code 74 = .ok (.castore, 1) := by decide +kernel
theorem d1_75 : decode method_3_code 75 = .ok (.dup, 1) := by decide +kernel
theorem d1_76 : decode method_3_code 76 = .ok (.bipush 7, 2) := by decide +kernel
theorem d1_78 : decode method_3_code 78 = .ok (.aload_n 2, 1) := by decide +kernel
theorem d1_79 : decode method_3_code 79 = .ok (.bipush 7, 2) := by decide +kernel
theorem d1_81 : decode method_3_code 81 = .ok (.invokevirtual 7, 3) := by decide +kernel
theorem d1_84 : decode method_3_code 84 = .ok (.castore, 1) := by decide +kernel
theorem d1_85 : decode method_3_code 85 = .ok (.dup, 1) := by decide +kernel
theorem d1_86 : decode method_3_code 86 = .ok (.bipush 8, 2) := by decide +kernel
theorem d1_88 : decode method_3_code 88 = .ok (.aload_n 2, 1) := by decide +kernel
theorem d1_89 : decode method_3_code 89 = .ok (.bipush 8, 2) := by decide +kernel
theorem d1_91 : decode method_3_code 91 = .ok (.invokevirtual 7, 3) := by decide +kernel
theorem d1_94 : decode method_3_code 94 = .ok (.castore, 1) := by decide +kernel
theorem d1_95 : decode method_3_code 95 = .ok (.invokespecial 15, 3) := by decide +kernel
theorem d1_98 : decode method_3_code 98 = .ok (.areturn, 1) := by decide +kernel
theorem d1_99 : decode method_3_code 99 = .ok (.new 8, 3) := by decide +kernel
theorem d1_102 : decode method_3_code 102 = .ok (.dup, 1) := by decide +kernel
theorem d1_103 : decode method_3_code 103 = .ok (.bipush 10, 2) := by decide +kernel
theorem d1_105 : decode method_3_code 105 = .ok (.newarray .char, 2) := by decide +kernel
theorem d1_107 : decode method_3_code 107 = .ok (.dup, 1) := by decide +kernel
theorem d1_108 : decode method_3_code 108 = .ok (.iconst 0, 1) := by decide +kernel
theorem d1_109 : decode method_3_code 109 = .ok (.aload_n 2, 1) := by decide +kernel
theorem d1_110 : decode method_3_code 110 = .ok (.iconst 0, 1) := by decide +kernel
theorem d1_111 : decode method_3_code 111 = .ok (.iload_n 0, 1) := by decide +kernel
theorem d1_112 : decode method_3_code 112 = .ok (.iload_n 1, 1) := by decide +kernel
theorem d1_113 : decode method_3_code 113 = .ok (.invokestatic 18, 3) := by decide +kernel
theorem d1_116 : decode method_3_code 116 = .ok (.castore, 1) := by decide +kernel
theorem d1_117 : decode method_3_code 117 = .ok (.dup, 1) := by decide +kernel
theorem d1_118 : decode method_3_code 118 = .ok (.iconst 1, 1) := by decide +kernel
theorem d1_119 : decode method_3_code 119 = .ok (.aload_n 2, 1) := by decide +kernel
theorem d1_120 : decode method_3_code 120 = .ok (.iconst 1, 1) := by decide +kernel
theorem d1_121 : decode method_3_code 121 = .ok (.iload_n 0, 1) := by decide +kernel
theorem d1_122 : decode method_3_code 122 = .ok (.iload_n 1, 1) := by decide +kernel
theorem d1_123 : decode method_3_code 123 = .ok (.invokestatic 18, 3) := by decide +kernel
theorem d1_126 : decode method_3_code 126 = .ok (.castore, 1) := by decide +kernel
theorem d1_127 : decode method_3_code 127 = .ok (.dup, 1) := by decide +kernel
theorem d1_128 : decode method_3_code 128 = .ok (.iconst 2, 1) := by decide +kernel
theorem d1_129 : decode method_3_code 129 = .ok (.aload_n 2, 1) := by decide +kernel
theorem d1_130 : decode method_3_code 130 = .ok (.iconst 2, 1) := by decide +kernel
theorem d1_131 : decode method_3_code 131 = .ok (.iload_n 0, 1) := by decide +kernel
theorem d1_132 : decode method_3_code 132 = .ok (.iload_n 1, 1) := by decide +kernel
theorem d1_133 : decode method_3_code 133 = .ok (.invokestatic 18, 3) := by decide +kernel
theorem d1_136 : decode method_3_code 136 = .ok (.castore, 1) := by decide +kernel
theorem d1_137 : decode method_3_code 137 = .ok (.dup, 1) := by decide +kernel
theorem d1_138 : decode method_3_code 138 = .ok (.iconst 3, 1) := by decide +kernel
theorem d1_139 : decode method_3_code 139 = .ok (.aload_n 2, 1) := by decide +kernel
theorem d1_140 : decode method_3_code 140 = .ok (.iconst 3, 1) := by decide +kernel
theorem d1_141 : decode method_3_code 141 = .ok (.iload_n 0, 1) := by decide +kernel
theorem d1_142 : decode method_3_code 142 = .ok (.iload_n 1, 1) := by decide +kernel
theorem d1_143 : decode method_3_code 143 = .ok (.invokestatic 18, 3) := by decide +kernel
theorem d1_146 : decode method_3_code 146 = .ok (.castore, 1) := by decide +kernel
theorem d1_147 : decode method_3_code 147 = .ok (.dup, 1) := by decide +kernel
theorem d1_148 : decode method_3_code 148 = .ok (.iconst 4, 1) := by decide +kernel
theorem d1_149 : decode method_3_code 149 = .ok (.aload_n 2, 1) := by decide +kernel
theorem d1_150 : decode method_3_code 150 = .ok (.iconst 4, 1) := by decide +kernel
theorem d1_151 : decode method_3_code 151 = .ok (.iload_n 0, 1) := by decide +kernel
theorem d1_152 : decode method_3_code 152 = .ok (.iload_n 1, 1) := by decide +kernel
theorem d1_153 : decode method_3_code 153 = .ok (.invokestatic 18, 3) := by decide +kernel
theorem d1_156 : decode method_3_code 156 = .ok (.castore, 1) := by decide +kernel
theorem d1_157 : decode method_3_code 157 = .ok (.dup, 1) := by decide +kernel
theorem d1_158 : decode method_3_code 158 = .ok (.iconst 5, 1) := by decide +kernel
theorem d1_159 : decode method_3_code 159 = .ok (.aload_n 2, 1) := by decide +kernel
theorem d1_160 : decode method_3_code 160 = .ok (.iconst 5, 1) := by decide +kernel
theorem d1_161 : decode method_3_code 161 = .ok (.iload_n 0, 1) := by decide +kernel
theorem d1_162 : decode method_3_code 162 = .ok (.iload_n 1, 1) := by decide +kernel
theorem d1_163 : decode method_3_code 163 = .ok (.invokestatic 18, 3) := by decide +kernel
theorem d1_166 : decode method_3_code 166 = .ok (.castore, 1) := by decide +kernel
theorem d1_167 : decode method_3_code 167 = .ok (.dup, 1) := by decide +kernel
theorem d1_168 : decode method_3_code 168 = .ok (.bipush 6, 2) := by decide +kernel
theorem d1_170 : decode method_3_code 170 = .ok (.aload_n 2, 1) := by decide +kernel
theorem d1_171 : decode method_3_code 171 = .ok (.bipush 6, 2) := by decide +kernel
theorem d1_173 : decode method_3_code 173 = .ok (.iload_n 0, 1) := by decide +kernel
theorem d1_174 : decode method_3_code 174 = .ok (.iload_n 1, 1) := by decide +kernel
theorem d1_175 : decode method_3_code 175 = .ok (.invokestatic 18, 3) := by decide +kernel
theorem d1_178 : decode method_3_code 178 = .ok (.castore, 1) := by decide +kernel
theorem d1_179 : decode method_3_code 179 = .ok (.dup, 1) := by decide +kernel
theorem d1_180 : decode method_3_code 180 = .ok (.bipush 7, 2) := by decide +kernel
theorem d1_182 : decode method_3_code 182 = .ok (.aload_n 2, 1) := by decide +kernel
theorem d1_183 : decode method_3_code 183 = .ok (.bipush 7, 2) := by decide +kernel
theorem d1_185 : decode method_3_code 185 = .ok (.iload_n 0, 1) := by decide +kernel
theorem d1_186 : decode method_3_code 186 = .ok (.iload_n 1, 1) := by decide +kernel
theorem d1_187 : decode method_3_code 187 = .ok (.invokestatic 18, 3) := by decide +kernel
theorem d1_190 : decode method_3_code 190 = .ok (.castore, 1) := by decide +kernel
theorem d1_191 : decode method_3_code 191 = .ok (.dup, 1) := by decide +kernel
theorem d1_192 : decode method_3_code 192 = .ok (.bipush 8, 2) := by decide +kernel
theorem d1_194 : decode method_3_code 194 = .ok (.aload_n 2, 1) := by decide +kernel
theorem d1_195 : decode method_3_code 195 = .ok (.bipush 8, 2) := by decide +kernel
theorem d1_197 : decode method_3_code 197 = .ok (.iload_n 0, 1) := by decide +kernel
theorem d1_198 : decode method_3_code 198 = .ok (.iload_n 1, 1) := by decide +kernel
theorem d1_199 : decode method_3_code 199 = .ok (.invokestatic 18, 3) := by decide +kernel
theorem d1_202 : decode method_3_code 202 = .ok (.castore, 1) := by decide +kernel
theorem d1_203 : decode method_3_code 203 = .ok (.dup, 1) := by decide +kernel
theorem d1_204 : decode method_3_code 204 = .ok (.bipush 9, 2) := by decide +kernel
theorem d1_206 : decode method_3_code 206 = .ok (.aload_n 2, 1) := by decide +kernel
theorem d1_207 : decode method_3_code 207 = .ok (.bipush 9, 2) := by decide +kernel
theorem d1_209 : decode method_3_code 209 = .ok (.iload_n 0, 1) := by decide +kernel
theorem d1_210 : decode method_3_code 210 = .ok (.iload_n 1, 1) := by decide +kernel
theorem d1_211 : decode method_3_code 211 = .ok (.invokestatic 18, 3) := by decide +kernel
theorem d1_214 : decode method_3_code 214 = .ok (.castore, 1) := by decide +kernel
theorem d1_215 : decode method_3_code 215 = .ok (.invokespecial 15, 3) := by decide +kernel
theorem d1_218 : decode method_3_code 218 = .ok (.areturn, 1) := by decide +kernel
theorem d2_0 : decode method_2_code 0 = .ok (.iload_n 1, 1) := by decide +kernel
theorem d2_1 : decode method_2_code 1 = .ok (.iload_n 2, 1) := by decide +kernel
theorem d2_2 : decode method_2_code 2 = .ok (.if_icmp .ne 7, 3) := by decide +kernel
theorem d2_5 : decode method_2_code 5 = .ok (.iload_n 3, 1) := by decide +kernel
theorem d2_6 : decode method_2_code 6 = .ok (.goto 8, 3) := by decide +kernel
theorem d2_9 : decode method_2_code 9 = .ok (.aload_n 0, 1) := by decide +kernel
theorem d2_10 : decode method_2_code 10 = .ok (.iload_n 1, 1) := by decide +kernel
theorem d2_11 : decode method_2_code 11 = .ok (.invokevirtual 7, 3) := by decide +kernel
theorem d2_14 : decode method_2_code 14 = .ok (.ireturn, 1) := by decide +kernel
theorem d3_0 : decode jdk_42_method_56_code 0 = .ok (.aload_n 0, 1) := by decide +kernel
theorem d3_1 : decode jdk_42_method_56_code 1 = .ok (.invokevirtual 492, 3) := by decide +kernel
theorem d3_4 : decode jdk_42_method_56_code 4 = .ok (.ifCond .eq 12, 3) := by decide +kernel
theorem d3_7 : decode jdk_42_method_56_code 7 = .ok (.aload_n 0, 1) := by decide +kernel
theorem d3_8 : decode jdk_42_method_56_code 8 = .ok (.getfield 9, 3) := by decide +kernel
theorem d3_11 : decode jdk_42_method_56_code 11 = .ok (.iload_n 1, 1) := by decide +kernel
theorem d3_12 : decode jdk_42_method_56_code 12 = .ok (.invokestatic 495, 3) := by decide +kernel
theorem d3_15 : decode jdk_42_method_56_code 15 = .ok (.ireturn, 1) := by decide +kernel
theorem d4_0 : decode jdk_42_method_154_code 0 = .ok (.getstatic 38, 3) := by decide +kernel
theorem d4_3 : decode jdk_42_method_154_code 3 = .ok (.ifCond .eq 14, 3) := by decide +kernel
theorem d4_6 : decode jdk_42_method_154_code 6 = .ok (.aload_n 0, 1) := by decide +kernel
theorem d4_7 : decode jdk_42_method_154_code 7 = .ok (.getfield 15, 3) := by decide +kernel
theorem d4_10 : decode jdk_42_method_154_code 10 = .ok (.ifCond .ne 7, 3) := by decide +kernel
theorem d4_13 : decode jdk_42_method_154_code 13 = .ok (.iconst 1, 1) := by decide +kernel
theorem d4_14 : decode jdk_42_method_154_code 14 = .ok (.goto 4, 3) := by decide +kernel
theorem d4_17 : decode jdk_42_method_154_code 17 = .ok (.iconst 0, 1) := by decide +kernel
theorem d4_18 : decode jdk_42_method_154_code 18 = .ok (.ireturn, 1) := by decide +kernel
theorem d5_0 : decode jdk_43_method_2_code 0 = .ok (.iload_n 1, 1) := by decide +kernel
theorem d5_1 : decode jdk_43_method_2_code 1 = .ok (.aload_n 0, 1) := by decide +kernel
theorem d5_2 : decode jdk_43_method_2_code 2 = .ok (.arraylength, 1) := by decide +kernel
theorem d5_3 : decode jdk_43_method_2_code 3 = .ok (.invokestatic 9, 3) := by decide +kernel
theorem d5_6 : decode jdk_43_method_2_code 6 = .ok (.aload_n 0, 1) := by decide +kernel
theorem d5_7 : decode jdk_43_method_2_code 7 = .ok (.iload_n 1, 1) := by decide +kernel
theorem d5_8 : decode jdk_43_method_2_code 8 = .ok (.baload, 1) := by decide +kernel
theorem d5_9 : decode jdk_43_method_2_code 9 = .ok (.sipush 255, 3) := by decide +kernel
theorem d5_12 : decode jdk_43_method_2_code 12 = .ok (.iand, 1) := by decide +kernel
theorem d5_13 : decode jdk_43_method_2_code 13 = .ok (.i2c, 1) := by decide +kernel
theorem d5_14 : decode jdk_43_method_2_code 14 = .ok (.ireturn, 1) := by decide +kernel
theorem d6_0 : decode jdk_42_method_155_code 0 = .ok (.iload_n 0, 1) := by decide +kernel
theorem d6_1 : decode jdk_42_method_155_code 1 = .ok (.iload_n 1, 1) := by decide +kernel
theorem d6_2 : decode jdk_42_method_155_code 2 = .ok (.getstatic 1053, 3) := by decide +kernel
theorem d6_5 : decode jdk_42_method_155_code 5 = .ok (.invokestatic 1059, 3) := by decide +kernel
theorem d6_8 : decode jdk_42_method_155_code 8 = .ok (.pop, 1) := by decide +kernel
theorem d6_9 : decode jdk_42_method_155_code 9 = .ok (.return_, 1) := by decide +kernel
theorem d7_0 : decode jdk_41_method_11_code 0 = .ok (.iload_n 0, 1) := by decide +kernel
theorem d7_1 : decode jdk_41_method_11_code 1 = .ok (.ifCond .lt 8, 3) := by decide +kernel
theorem d7_4 : decode jdk_41_method_11_code 4 = .ok (.iload_n 0, 1) := by decide +kernel
theorem d7_5 : decode jdk_41_method_11_code 5 = .ok (.iload_n 1, 1) := by decide +kernel
theorem d7_6 : decode jdk_41_method_11_code 6 = .ok (.if_icmp .lt 10, 3) := by decide +kernel
theorem d7_16 : decode jdk_41_method_11_code 16 = .ok (.iload_n 0, 1) := by decide +kernel
theorem d7_17 : decode jdk_41_method_11_code 17 = .ok (.ireturn, 1) := by decide +kernel
theorem d8_0 : decode jdk_42_method_3_code 0 = .ok (.aload_n 0, 1) := by decide +kernel
theorem d8_1 : decode jdk_42_method_3_code 1 = .ok (.aload_n 1, 1) := by decide +kernel
theorem d8_2 : decode jdk_42_method_3_code 2 = .ok (.iconst 0, 1) := by decide +kernel
theorem d8_3 : decode jdk_42_method_3_code 3 = .ok (.aload_n 1, 1) := by decide +kernel
theorem d8_4 : decode jdk_42_method_3_code 4 = .ok (.arraylength, 1) := by decide +kernel
theorem d8_5 : decode jdk_42_method_3_code 5 = .ok (.aconst_null, 1) := by decide +kernel
theorem d8_6 : decode jdk_42_method_3_code 6 = .ok (.invokespecial 27, 3) := by decide +kernel
theorem d8_9 : decode jdk_42_method_3_code 9 = .ok (.return_, 1) := by decide +kernel
theorem d9_0 : decode jdk_42_method_149_code 0 = .ok (.aload_n 0, 1) := by decide +kernel
theorem d9_1 : decode jdk_42_method_149_code 1 = .ok (.invokespecial 1, 3) := by decide +kernel
theorem d9_4 : decode jdk_42_method_149_code 4 = .ok (.iload_n 3, 1) := by decide +kernel
theorem d9_5 : decode jdk_42_method_149_code 5 = .ok (.ifCond .ne 22, 3) := by decide +kernel
theorem d9_8 : decode jdk_42_method_149_code 8 = .ok (.aload_n 0, 1) := by decide +kernel
theorem d9_9 : decode jdk_42_method_149_code 9 = .ok (.ldc 7, 2) := by decide +kernel
theorem d9_11 : decode jdk_42_method_149_code 11 = .ok (.getfield 9, 3) := by decide +kernel
theorem d9_14 : decode jdk_42_method_149_code 14 = .ok (.putfield 9, 3) := by decide +kernel
theorem d9_17 : decode jdk_42_method_149_code 17 = .ok (.aload_n 0, 1) := by decide +kernel
theorem d9_18 : decode jdk_42_method_149_code 18 = .ok (.ldc 7, 2) := by decide +kernel
theorem d9_20 : decode jdk_42_method_149_code 20 = .ok (.getfield 15, 3) := by decide +kernel
theorem d9_23 : decode jdk_42_method_149_code 23 = .ok (.putfield 15, 3) := by decide +kernel
theorem d9_26 : decode jdk_42_method_149_code 26 = .ok (.return_, 1) := by decide +kernel
theorem d14_0 : decode prog_6_method_4_code 0 = .ok (.invokestatic 76, 3) := by decide +kernel
theorem d14_3 : decode prog_6_method_4_code 3 = .ok (.astore_n 1, 1) := by decide +kernel
theorem d14_4 : decode prog_6_method_4_code 4 = .ok (.aload_n 1, 1) := by decide +kernel
theorem d14_5 : decode prog_6_method_4_code 5 = .ok (.arraylength, 1) := by decide +kernel
theorem d14_6 : decode prog_6_method_4_code 6 = .ok (.istore_n 2, 1) := by decide +kernel
theorem d14_7 : decode prog_6_method_4_code 7 = .ok (.iconst 0, 1) := by decide +kernel
theorem d14_8 : decode prog_6_method_4_code 8 = .ok (.istore_n 3, 1) := by decide +kernel
theorem d14_9 : decode prog_6_method_4_code 9 = .ok (.iload_n 3, 1) := by decide +kernel
theorem d14_10 : decode prog_6_method_4_code 10 = .ok (.iload_n 2, 1) := by decide +kernel
theorem d14_11 : decode prog_6_method_4_code 11 = .ok (.if_icmp .ge 29, 3) := by decide +kernel
theorem d14_14 : decode prog_6_method_4_code 14 = .ok (.aload_n 1, 1) := by decide +kernel
theorem d14_15 : decode prog_6_method_4_code 15 = .ok (.iload_n 3, 1) := by decide +kernel
theorem d14_16 : decode prog_6_method_4_code 16 = .ok (.aaload, 1) := by decide +kernel
theorem d14_17 : decode prog_6_method_4_code 17 = .ok (.astore 4, 2) := by decide +kernel
theorem d14_19 : decode prog_6_method_4_code 19 = .ok (.aload_n 0, 1) := by decide +kernel
theorem d14_20 : decode prog_6_method_4_code 20 = .ok (.aload 4, 2) := by decide +kernel
theorem d14_22 : decode prog_6_method_4_code 22 = .ok (.getfield 35, 3) := by decide +kernel
theorem d14_25 : decode prog_6_method_4_code 25 = .ok (.invokevirtual 80, 3) := by decide +kernel
theorem d14_28 : decode prog_6_method_4_code 28 = .ok (.ifCond .eq 6, 3) := by decide +kernel
theorem d14_31 : decode prog_6_method_4_code 31 = .ok (.aload 4, 2) := by decide +kernel
theorem d14_33 : decode prog_6_method_4_code 33 = .ok (.areturn, 1) := by decide +kernel
theorem d14_34 : decode prog_6_method_4_code 34 = .ok (.iinc 3 1, 3) := by decide +kernel
theorem d14_37 : decode prog_6_method_4_code 37 = .ok (.goto (-28), 3) := by decide +kernel
theorem d14_40 : decode prog_6_method_4_code 40 = .ok (.getstatic 13, 3) := by decide +kernel
theorem d14_43 : decode prog_6_method_4_code 43 = .ok (.areturn, 1) := by decide +kernel
theorem d15_0 : decode prog_6_method_1_code 0 = .ok (.getstatic 16, 3) := by decide +kernel
theorem d15_3 : decode prog_6_method_1_code 3 = .ok (.invokevirtual 20, 3) := by decide +kernel
theorem d15_6 : decode prog_6_method_1_code 6 = .ok (.checkcast 21, 3) := by decide +kernel
theorem d15_9 : decode prog_6_method_1_code 9 = .ok (.areturn, 1) := by decide +kernel
theorem d16_0 : decode jdk_42_method_66_code 0 = .ok (.aload_n 0, 1) := by decide +kernel
theorem d16_1 : decode jdk_42_method_66_code 1 = .ok (.aload_n 1, 1) := by decide +kernel
theorem d16_2 : decode jdk_42_method_66_code 2 = .ok (.if_acmp .ne 5, 3) := by decide +kernel
theorem d16_7 : decode jdk_42_method_66_code 7 = .ok (.aload_n 1, 1) := by decide +kernel
theorem d16_8 : decode jdk_42_method_66_code 8 = .ok (.instanceof 10, 3) := by decide +kernel
theorem d16_11 : decode jdk_42_method_66_code 11 = .ok (.ifCond .eq 43, 3) := by decide +kernel
theorem d16_54 : decode jdk_42_method_66_code 54 = .ok (.iconst 0, 1) := by decide +kernel
theorem d16_55 : decode jdk_42_method_66_code 55 = .ok (.ireturn, 1) := by decide +kernel
theorem d18_0 : decode method_7_code 0 = .ok (.aload_n 0, 1) := by decide +kernel
theorem d18_1 : decode method_7_code 1 = .ok (.ldc 13, 2) := by decide +kernel
theorem d18_3 : decode method_7_code 3 = .ok (.invokevirtual 28, 3) := by decide +kernel
theorem d18_6 : decode method_7_code 6 = .ok (.ifCond .eq 7, 3) := by decide +kernel
theorem d18_9 : decode method_7_code 9 = .ok (.getstatic 32, 3) := by decide +kernel
theorem d18_12 : decode method_7_code 12 = .ok (.areturn, 1) := by decide +kernel
theorem d18_13 : decode method_7_code 13 = .ok (.aload_n 0, 1) := by decide +kernel
theorem d18_14 : decode method_7_code 14 = .ok (.ldc 24, 2) := by decide +kernel
theorem d18_16 : decode method_7_code 16 = .ok (.invokevirtual 28, 3) := by decide +kernel
theorem d18_19 : decode method_7_code 19 = .ok (.ifCond .eq 7, 3) := by decide +kernel
theorem d18_22 : decode method_7_code 22 = .ok (.getstatic 38, 3) := by decide +kernel
theorem d18_25 : decode method_7_code 25 = .ok (.areturn, 1) := by decide +kernel
theorem d18_26 : decode method_7_code 26 = .ok (.aload_n 0, 1) := by decide +kernel
theorem d18_27 : decode method_7_code 27 = .ok (.ldc 26, 2) := by decide +kernel
theorem d18_29 : decode method_7_code 29 = .ok (.invokevirtual 28, 3) := by decide +kernel
theorem d18_32 : decode method_7_code 32 = .ok (.ifCond .eq 7, 3) := by decide +kernel
theorem d18_35 : decode method_7_code 35 = .ok (.getstatic 41, 3) := by decide +kernel
theorem d18_38 : decode method_7_code 38 = .ok (.areturn, 1) := by decide +kernel
theorem d18_39 : decode method_7_code 39 = .ok (.getstatic 44, 3) := by decide +kernel
theorem d18_42 : decode method_7_code 42 = .ok (.areturn, 1) := by decide +kernel
theorem d19_0 : decode method_4_code 0 = .ok (.ldc 24, 2) := by decide +kernel
theorem d19_2 : decode method_4_code 2 = .ok (.astore_n 2, 1) := by decide +kernel
theorem d19_3 : decode method_4_code 3 = .ok (.iload_n 0, 1) := by decide +kernel
theorem d19_4 : decode method_4_code 4 = .ok (.iconst 5, 1) := by decide +kernel
theorem d19_5 : decode method_4_code 5 = .ok (.if_icmp .ne 46, 3) := by decide +kernel
theorem d19_8 : decode method_4_code 8 = .ok (.new 8, 3) := by decide +kernel
theorem d19_11 : decode method_4_code 11 = .ok (.dup, 1) := by decide +kernel
theorem d19_12 : decode method_4_code 12 = .ok (.iconst 4, 1) := by decide +kernel
theorem d19_13 : decode method_4_code 13 = .ok (.newarray .char, 2) := by decide +kernel
theorem d19_15 : decode method_4_code 15 = .ok (.dup, 1) := by decide +kernel
theorem d19_16 : decode method_4_code 16 = .ok (.iconst 0, 1) := by decide +kernel
theorem d19_17 : decode method_4_code 17 = .ok (.aload_n 2, 1) := by decide +kernel
theorem d19_18 : decode method_4_code 18 = .ok (.iconst 0, 1) := by decide +kernel
theorem d19_19 : decode method_4_code 19 = .ok (.invokevirtual 7, 3) := by decide +kernel
theorem d19_22 : decode method_4_code 22 = .ok (.castore, 1) := by decide +kernel
theorem d19_23 : decode method_4_code 23 = .ok (.dup, 1) := by decide +kernel
theorem d19_24 : decode method_4_code 24 = .ok (.iconst 1, 1) := by decide +kernel
theorem d19_25 : decode method_4_code 25 = .ok (.aload_n 2, 1) := by decide +kernel
theorem d19_26 : decode method_4_code 26 = .ok (.iconst 1, 1) := by decide +kernel
theorem d19_27 : decode method_4_code 27 = .ok (.invokevirtual 7, 3) := by decide +kernel
theorem d19_30 : decode method_4_code 30 = .ok (.castore, 1) := by decide +kernel
theorem d19_31 : decode method_4_code 31 = .ok (.dup, 1) := by decide +kernel
theorem d19_32 : decode method_4_code 32 = .ok (.iconst 2, 1) := by decide +kernel
theorem d19_33 : decode method_4_code 33 = .ok (.aload_n 2, 1) := by decide +kernel
theorem d19_34 : decode method_4_code 34 = .ok (.iconst 2, 1) := by decide +kernel
theorem d19_35 : decode method_4_code 35 = .ok (.invokevirtual 7, 3) := by decide +kernel
theorem d19_38 : decode method_4_code 38 = .ok (.castore, 1) := by decide +kernel
theorem d19_39 : decode method_4_code 39 = .ok (.dup, 1) := by decide +kernel
theorem d19_40 : decode method_4_code 40 = .ok (.iconst 3, 1) := by decide +kernel
theorem d19_41 : decode method_4_code 41 = .ok (.aload_n 2, 1) := by decide +kernel
theorem d19_42 : decode method_4_code 42 = .ok (.iconst 3, 1) := by decide +kernel
theorem d19_43 : decode method_4_code 43 = .ok (.invokevirtual 7, 3) := by decide +kernel
theorem d19_46 : decode method_4_code 46 = .ok (.castore, 1) := by decide +kernel
theorem d19_47 : decode method_4_code 47 = .ok (.invokespecial 15, 3) := by decide +kernel
theorem d19_50 : decode method_4_code 50 = .ok (.areturn, 1) := by decide +kernel
theorem d19_51 : decode method_4_code 51 = .ok (.new 8, 3) := by decide +kernel
theorem d19_54 : decode method_4_code 54 = .ok (.dup, 1) := by decide +kernel
theorem d19_55 : decode method_4_code 55 = .ok (.iconst 5, 1) := by decide +kernel
theorem d19_56 : decode method_4_code 56 = .ok (.newarray .char, 2) := by decide +kernel
theorem d19_58 : decode method_4_code 58 = .ok (.dup, 1) := by decide +kernel
theorem d19_59 : decode method_4_code 59 = .ok (.iconst 0, 1) := by decide +kernel
theorem d19_60 : decode method_4_code 60 = .ok (.aload_n 2, 1) := by decide +kernel
theorem d19_61 : decode method_4_code 61 = .ok (.iconst 0, 1) := by decide +kernel
theorem d19_62 : decode method_4_code 62 = .ok (.iload_n 0, 1) := by decide +kernel
theorem d19_63 : decode method_4_code 63 = .ok (.iload_n 1, 1) := by decide +kernel
theorem d19_64 : decode method_4_code 64 = .ok (.invokestatic 18, 3) := by decide +kernel
theorem d19_67 : decode method_4_code 67 = .ok (.castore, 1) := by decide +kernel
theorem d19_68 : decode method_4_code 68 = .ok (.dup, 1) := by decide +kernel
theorem d19_69 : decode method_4_code 69 = .ok (.iconst 1, 1) := by decide +kernel
theorem d19_70 : decode method_4_code 70 = .ok (.aload_n 2, 1) := by decide +kernel
theorem d19_71 : decode method_4_code 71 = .ok (.iconst 1, 1) := by decide +kernel
theorem d19_72 : decode method_4_code 72 = .ok (.iload_n 0, 1) := by decide +kernel
theorem d19_73 : decode method_4_code 73 = .ok (.iload_n 1, 1) := by decide +kernel
theorem d19_74 : decode method_4_code 74 = .ok (.invokestatic 18, 3) := by decide +kernel
theorem d19_77 : decode method_4_code 77 = .ok (.castore, 1) := by decide +kernel
theorem d19_78 : decode method_4_code 78 = .ok (.dup, 1) := by decide +kernel
theorem d19_79 : decode method_4_code 79 = .ok (.iconst 2, 1) := by decide +kernel
theorem d19_80 : decode method_4_code 80 = .ok (.aload_n 2, 1) := by decide +kernel
theorem d19_81 : decode method_4_code 81 = .ok (.iconst 2, 1) := by decide +kernel
theorem d19_82 : decode method_4_code 82 = .ok (.iload_n 0, 1) := by decide +kernel
theorem d19_83 : decode method_4_code 83 = .ok (.iload_n 1, 1) := by decide +kernel
theorem d19_84 : decode method_4_code 84 = .ok (.invokestatic 18, 3) := by decide +kernel
theorem d19_87 : decode method_4_code 87 = .ok (.castore, 1) := by decide +kernel
theorem d19_88 : decode method_4_code 88 = .ok (.dup, 1) := by decide +kernel
theorem d19_89 : decode method_4_code 89 = .ok (.iconst 3, 1) := by decide +kernel
theorem d19_90 : decode method_4_code 90 = .ok (.aload_n 2, 1) := by decide +kernel
theorem d19_91 : decode method_4_code 91 = .ok (.iconst 3, 1) := by decide +kernel
theorem d19_92 : decode method_4_code 92 = .ok (.iload_n 0, 1) := by decide +kernel
theorem d19_93 : decode method_4_code 93 = .ok (.iload_n 1, 1) := by decide +kernel
theorem d19_94 : decode method_4_code 94 = .ok (.invokestatic 18, 3) := by decide +kernel
theorem d19_97 : decode method_4_code 97 = .ok (.castore, 1) := by decide +kernel
theorem d19_98 : decode method_4_code 98 = .ok (.dup, 1) := by decide +kernel
theorem d19_99 : decode method_4_code 99 = .ok (.iconst 4, 1) := by decide +kernel
theorem d19_100 : decode method_4_code 100 = .ok (.aload_n 2, 1) := by decide +kernel
theorem d19_101 : decode method_4_code 101 = .ok (.iconst 4, 1) := by decide +kernel
theorem d19_102 : decode method_4_code 102 = .ok (.iload_n 0, 1) := by decide +kernel
theorem d19_103 : decode method_4_code 103 = .ok (.iload_n 1, 1) := by decide +kernel
theorem d19_104 : decode method_4_code 104 = .ok (.invokestatic 18, 3) := by decide +kernel
theorem d19_107 : decode method_4_code 107 = .ok (.castore, 1) := by decide +kernel
theorem d19_108 : decode method_4_code 108 = .ok (.invokespecial 15, 3) := by decide +kernel
theorem d19_111 : decode method_4_code 111 = .ok (.areturn, 1) := by decide +kernel
theorem d20_0 : decode method_6_code 0 = .ok (.iload_n 0, 1) := by decide +kernel
theorem d20_1 : decode method_6_code 1 = .ok (.ifCond .ne 14, 3) := by decide +kernel
theorem d20_4 : decode method_6_code 4 = .ok (.new 8, 3) := by decide +kernel
theorem d20_7 : decode method_6_code 7 = .ok (.dup, 1) := by decide +kernel
theorem d20_8 : decode method_6_code 8 = .ok (.iconst 0, 1) := by decide +kernel
theorem d20_9 : decode method_6_code 9 = .ok (.newarray .char, 2) := by decide +kernel
theorem d20_11 : decode method_6_code 11 = .ok (.invokespecial 15, 3) := by decide +kernel
theorem d20_14 : decode method_6_code 14 = .ok (.areturn, 1) := by decide +kernel
theorem d20_15 : decode method_6_code 15 = .ok (.iload_n 0, 1) := by decide +kernel
theorem d20_16 : decode method_6_code 16 = .ok (.iconst 1, 1) := by decide +kernel
theorem d20_17 : decode method_6_code 17 = .ok (.if_icmp .ne 18, 3) := by decide +kernel
theorem d20_20 : decode method_6_code 20 = .ok (.new 8, 3) := by decide +kernel
theorem d20_23 : decode method_6_code 23 = .ok (.dup, 1) := by decide +kernel
theorem d20_24 : decode method_6_code 24 = .ok (.iconst 1, 1) := by decide +kernel
theorem d20_25 : decode method_6_code 25 = .ok (.newarray .char, 2) := by decide +kernel
theorem d20_27 : decode method_6_code 27 = .ok (.dup, 1) := by decide +kernel
theorem d20_28 : decode method_6_code 28 = .ok (.iconst 0, 1) := by decide +kernel
theorem d20_29 : decode method_6_code 29 = .ok (.iload_n 1, 1) := by decide +kernel
theorem d20_30 : decode method_6_code 30 = .ok (.castore, 1) := by decide +kernel
theorem d20_31 : decode method_6_code 31 = .ok (.invokespecial 15, 3) := by decide +kernel
theorem d20_34 : decode method_6_code 34 = .ok (.areturn, 1) := by decide +kernel
theorem d20_35 : decode method_6_code 35 = .ok (.iload_n 0, 1) := by decide +kernel
theorem d20_36 : decode method_6_code 36 = .ok (.iconst 2, 1) := by decide +kernel
theorem d20_37 : decode method_6_code 37 = .ok (.if_icmp .ne 22, 3) := by decide +kernel
theorem d20_40 : decode method_6_code 40 = .ok (.new 8, 3) := by decide +kernel
theorem d20_43 : decode method_6_code 43 = .ok (.dup, 1) := by decide +kernel
theorem d20_44 : decode method_6_code 44 = .ok (.iconst 2, 1) := by decide +kernel
theorem d20_45 : decode method_6_code 45 = .ok (.newarray .char, 2) := by decide +kernel
theorem d20_47 : decode method_6_code 47 = .ok (.dup, 1) := by decide +kernel
theorem d20_48 : decode method_6_code 48 = .ok (.iconst 0, 1) := by decide +kernel
theorem d20_49 : decode method_6_code 49 = .ok (.iload_n 1, 1) := by decide +kernel
theorem d20_50 : decode method_6_code 50 = .ok (.castore, 1) := by decide +kernel
theorem d20_51 : decode method_6_code 51 = .ok (.dup, 1) := by decide +kernel
theorem d20_52 : decode method_6_code 52 = .ok (.iconst 1, 1) := by decide +kernel
theorem d20_53 : decode method_6_code 53 = .ok (.iload_n 2, 1) := by decide +kernel
theorem d20_54 : decode method_6_code 54 = .ok (.castore, 1) := by decide +kernel
theorem d20_55 : decode method_6_code 55 = .ok (.invokespecial 15, 3) := by decide +kernel
theorem d20_58 : decode method_6_code 58 = .ok (.areturn, 1) := by decide +kernel
theorem d20_59 : decode method_6_code 59 = .ok (.iload_n 0, 1) := by decide +kernel
theorem d20_60 : decode method_6_code 60 = .ok (.iconst 3, 1) := by decide +kernel
theorem d20_61 : decode method_6_code 61 = .ok (.if_icmp .ne 26, 3) := by decide +kernel
theorem d20_64 : decode method_6_code 64 = .ok (.new 8, 3) := by decide +kernel
theorem d20_67 : decode method_6_code 67 = .ok (.dup, 1) := by decide +kernel
theorem d20_68 : decode method_6_code 68 = .ok (.iconst 3, 1) := by decide +kernel
theorem d20_69 : decode method_6_code 69 = .ok (.newarray .char, 2) := by decide +kernel
theorem d20_71 : decode method_6_code 71 = .ok (.dup, 1) := by decide +kernel
theorem d20_72 : decode method_6_code 72 = .ok (.iconst 0, 1) := by decide +kernel
theorem d20_73 : decode method_6_code 73 = .ok (.iload_n 1, 1) := by decide +kernel
theorem d20_74 : decode method_6_code 74 = .ok (.castore, 1) := by decide +kernel
theorem d20_75 : decode method_6_code 75 = .ok (.dup, 1) := by decide +kernel
theorem d20_76 : decode method_6_code 76 = .ok (.iconst 1, 1) := by decide +kernel
theorem d20_77 : decode method_6_code 77 = .ok (.iload_n 2, 1) := by decide +kernel
theorem d20_78 : decode method_6_code 78 = .ok (.castore, 1) := by decide +kernel
theorem d20_79 : decode method_6_code 79 = .ok (.dup, 1) := by decide +kernel
theorem d20_80 : decode method_6_code 80 = .ok (.iconst 2, 1) := by decide +kernel
theorem d20_81 : decode method_6_code 81 = .ok (.iload_n 3, 1) := by decide +kernel
theorem d20_82 : decode method_6_code 82 = .ok (.castore, 1) := by decide +kernel
theorem d20_83 : decode method_6_code 83 = .ok (.invokespecial 15, 3) := by decide +kernel
theorem d20_86 : decode method_6_code 86 = .ok (.areturn, 1) := by decide +kernel
theorem d20_87 : decode method_6_code 87 = .ok (.iload_n 0, 1) := by decide +kernel
theorem d20_88 : decode method_6_code 88 = .ok (.iconst 4, 1) := by decide +kernel
theorem d20_89 : decode method_6_code 89 = .ok (.if_icmp .ne 31, 3) := by decide +kernel
theorem d20_92 : decode method_6_code 92 = .ok (.new 8, 3) := by decide +kernel
theorem d20_95 : decode method_6_code 95 = .ok (.dup, 1) := by decide +kernel
theorem d20_96 : decode method_6_code 96 = .ok (.iconst 4, 1) := by decide +kernel
theorem d20_97 : decode method_6_code 97 = .ok (.newarray .char, 2) := by decide +kernel
theorem d20_99 : decode method_6_code 99 = .ok (.dup, 1) := by decide +kernel
theorem d20_100 : decode method_6_code 100 = .ok (.iconst 0, 1) := by decide +kernel
theorem d20_101 : decode method_6_code 101 = .ok (.iload_n 1, 1) := by decide +kernel
theorem d20_102 : decode method_6_code 102 = .ok (.castore, 1) := by decide +kernel
theorem d20_103 : decode method_6_code 103 = .ok (.dup, 1) := by decide +kernel
theorem d20_104 : decode method_6_code 104 = .ok (.iconst 1, 1) := by decide +kernel
theorem d20_105 : decode method_6_code 105 = .ok (.iload_n 2, 1) := by decide +kernel
theorem d20_106 : decode method_6_code 106 = .ok (.castore, 1) := by decide +kernel
theorem d20_107 : decode method_6_code 107 = .ok (.dup, 1) := by decide +kernel
theorem d20_108 : decode method_6_code 108 = .ok (.iconst 2, 1) := by decide +kernel
theorem d20_109 : decode method_6_code 109 = .ok (.iload_n 3, 1) := by decide +kernel
theorem d20_110 : decode method_6_code 110 = .ok (.castore, 1) := by decide +kernel
theorem d20_111 : decode method_6_code 111 = .ok (.dup, 1) := by decide +kernel
theorem d20_112 : decode method_6_code 112 = .ok (.iconst 3, 1) := by decide +kernel
theorem d20_113 : decode method_6_code 113 = .ok (.iload 4, 2) := by decide +kernel
theorem d20_115 : decode method_6_code 115 = .ok (.castore, 1) := by decide +kernel
theorem d20_116 : decode method_6_code 116 = .ok (.invokespecial 15, 3) := by decide +kernel
theorem d20_119 : decode method_6_code 119 = .ok (.areturn, 1) := by decide +kernel
theorem d20_120 : decode method_6_code 120 = .ok (.new 8, 3) := by decide +kernel
theorem d20_123 : decode method_6_code 123 = .ok (.dup, 1) := by decide +kernel
theorem d20_124 : decode method_6_code 124 = .ok (.iconst 5, 1) := by decide +kernel
theorem d20_125 : decode method_6_code 125 = .ok (.newarray .char, 2) := by decide +kernel
theorem d20_127 : decode method_6_code 127 = .ok (.dup, 1) := by decide +kernel
theorem d20_128 : decode method_6_code 128 = .ok (.iconst 0, 1) := by decide +kernel
theorem d20_129 : decode method_6_code 129 = .ok (.iload_n 1, 1) := by decide +kernel
theorem d20_130 : decode method_6_code 130 = .ok (.castore, 1) := by decide +kernel
theorem d20_131 : decode method_6_code 131 = .ok (.dup, 1) := by decide +kernel
theorem d20_132 : decode method_6_code 132 = .ok (.iconst 1, 1) := by decide +kernel
theorem d20_133 : decode method_6_code 133 = .ok (.iload_n 2, 1) := by decide +kernel
theorem d20_134 : decode method_6_code 134 = .ok (.castore, 1) := by decide +kernel
theorem d20_135 : decode method_6_code 135 = .ok (.dup, 1) := by decide +kernel
theorem d20_136 : decode method_6_code 136 = .ok (.iconst 2, 1) := by decide +kernel
theorem d20_137 : decode method_6_code 137 = .ok (.iload_n 3, 1) := by decide +kernel
theorem d20_138 : decode method_6_code 138 = .ok (.castore, 1) := by decide +kernel
theorem d20_139 : decode method_6_code 139 = .ok (.dup, 1) := by decide +kernel
theorem d20_140 : decode method_6_code 140 = .ok (.iconst 3, 1) := by decide +kernel
theorem d20_141 : decode method_6_code 141 = .ok (.iload 4, 2) := by decide +kernel
theorem d20_143 : decode method_6_code 143 = .ok (.castore, 1) := by decide +kernel
theorem d20_144 : decode method_6_code 144 = .ok (.dup, 1) := by decide +kernel
theorem d20_145 : decode method_6_code 145 = .ok (.iconst 4, 1) := by decide +kernel
theorem d20_146 : decode method_6_code 146 = .ok (.iload 5, 2) := by decide +kernel
theorem d20_148 : decode method_6_code 148 = .ok (.castore, 1) := by decide +kernel
theorem d20_149 : decode method_6_code 149 = .ok (.invokespecial 15, 3) := by decide +kernel
theorem d20_152 : decode method_6_code 152 = .ok (.areturn, 1) := by decide +kernel
theorem d21_0 : decode method_5_code 0 = .ok (.ldc 26, 2) := by decide +kernel
theorem d21_2 : decode method_5_code 2 = .ok (.astore_n 2, 1) := by decide +kernel
theorem d21_3 : decode method_5_code 3 = .ok (.iload_n 0, 1) := by decide +kernel
theorem d21_4 : decode method_5_code 4 = .ok (.bipush 19, 2) := by decide +kernel
theorem d21_6 : decode method_5_code 6 = .ok (.if_icmp .ne 183, 3) := by decide +kernel
theorem d21_9 : decode method_5_code 9 = .ok (.new 8, 3) := by decide +kernel
theorem d21_12 : decode method_5_code 12 = .ok (.dup, 1) := by decide +kernel
theorem d21_13 : decode method_5_code 13 = .ok (.bipush 18, 2) := by decide +kernel
theorem d21_15 : decode method_5_code 15 = .ok (.newarray .char, 2) := by decide +kernel
theorem d21_17 : decode method_5_code 17 = .ok (.dup, 1) := by decide +kernel
theorem d21_18 : decode method_5_code 18 = .ok (.iconst 0, 1) := by decide +kernel
theorem d21_19 : decode method_5_code 19 = .ok (.aload_n 2, 1) := by decide +kernel
theorem d21_20 : decode method_5_code 20 = .ok (.iconst 0, 1) := by decide +kernel
theorem d21_21 : decode method_5_code 21 = .ok (.invokevirtual 7, 3) := by decide +kernel
theorem d21_24 : decode method_5_code 24 = .ok (.castore, 1) := by decide +kernel
theorem d21_25 : decode method_5_code 25 = .ok (.dup, 1) := by decide +kernel
theorem d21_26 : decode method_5_code 26 = .ok (.iconst 1, 1) := by decide +kernel
theorem d21_27 : decode method_5_code 27 = .ok (.aload_n 2, 1) := by decide +kernel
theorem d21_28 : decode method_5_code 28 = .ok (.iconst 1, 1) := by decide +kernel
theorem d21_29 : decode method_5_code 29 = .ok (.invokevirtual 7, 3) := by decide +kernel
theorem d21_32 : decode method_5_code 32 = .ok (.castore, 1) := by decide +kernel
theorem d21_33 : decode method_5_code 33 = .ok (.dup, 1) := by decide +kernel
theorem d21_34 : decode method_5_code 34 = .ok (.iconst 2, 1) := by decide +kernel
theorem d21_35 : decode method_5_code 35 = .ok (.aload_n 2, 1) := by decide +kernel
theorem d21_36 : decode method_5_code 36 = .ok (.iconst 2, 1) := by decide +kernel
theorem d21_37 : decode method_5_code 37 = .ok (.invokevirtual 7, 3) := by decide +kernel
theorem d21_40 : decode method_5_code 40 = .ok (.castore, 1) := by decide +kernel
theorem d21_41 : decode method_5_code 41 = .ok (.dup, 1) := by decide +kernel
theorem d21_42 : decode method_5_code 42 = .ok (.iconst 3, 1) := by decide +kernel
theorem d21_43 : decode method_5_code 43 = .ok (.aload_n 2, 1) := by decide +kernel
theorem d21_44 : decode method_5_code 44 = .ok (.iconst 3, 1) := by decide +kernel
theorem d21_45 : decode method_5_code 45 = .ok (.invokevirtual 7, 3) := by decide +kernel
theorem d21_48 : decode method_5_code 48 = .ok (.castore, 1) := by decide +kernel
theorem d21_49 : decode method_5_code 49 = .ok (.dup, 1) := by decide +kernel
theorem d21_50 : decode method_5_code 50 = .ok (.iconst 4, 1) := by decide +kernel
theorem d21_51 : decode method_5_code 51 = .ok (.aload_n 2, 1) := by decide +kernel
theorem d21_52 : decode method_5_code 52 = .ok (.iconst 4, 1) := by decide +kernel
theorem d21_53 : decode method_5_code 53 = .ok (.invokevirtual 7, 3) := by decide +kernel
theorem d21_56 : decode method_5_code 56 = .ok (.castore, 1) := by decide +kernel
theorem d21_57 : decode method_5_code 57 = .ok (.dup, 1) := by decide +kernel
theorem d21_58 : decode method_5_code 58 = .ok (.iconst 5, 1) := by decide +kernel
theorem d21_59 : decode method_5_code 59 = .ok (.aload_n 2, 1) := by decide +kernel
theorem d21_60 : decode method_5_code 60 = .ok (.iconst 5, 1) := by decide +kernel
theorem d21_61 : decode method_5_code 61 = .ok (.invokevirtual 7, 3) := by decide +kernel
theorem d21_64 : decode method_5_code 64 = .ok (.castore, 1) := by decide +kernel
theorem d21_65 : decode method_5_code 65 = .ok (.dup, 1) := by decide +kernel
theorem d21_66 : decode method_5_code 66 = .ok (.bipush 6, 2) := by decide +kernel
theorem d21_68 : decode method_5_code 68 = .ok (.aload_n 2, 1) := by decide +kernel
theorem d21_69 : decode method_5_code 69 = .ok (.bipush 6, 2) := by decide +kernel
theorem d21_71 : decode method_5_code 71 = .ok (.invokevirtual 7, 3) := by decide +kernel
theorem d21_74 : decode method_5_code 74 = .ok (.castore, 1) := by decide +kernel
theorem d21_75 : decode method_5_code 75 = .ok (.dup, 1) := by decide +kernel
theorem d21_76 : decode method_5_code 76 = .ok (.bipush 7, 2) := by decide +kernel
theorem d21_78 : decode method_5_code 78 = .ok (.aload_n 2, 1) := by decide +kernel
theorem d21_79 : decode method_5_code 79 = .ok (.bipush 7, 2) := by decide +kernel
theorem d21_81 : decode method_5_code 81 = .ok (.invokevirtual 7, 3) := by decide +kernel
theorem d21_84 : decode method_5_code 84 = .ok (.castore, 1) := by decide +kernel
theorem d21_85 : decode method_5_code 85 = .ok (.dup, 1) := by decide +kernel
theorem d21_86 : decode method_5_code 86 = .ok (.bipush 8, 2) := by decide +kernel
theorem d21_88 : decode method_5_code 88 = .ok (.aload_n 2, 1) := by decide +kernel
theorem d21_89 : decode method_5_code 89 = .ok (.bipush 8, 2) := by decide +kernel
theorem d21_91 : decode method_5_code 91 = .ok (.invokevirtual 7, 3) := by decide +kernel
theorem d21_94 : decode method_5_code 94 = .ok (.castore, 1) := by decide +kernel
theorem d21_95 : decode method_5_code 95 = .ok (.dup, 1) := by decide +kernel
theorem d21_96 : decode method_5_code 96 = .ok (.bipush 9, 2) := by decide +kernel
theorem d21_98 : decode method_5_code 98 = .ok (.aload_n 2, 1) := by decide +kernel
theorem d21_99 : decode method_5_code 99 = .ok (.bipush 9, 2) := by decide +kernel
theorem d21_101 : decode method_5_code 101 = .ok (.invokevirtual 7, 3) := by decide +kernel
theorem d21_104 : decode method_5_code 104 = .ok (.castore, 1) := by decide +kernel
theorem d21_105 : decode method_5_code 105 = .ok (.dup, 1) := by decide +kernel
theorem d21_106 : decode method_5_code 106 = .ok (.bipush 10, 2) := by decide +kernel
theorem d21_108 : decode method_5_code 108 = .ok (.aload_n 2, 1) := by decide +kernel
theorem d21_109 : decode method_5_code 109 = .ok (.bipush 10, 2) := by decide +kernel
theorem d21_111 : decode method_5_code 111 = .ok (.invokevirtual 7, 3) := by decide +kernel
theorem d21_114 : decode method_5_code 114 = .ok (.castore, 1) := by decide +kernel
theorem d21_115 : decode method_5_code 115 = .ok (.dup, 1) := by decide +kernel
theorem d21_116 : decode method_5_code 116 = .ok (.bipush 11, 2) := by decide +kernel
theorem d21_118 : decode method_5_code 118 = .ok (.aload_n 2, 1) := by decide +kernel
theorem d21_119 : decode method_5_code 119 = .ok (.bipush 11, 2) := by decide +kernel
theorem d21_121 : decode method_5_code 121 = .ok (.invokevirtual 7, 3) := by decide +kernel
theorem d21_124 : decode method_5_code 124 = .ok (.castore, 1) := by decide +kernel
theorem d21_125 : decode method_5_code 125 = .ok (.dup, 1) := by decide +kernel
theorem d21_126 : decode method_5_code 126 = .ok (.bipush 12, 2) := by decide +kernel
theorem d21_128 : decode method_5_code 128 = .ok (.aload_n 2, 1) := by decide +kernel
theorem d21_129 : decode method_5_code 129 = .ok (.bipush 12, 2) := by decide +kernel
theorem d21_131 : decode method_5_code 131 = .ok (.invokevirtual 7, 3) := by decide +kernel
theorem d21_134 : decode method_5_code 134 = .ok (.castore, 1) := by decide +kernel
theorem d21_135 : decode method_5_code 135 = .ok (.dup, 1) := by decide +kernel
theorem d21_136 : decode method_5_code 136 = .ok (.bipush 13, 2) := by decide +kernel
theorem d21_138 : decode method_5_code 138 = .ok (.aload_n 2, 1) := by decide +kernel
theorem d21_139 : decode method_5_code 139 = .ok (.bipush 13, 2) := by decide +kernel
theorem d21_141 : decode method_5_code 141 = .ok (.invokevirtual 7, 3) := by decide +kernel
theorem d21_144 : decode method_5_code 144 = .ok (.castore, 1) := by decide +kernel
theorem d21_145 : decode method_5_code 145 = .ok (.dup, 1) := by decide +kernel
theorem d21_146 : decode method_5_code 146 = .ok (.bipush 14, 2) := by decide +kernel
theorem d21_148 : decode method_5_code 148 = .ok (.aload_n 2, 1) := by decide +kernel
theorem d21_149 : decode method_5_code 149 = .ok (.bipush 14, 2) := by decide +kernel
theorem d21_151 : decode method_5_code 151 = .ok (.invokevirtual 7, 3) := by decide +kernel
theorem d21_154 : decode method_5_code 154 = .ok (.castore, 1) := by decide +kernel
theorem d21_155 : decode method_5_code 155 = .ok (.dup, 1) := by decide +kernel
theorem d21_156 : decode method_5_code 156 = .ok (.bipush 15, 2) := by decide +kernel
theorem d21_158 : decode method_5_code 158 = .ok (.aload_n 2, 1) := by decide +kernel
theorem d21_159 : decode method_5_code 159 = .ok (.bipush 15, 2) := by decide +kernel
theorem d21_161 : decode method_5_code 161 = .ok (.invokevirtual 7, 3) := by decide +kernel
theorem d21_164 : decode method_5_code 164 = .ok (.castore, 1) := by decide +kernel
theorem d21_165 : decode method_5_code 165 = .ok (.dup, 1) := by decide +kernel
theorem d21_166 : decode method_5_code 166 = .ok (.bipush 16, 2) := by decide +kernel
theorem d21_168 : decode method_5_code 168 = .ok (.aload_n 2, 1) := by decide +kernel
theorem d21_169 : decode method_5_code 169 = .ok (.bipush 16, 2) := by decide +kernel
theorem d21_171 : decode method_5_code 171 = .ok (.invokevirtual 7, 3) := by decide +kernel
theorem d21_174 : decode method_5_code 174 = .ok (.castore, 1) := by decide +kernel
theorem d21_175 : decode method_5_code 175 = .ok (.dup, 1) := by decide +kernel
theorem d21_176 : decode method_5_code 176 = .ok (.bipush 17, 2) := by decide +kernel
theorem d21_178 : decode method_5_code 178 = .ok (.aload_n 2, 1) := by decide +kernel
theorem d21_179 : decode method_5_code 179 = .ok (.bipush 17, 2) := by decide +kernel
theorem d21_181 : decode method_5_code 181 = .ok (.invokevirtual 7, 3) := by decide +kernel
theorem d21_184 : decode method_5_code 184 = .ok (.castore, 1) := by decide +kernel
theorem d21_185 : decode method_5_code 185 = .ok (.invokespecial 15, 3) := by decide +kernel
theorem d21_188 : decode method_5_code 188 = .ok (.areturn, 1) := by decide +kernel
theorem d21_189 : decode method_5_code 189 = .ok (.new 8, 3) := by decide +kernel
theorem d21_192 : decode method_5_code 192 = .ok (.dup, 1) := by decide +kernel
theorem d21_193 : decode method_5_code 193 = .ok (.bipush 19, 2) := by decide +kernel
theorem d21_195 : decode method_5_code 195 = .ok (.newarray .char, 2) := by decide +kernel
theorem d21_197 : decode method_5_code 197 = .ok (.dup, 1) := by decide +kernel
theorem d21_198 : decode method_5_code 198 = .ok (.iconst 0, 1) := by decide +kernel
theorem d21_199 : decode method_5_code 199 = .ok (.aload_n 2, 1) := by decide +kernel
theorem d21_200 : decode method_5_code 200 = .ok (.iconst 0, 1) := by decide +kernel
theorem d21_201 : decode method_5_code 201 = .ok (.iload_n 0, 1) := by decide +kernel
theorem d21_202 : decode method_5_code 202 = .ok (.iload_n 1, 1) := by decide +kernel
theorem d21_203 : decode method_5_code 203 = .ok (.invokestatic 18, 3) := by decide +kernel
theorem d21_206 : decode method_5_code 206 = .ok (.castore, 1) := by decide +kernel
theorem d21_207 : decode method_5_code 207 = .ok (.dup, 1) := by decide +kernel
theorem d21_208 : decode method_5_code 208 = .ok (.iconst 1, 1) := by decide +kernel
theorem d21_209 : decode method_5_code 209 = .ok (.aload_n 2, 1) := by decide +kernel
theorem d21_210 : decode method_5_code 210 = .ok (.iconst 1, 1) := by decide +kernel
theorem d21_211 : decode method_5_code 211 = .ok (.iload_n 0, 1) := by decide +kernel
theorem d21_212 : decode method_5_code 212 = .ok (.iload_n 1, 1) := by decide +kernel
theorem d21_213 : decode method_5_code 213 = .ok (.invokestatic 18, 3) := by decide +kernel
theorem d21_216 : decode method_5_code 216 = .ok (.castore, 1) := by decide +kernel
theorem d21_217 : decode method_5_code 217 = .ok (.dup, 1) := by decide +kernel
theorem d21_218 : decode method_5_code 218 = .ok (.iconst 2, 1) := by decide +kernel
theorem d21_219 : decode method_5_code 219 = .ok (.aload_n 2, 1) := by decide +kernel
theorem d21_220 : decode method_5_code 220 = .ok (.iconst 2, 1) := by decide +kernel
theorem d21_221 : decode method_5_code 221 = .ok (.iload_n 0, 1) := by decide +kernel
theorem d21_222 : decode method_5_code 222 = .ok (.iload_n 1, 1) := by decide +kernel
theorem d21_223 : decode method_5_code 223 = .ok (.invokestatic 18, 3) := by decide +kernel
theorem d21_226 : decode method_5_code 226 = .ok (.castore, 1) := by decide +kernel
theorem d21_227 : decode method_5_code 227 = .ok (.dup, 1) := by decide +kernel
theorem d21_228 : decode method_5_code 228 = .ok (.iconst 3, 1) := by decide +kernel
theorem d21_229 : decode method_5_code 229 = .ok (.aload_n 2, 1) := by decide +kernel
theorem d21_230 : decode method_5_code 230 = .ok (.iconst 3, 1) := by decide +kernel
theorem d21_231 : decode method_5_code 231 = .ok (.iload_n 0, 1) := by decide +kernel
theorem d21_232 : decode method_5_code 232 = .ok (.iload_n 1, 1) := by decide +kernel
theorem d21_233 : decode method_5_code 233 = .ok (.invokestatic 18, 3) := by decide +kernel
theorem d21_236 : decode method_5_code 236 = .ok (.castore, 1) := by decide +kernel
theorem d21_237 : decode method_5_code 237 = .ok (.dup, 1) := by decide +kernel
theorem d21_238 : decode method_5_code 238 = .ok (.iconst 4, 1) := by decide +kernel
theorem d21_239 : decode method_5_code 239 = .ok (.aload_n 2, 1) := by decide +kernel
theorem d21_240 : decode method_5_code 240 = .ok (.iconst 4, 1) := by decide +kernel
theorem d21_241 : decode method_5_code 241 = .ok (.iload_n 0, 1) := by decide +kernel
theorem d21_242 : decode method_5_code 242 = .ok (.iload_n 1, 1) := by decide +kernel
theorem d21_243 : decode method_5_code 243 = .ok (.invokestatic 18, 3) := by decide +kernel
theorem d21_246 : decode method_5_code 246 = .ok (.castore, 1) := by decide +kernel
theorem d21_247 : decode method_5_code 247 = .ok (.dup, 1) := by decide +kernel
theorem d21_248 : decode method_5_code 248 = .ok (.iconst 5, 1) := by decide +kernel
theorem d21_249 : decode method_5_code 249 = .ok (.aload_n 2, 1) := by decide +kernel
theorem d21_250 : decode method_5_code 250 = .ok (.iconst 5, 1) := by decide +kernel
theorem d21_251 : decode method_5_code 251 = .ok (.iload_n 0, 1) := by decide +kernel
theorem d21_252 : decode method_5_code 252 = .ok (.iload_n 1, 1) := by decide +kernel
theorem d21_253 : decode method_5_code 253 = .ok (.invokestatic 18, 3) := by decide +kernel
theorem d21_256 : decode method_5_code 256 = .ok (.castore, 1) := by decide +kernel
theorem d21_257 : decode method_5_code 257 = .ok (.dup, 1) := by decide +kernel
theorem d21_258 : decode method_5_code 258 = .ok (.bipush 6, 2) := by decide +kernel
theorem d21_260 : decode method_5_code 260 = .ok (.aload_n 2, 1) := by decide +kernel
theorem d21_261 : decode method_5_code 261 = .ok (.bipush 6, 2) := by decide +kernel
theorem d21_263 : decode method_5_code 263 = .ok (.iload_n 0, 1) := by decide +kernel
theorem d21_264 : decode method_5_code 264 = .ok (.iload_n 1, 1) := by decide +kernel
theorem d21_265 : decode method_5_code 265 = .ok (.invokestatic 18, 3) := by decide +kernel
theorem d21_268 : decode method_5_code 268 = .ok (.castore, 1) := by decide +kernel
theorem d21_269 : decode method_5_code 269 = .ok (.dup, 1) := by decide +kernel
theorem d21_270 : decode method_5_code 270 = .ok (.bipush 7, 2) := by decide +kernel
theorem d21_272 : decode method_5_code 272 = .ok (.aload_n 2, 1) := by decide +kernel
theorem d21_273 : decode method_5_code 273 = .ok (.bipush 7, 2) := by decide +kernel
theorem d21_275 : decode method_5_code 275 = .ok (.iload_n 0, 1) := by decide +kernel
theorem d21_276 : decode method_5_code 276 = .ok (.iload_n 1, 1) := by decide +kernel
theorem d21_277 : decode method_5_code 277 = .ok (.invokestatic 18, 3) := by decide +kernel
theorem d21_280 : decode method_5_code 280 = .ok (.castore, 1) := by decide +kernel
theorem d21_281 : decode method_5_code 281 = .ok (.dup, 1) := by decide +kernel
theorem d21_282 : decode method_5_code 282 = .ok (.bipush 8, 2) := by decide +kernel
theorem d21_284 : decode method_5_code 284 = .ok (.aload_n 2, 1) := by decide +kernel
theorem d21_285 : decode method_5_code 285 = .ok (.bipush 8, 2) := by decide +kernel
theorem d21_287 : decode method_5_code 287 = .ok (.iload_n 0, 1) := by decide +kernel
theorem d21_288 : decode method_5_code 288 = .ok (.iload_n 1, 1) := by decide +kernel
theorem d21_289 : decode method_5_code 289 = .ok (.invokestatic 18, 3) := by decide +kernel
theorem d21_292 : decode method_5_code 292 = .ok (.castore, 1) := by decide +kernel
theorem d21_293 : decode method_5_code 293 = .ok (.dup, 1) := by decide +kernel
theorem d21_294 : decode method_5_code 294 = .ok (.bipush 9, 2) := by decide +kernel
theorem d21_296 : decode method_5_code 296 = .ok (.aload_n 2, 1) := by decide +kernel
theorem d21_297 : decode method_5_code 297 = .ok (.bipush 9, 2) := by decide +kernel
theorem d21_299 : decode method_5_code 299 = .ok (.iload_n 0, 1) := by decide +kernel
theorem d21_300 : decode method_5_code 300 = .ok (.iload_n 1, 1) := by decide +kernel
theorem d21_301 : decode method_5_code 301 = .ok (.invokestatic 18, 3) := by decide +kernel
theorem d21_304 : decode method_5_code 304 = .ok (.castore, 1) := by decide +kernel
theorem d21_305 : decode method_5_code 305 = .ok (.dup, 1) := by decide +kernel
theorem d21_306 : decode method_5_code 306 = .ok (.bipush 10, 2) := by decide +kernel
theorem d21_308 : decode method_5_code 308 = .ok (.aload_n 2, 1) := by decide +kernel
theorem d21_309 : decode method_5_code 309 = .ok (.bipush 10, 2) := by decide +kernel
theorem d21_311 : decode method_5_code 311 = .ok (.iload_n 0, 1) := by decide +kernel
theorem d21_312 : decode method_5_code 312 = .ok (.iload_n 1, 1) := by decide +kernel
theorem d21_313 : decode method_5_code 313 = .ok (.invokestatic 18, 3) := by decide +kernel
theorem d21_316 : decode method_5_code 316 = .ok (.castore, 1) := by decide +kernel
theorem d21_317 : decode method_5_code 317 = .ok (.dup, 1) := by decide +kernel
theorem d21_318 : decode method_5_code 318 = .ok (.bipush 11, 2) := by decide +kernel
theorem d21_320 : decode method_5_code 320 = .ok (.aload_n 2, 1) := by decide +kernel
theorem d21_321 : decode method_5_code 321 = .ok (.bipush 11, 2) := by decide +kernel
theorem d21_323 : decode method_5_code 323 = .ok (.iload_n 0, 1) := by decide +kernel
theorem d21_324 : decode method_5_code 324 = .ok (.iload_n 1, 1) := by decide +kernel
theorem d21_325 : decode method_5_code 325 = .ok (.invokestatic 18, 3) := by decide +kernel
theorem d21_328 : decode method_5_code 328 = .ok (.castore, 1) := by decide +kernel
theorem d21_329 : decode method_5_code 329 = .ok (.dup, 1) := by decide +kernel
theorem d21_330 : decode method_5_code 330 = .ok (.bipush 12, 2) := by decide +kernel
theorem d21_332 : decode method_5_code 332 = .ok (.aload_n 2, 1) := by decide +kernel
theorem d21_333 : decode method_5_code 333 = .ok (.bipush 12, 2) := by decide +kernel
theorem d21_335 : decode method_5_code 335 = .ok (.iload_n 0, 1) := by decide +kernel
theorem d21_336 : decode method_5_code 336 = .ok (.iload_n 1, 1) := by decide +kernel
theorem d21_337 : decode method_5_code 337 = .ok (.invokestatic 18, 3) := by decide +kernel
theorem d21_340 : decode method_5_code 340 = .ok (.castore, 1) := by decide +kernel
theorem d21_341 : decode method_5_code 341 = .ok (.dup, 1) := by decide +kernel
theorem d21_342 : decode method_5_code 342 = .ok (.bipush 13, 2) := by decide +kernel
theorem d21_344 : decode method_5_code 344 = .ok (.aload_n 2, 1) := by decide +kernel
theorem d21_345 : decode method_5_code 345 = .ok (.bipush 13, 2) := by decide +kernel
theorem d21_347 : decode method_5_code 347 = .ok (.iload_n 0, 1) := by decide +kernel
theorem d21_348 : decode method_5_code 348 = .ok (.iload_n 1, 1) := by decide +kernel
theorem d21_349 : decode method_5_code 349 = .ok (.invokestatic 18, 3) := by decide +kernel
theorem d21_352 : decode method_5_code 352 = .ok (.castore, 1) := by decide +kernel
theorem d21_353 : decode method_5_code 353 = .ok (.dup, 1) := by decide +kernel
theorem d21_354 : decode method_5_code 354 = .ok (.bipush 14, 2) := by decide +kernel
theorem d21_356 : decode method_5_code 356 = .ok (.aload_n 2, 1) := by decide +kernel
theorem d21_357 : decode method_5_code 357 = .ok (.bipush 14, 2) := by decide +kernel
theorem d21_359 : decode method_5_code 359 = .ok (.iload_n 0, 1) := by decide +kernel
theorem d21_360 : decode method_5_code 360 = .ok (.iload_n 1, 1) := by decide +kernel
theorem d21_361 : decode method_5_code 361 = .ok (.invokestatic 18, 3) := by decide +kernel
theorem d21_364 : decode method_5_code 364 = .ok (.castore, 1) := by decide +kernel
theorem d21_365 : decode method_5_code 365 = .ok (.dup, 1) := by decide +kernel
theorem d21_366 : decode method_5_code 366 = .ok (.bipush 15, 2) := by decide +kernel
theorem d21_368 : decode method_5_code 368 = .ok (.aload_n 2, 1) := by decide +kernel
theorem d21_369 : decode method_5_code 369 = .ok (.bipush 15, 2) := by decide +kernel
theorem d21_371 : decode method_5_code 371 = .ok (.iload_n 0, 1) := by decide +kernel
theorem d21_372 : decode method_5_code 372 = .ok (.iload_n 1, 1) := by decide +kernel
theorem d21_373 : decode method_5_code 373 = .ok (.invokestatic 18, 3) := by decide +kernel
theorem d21_376 : decode method_5_code 376 = .ok (.castore, 1) := by decide +kernel
theorem d21_377 : decode method_5_code 377 = .ok (.dup, 1) := by decide +kernel
theorem d21_378 : decode method_5_code 378 = .ok (.bipush 16, 2) := by decide +kernel
theorem d21_380 : decode method_5_code 380 = .ok (.aload_n 2, 1) := by decide +kernel
theorem d21_381 : decode method_5_code 381 = .ok (.bipush 16, 2) := by decide +kernel
theorem d21_383 : decode method_5_code 383 = .ok (.iload_n 0, 1) := by decide +kernel
theorem d21_384 : decode method_5_code 384 = .ok (.iload_n 1, 1) := by decide +kernel
theorem d21_385 : decode method_5_code 385 = .ok (.invokestatic 18, 3) := by decide +kernel
theorem d21_388 : decode method_5_code 388 = .ok (.castore, 1) := by decide +kernel
theorem d21_389 : decode method_5_code 389 = .ok (.dup, 1) := by decide +kernel
theorem d21_390 : decode method_5_code 390 = .ok (.bipush 17, 2) := by decide +kernel
theorem d21_392 : decode method_5_code 392 = .ok (.aload_n 2, 1) := by decide +kernel
theorem d21_393 : decode method_5_code 393 = .ok (.bipush 17, 2) := by decide +kernel
theorem d21_395 : decode method_5_code 395 = .ok (.iload_n 0, 1) := by decide +kernel
theorem d21_396 : decode method_5_code 396 = .ok (.iload_n 1, 1) := by decide +kernel
theorem d21_397 : decode method_5_code 397 = .ok (.invokestatic 18, 3) := by decide +kernel
theorem d21_400 : decode method_5_code 400 = .ok (.castore, 1) := by decide +kernel
theorem d21_401 : decode method_5_code 401 = .ok (.dup, 1) := by decide +kernel
theorem d21_402 : decode method_5_code 402 = .ok (.bipush 18, 2) := by decide +kernel
theorem d21_404 : decode method_5_code 404 = .ok (.aload_n 2, 1) := by decide +kernel
theorem d21_405 : decode method_5_code 405 = .ok (.bipush 18, 2) := by decide +kernel
theorem d21_407 : decode method_5_code 407 = .ok (.iload_n 0, 1) := by decide +kernel
theorem d21_408 : decode method_5_code 408 = .ok (.iload_n 1, 1) := by decide +kernel
theorem d21_409 : decode method_5_code 409 = .ok (.invokestatic 18, 3) := by decide +kernel
theorem d21_412 : decode method_5_code 412 = .ok (.castore, 1) := by decide +kernel
theorem d21_413 : decode method_5_code 413 = .ok (.invokespecial 15, 3) := by decide +kernel
theorem d21_416 : decode method_5_code 416 = .ok (.areturn, 1) := by decide +kernel
theorem pn_java_lang_String : plainName "java/lang/String" = true := by first | (simp [plainName, overriddenIn]; done) | decide +kernel
theorem pn_jdk_internal_util_Preconditions : plainName "jdk/internal/util/Preconditions" = true := by first | (simp [plainName, overriddenIn]; done) | decide +kernel
theorem pd_IILjava_util_function_BiFunction_R_I : parseMethodDescriptor "(IILjava/util/function/BiFunction;)I" = some ⟨[.int, .int, (.object "java/util/function/BiFunction")], some .int⟩ := by decide +kernel
theorem pn_java_lang_StringLatin1 : plainName "java/lang/StringLatin1" = true := by first | (simp [plainName, overriddenIn]; done) | decide +kernel
theorem pd_II_R_V : parseMethodDescriptor "(II)V" = some ⟨[.int, .int], none⟩ := by decide +kernel
theorem pd__R_Z : parseMethodDescriptor "()Z" = some ⟨[], some .boolean⟩ := by decide +kernel
theorem pd_ABI_R_C : parseMethodDescriptor "([BI)C" = some ⟨[(.array .byte), .int], some .char⟩ := by decide +kernel
theorem pn_com_example_numerary_numerary_ScoringOfCodePinLaw : plainName "com/example/numerary/numerary/ScoringOfCodePinLaw" = true := by first | (simp [plainName, overriddenIn]; done) | decide +kernel
theorem pd_I_R_C : parseMethodDescriptor "(I)C" = some ⟨[.int], some .char⟩ := by decide +kernel
theorem pd_ACIILjava_lang_Void_R_V : parseMethodDescriptor "([CIILjava/lang/Void;)V" = some ⟨[(.array .char), .int, .int, (.object "java/lang/Void")], none⟩ := by decide +kernel
theorem pd_AC_R_V : parseMethodDescriptor "([C)V" = some ⟨[(.array .char)], none⟩ := by decide +kernel
theorem pd_Ljava_lang_StringIIC_R_C : parseMethodDescriptor "(Ljava/lang/String;IIC)C" = some ⟨[(.object "java/lang/String"), .int, .int, .char], some .char⟩ := by decide +kernel
theorem pn_com_example_numerary_numerary_Scoring : plainName "com/example/numerary/numerary/Scoring" = true := by first | (simp [plainName, overriddenIn]; done) | decide +kernel
theorem pd__R_ALcom_example_numerary_numerary_Scoring : parseMethodDescriptor "()[Lcom/example/numerary/numerary/Scoring;" = some ⟨[], some (.array (.object "com/example/numerary/numerary/Scoring"))⟩ := by decide +kernel
theorem pd_Ljava_lang_Object_R_Z : parseMethodDescriptor "(Ljava/lang/Object;)Z" = some ⟨[(.object "java/lang/Object")], some .boolean⟩ := by decide +kernel
theorem pd_Ljava_lang_String_R_Lcom_example_numerary_numerary_Scoring : parseMethodDescriptor "(Ljava/lang/String;)Lcom/example/numerary/numerary/Scoring;" = some ⟨[(.object "java/lang/String")], some (.object "com/example/numerary/numerary/Scoring")⟩ := by decide +kernel
theorem pd_IC_R_Ljava_lang_String : parseMethodDescriptor "(IC)Ljava/lang/String;" = some ⟨[.int, .char], some (.object "java/lang/String")⟩ := by decide +kernel
theorem pd_ICCCCC_R_Ljava_lang_String : parseMethodDescriptor "(ICCCCC)Ljava/lang/String;" = some ⟨[.int, .char, .char, .char, .char, .char], some (.object "java/lang/String")⟩ := by decide +kernel
def UST (Z : State) (zc : Int32) (fm : Value) : Prop := ¬ zc = 0 ∧ Sta Z Z.heap "java/lang/String" "COMPACT_STRINGS" "Z" (.int zc) ∧ True ∧ True ∧ True ∧ fm.isRef = true ∧ Sta Z Z.heap "jdk/internal/util/Preconditions" "SIOOBE_FORMATTER" "Ljava/util/function/BiFunction;" fm
theorem own_narc {ch : Int32} (hb : ¬ ch < 0 ∧ ¬ (65535 : Int32) < ch) : nar .char ch = ch := by
  have q := StrChars.narrow_ch hb.1 hb.2
  have e : narrow .char (.int ch) = .int (nar .char ch) := rfl
  rw [e] at q; exact Value.int.inj q
def By (c : Int32) : Prop := ¬ c < 0 ∧ ¬ (255 : Int32) < c
theorem By.ch {c : Int32} (h : By c) : ¬ c < 0 ∧ ¬ (65535 : Int32) < c := ⟨h.1, own_up h.2⟩
def QBy (h0 : Heap) (v : Option Value) (h : Heap) (L : List Loc) : Prop := L = [] ∧ h0 = h ∧ ∃ r, v = some (.int r) ∧ By r
theorem QBy.ok {h0 : Heap} {Z : State} {EL : List (String × Nat)} {vm0 : Vm} {wl : List Addr} {k : Nat} (H : CHv Z EL vm0 h0) : ∀ u h L, QBy h0 u h L → W.Frw wl k L ∧ CHr Z EL vm0 h0 vm0 h := fun u h L q => by
  obtain ⟨rfl, rfl, -⟩ := q; exact ⟨W.Frw.nil, CHr.refl H⟩
/-- x is a Latin-1 String of the n chars f, its bytes at t -/
def Lt (Z : State) (h : Heap) (x t : Addr) (kb : ClassId) (n : Nat) (f : Nat → Int32) : Prop := Exa Z h x "java/lang/String" ∧ Fld Z h x "java/lang/String" "value" "[B" (.ref t) ∧ Fld Z h x "java/lang/String" "coder" "B" (.int 0) ∧ W.Arg Z h t kb .byte n (fun i => StrChars.lo8 (f i)) ∧ ∀ i, i < n → By (f i)
theorem Lt.ext {Z : State} {h h' : Heap} {x t : Addr} {kb : ClassId} {n : Nat} {f : Nat → Int32} (S : Lt Z h x t kb n f) (E : Ext h h') : Lt Z h' x t kb n f := ⟨S.1.ext E, S.2.1.ext E, S.2.2.1.ext E, S.2.2.2.1.ext E, S.2.2.2.2⟩
theorem Lt.other {Z : State} {h h' : Heap} {x t a : Addr} {kb : ClassId} {n : Nat} {f : Nat → Int32} {sl : Nat} {v : Value} (S : Lt Z h x t kb n f) (Wq : Wr h h' a sl v) (q1 : x ≠ a) (q2 : t ≠ a) : Lt Z h' x t kb n f := ⟨S.1.wr Wq, S.2.1.other Wq (Or.inl q1), S.2.2.1.other Wq (Or.inl q1), S.2.2.2.1.other Wq q2, S.2.2.2.2⟩
set_option maxRecDepth 65536 in
set_option maxHeartbeats 40000000 in
theorem c_lat (l : Launch) (Z : State) (a0 : Array Value) (hw : ∀ d ∈ tables_1, d.before a0 Z = true) (x : Addr) (cd : Int32) (hcd : cd = 0 ∨ cd = 1) (h0 : Heap) (F0 : Fld Z h0 x "java/lang/String" "coder" "B" (.int cd)) (EZ : Ext Z.heap h0) (zc : Int32) (fm : Value) (US : UST Z zc fm) : W.MetN l Z (⟨"java/lang/String", "isLatin1", "()Z"⟩ : MethodName) jdk_42_method_154_code 1 ((Option.some Jvm.ClassFile.FieldType.boolean)) [] ({ frames := 0, cells := 0, slots := 0, locals := 0 } : Room) #[.ref x]  h0 (W.Pure (some (.int (if cd = 0 then 1 else 0))) h0) := by
  refine W.MetN.mk (ls0 := #[.val (.ref x)]) [] (plainFor_of_name pn_java_lang_String) (fun m => by first | (simp [entryFrame, mkF, argsToLocals, Value.category]; done) | rfl) ?_
  intro p e s m below meth c s₁ hml hret hnm hlk P0
  show W.Go p.tables e below _ (s₁.setTop (mkF m 0 #[.val (.ref x)] []))
  refine P0.getS (pc1 := 3) (wd hw (k := 28) rfl) Via.refl (US.2.1.ext (P0.extZ EZ all0)) d4_0 rfl ?_
  intro T101 P101
  refine W.g_ifN (pc2 := 6) P101.q d4_3 rfl US.1 ?_
  refine W.g_aloadN (pc1 := 7) P101.q d4_6 rfl rfl rfl ?_
  refine P101.getF (host := "") (pc1 := 10) (Or.inl (wd hw (k := 29) rfl)) Via.refl F0 d4_7 rfl ?_
  intro T102 P102
  refine W.g_if (pc1 := 17) (pc2 := 13) P102.q d4_10 (by decide) rfl rfl (fun (hc : ¬ cd = 0) => ?_) (fun (hc : ¬ (¬ cd = 0)) => ?_)
  · refine W.g_iconst (pc1 := 18) (v := (0 : Int32)) P102.q d4_17 (by decide) rfl ?_
    exact P102.retVN hlk hret (Or.inl rfl) d4_18 (by decide) (by decide) ⟨by rw [if_neg hc]; rfl, rfl, rfl⟩
  · refine W.g_iconst (pc1 := 14) (v := (1 : Int32)) P102.q d4_13 (by decide) rfl ?_
    refine W.g_goto (pc1 := 18) P102.q d4_14 (by decide) rfl ?_
    exact P102.retVN hlk hret (Or.inl rfl) d4_18 (by decide) (by decide) ⟨by rw [if_pos (Decidable.byContradiction hc)]; rfl, rfl, rfl⟩
set_option maxRecDepth 65536 in
set_option maxHeartbeats 40000000 in
theorem c_pci (l : Launch) (Z : State) (a0 : Array Value) (hw : ∀ d ∈ tables_1, d.before a0 Z = true) (i n : Nat) (hi : i < n) (hn : n < 2147483648) (fm : Value) (hfm : fm.isRef = true) (h0 : Heap) : W.MetN l Z (⟨"jdk/internal/util/Preconditions", "checkIndex", "(IILjava/util/function/BiFunction;)I"⟩ : MethodName) jdk_41_method_11_code 3 ((Option.some Jvm.ClassFile.FieldType.int)) [] ({ frames := 0, cells := 0, slots := 0, locals := 0 } : Room) #[.int (Int32.ofNat i), .int (Int32.ofNat n), fm]  h0 (W.Pure (some (.int (Int32.ofNat i))) h0) := by
  refine W.MetN.mk (ls0 := #[.val (.int (Int32.ofNat i)), .val (.int (Int32.ofNat n)), .val fm]) [] (plainFor_of_name pn_jdk_internal_util_Preconditions) (fun m => by rcases ref_cases hfm with q | ⟨z, q⟩ <;> subst q <;> rfl) ?_
  intro p e s m below meth c s₁ hml hret hnm hlk P0
  show W.Go p.tables e below _ (s₁.setTop (mkF m 0 #[.val (.int (Int32.ofNat i)), .val (.int (Int32.ofNat n)), .val fm] []))
  refine W.g_iloadN (pc1 := 1) P0.q d7_0 rfl rfl ?_
  refine W.g_ifN (pc2 := 4) P0.q d7_1 rfl (W.nn32 (by omega)) ?_
  refine W.g_iloadN (pc1 := 5) P0.q d7_4 rfl rfl ?_
  refine W.g_iloadN (pc1 := 6) P0.q d7_5 rfl rfl ?_
  refine W.g_cmpY (pc1 := 16) P0.q d7_6 (by decide) rfl ((W.lt32 (by omega) hn).mpr hi) ?_
  refine W.g_iloadN (pc1 := 17) P0.q d7_16 rfl rfl ?_
  exact P0.retIN hlk hret d7_17 (by decide) (by decide) ⟨rfl, rfl, rfl⟩
set_option maxRecDepth 65536 in
set_option maxHeartbeats 40000000 in
theorem c_ci (l : Launch) (Z : State) (a0 : Array Value) (hw : ∀ d ∈ tables_1, d.before a0 Z = true) (i n : Nat) (hi : i < n) (hn : n < 2147483648) (h0 : Heap) (EZ : Ext Z.heap h0) (zc : Int32) (fm : Value) (US : UST Z zc fm) : W.MetN l Z (⟨"java/lang/String", "checkIndex", "(II)V"⟩ : MethodName) jdk_42_method_155_code 2 ((Option.none : Option Jvm.ClassFile.FieldType)) [] ({ frames := 1, cells := 0, slots := 0, locals := 14 } : Room) #[.int (Int32.ofNat i), .int (Int32.ofNat n)]  h0 (W.Pure none h0) := by
  refine W.MetN.mk (ls0 := #[.val (.int (Int32.ofNat i)), .val (.int (Int32.ofNat n))]) [] (plainFor_of_name pn_java_lang_String) (fun m => by first | (simp [entryFrame, mkF, argsToLocals, Value.category]; done) | rfl) ?_
  intro p e s m below meth c s₁ hml hret hnm hlk P0
  show W.Go p.tables e below _ (s₁.setTop (mkF m 0 #[.val (.int (Int32.ofNat i)), .val (.int (Int32.ofNat n))] []))
  refine W.g_iloadN (pc1 := 1) P0.q d6_0 rfl rfl ?_
  refine W.g_iloadN (pc1 := 2) P0.q d6_1 rfl rfl ?_
  refine P0.getS (pc1 := 5) (wd hw (k := 38) rfl) Via.refl (US.2.2.2.2.2.2.ext (P0.extZ EZ all0)) d6_2 rfl ?_
  intro T103 P103
  refine P103.callS (pc1 := 8) (wd hw (k := 40) rfl) (wd hw (k := 41) rfl) (wd hw (k := 39) rfl) (wd hw (k := 42) rfl) (by decide) (W.MetN.pay (W := 0) (c_pci l Z a0 hw i n hi hn fm US.2.2.2.2.2.1 h0) P103 (wd hw (k := 42) rfl) (wd hw (k := 39) rfl) (by decide) (by decide)) (argsL := [(.int (Int32.ofNat i)), (.int (Int32.ofNat n)), fm]) (st0 := []) (lenOf pd_IILjava_util_function_BiFunction_R_I rfl) rfl rfl (Nat.le_of_eq rfl) (by rw [hml]; rfl) (by decide) (by decide) (W.Pure.ok P103.chv) d6_5 rfl ?_
  intro v104 T104 h104 L104 q104 P104
  obtain ⟨rfl, rfl, rfl⟩ := q104
  show W.Go p.tables e below _ (T104.setTop (mkF m 8 #[.val (.int (Int32.ofNat i)), .val (.int (Int32.ofNat n))] [(.int (Int32.ofNat i))]))
  refine W.g_pop (pc1 := 9) P104.q d6_8 rfl rfl ?_
  exact P104.retN hlk hret d6_9 (by decide) (by decide) ⟨rfl, rfl, rfl⟩
set_option maxRecDepth 65536 in
set_option maxHeartbeats 40000000 in
theorem c_lch (l : Launch) (Z : State) (a0 : Array Value) (hw : ∀ d ∈ tables_1, d.before a0 Z = true) (x t : Addr) (kb : ClassId) (i n : Nat) (hi : i < n) (f : Nat → Int32) (hn : n < 2147483648) (h0 : Heap) (S0 : Lt Z h0 x t kb n f) (EZ : Ext Z.heap h0) (zc : Int32) (fm : Value) (US : UST Z zc fm) : W.MetN l Z (⟨"java/lang/StringLatin1", "charAt", "([BI)C"⟩ : MethodName) jdk_43_method_2_code 2 ((Option.some Jvm.ClassFile.FieldType.char)) [] ({ frames := 2, cells := 0, slots := 0, locals := 27 } : Room) #[.ref t, .int (Int32.ofNat i)]  h0 (W.Pure (some (.int (f i))) h0) := by
  refine W.MetN.mk (ls0 := #[.val (.ref t), .val (.int (Int32.ofNat i))]) [] (plainFor_of_name pn_java_lang_StringLatin1) (fun m => by first | (simp [entryFrame, mkF, argsToLocals, Value.category]; done) | rfl) ?_
  intro p e s m below meth c s₁ hml hret hnm hlk P0
  show W.Go p.tables e below _ (s₁.setTop (mkF m 0 #[.val (.ref t), .val (.int (Int32.ofNat i))] []))
  have V := S0.2.2.2.1
  have hb := S0.2.2.2.2 i hi
  refine W.g_iloadN (pc1 := 1) P0.q d5_0 rfl rfl ?_
  refine W.g_aloadN (pc1 := 2) P0.q d5_1 rfl rfl rfl ?_
  refine P0.lenG (pc1 := 3) V d5_2 rfl ?_
  refine P0.callS (pc1 := 6) (wd hw (k := 35) rfl) (wd hw (k := 36) rfl) (wd hw (k := 6) rfl) (wd hw (k := 37) rfl) (by decide) (W.MetN.pay (W := 0) (c_ci l Z a0 hw i n hi hn h0 (P0.extZ EZ all0) zc fm US) P0 (wd hw (k := 37) rfl) (wd hw (k := 6) rfl) (by decide) (by decide)) (argsL := [(.int (Int32.ofNat i)), (.int (Int32.ofNat n))]) (st0 := []) (lenOf pd_II_R_V rfl) rfl rfl (Nat.le_of_eq rfl) (by rw [hml]; rfl) (by decide) (by decide) (W.Pure.ok P0.chv) d5_3 rfl ?_
  intro v105 T105 h105 L105 q105 P105
  obtain ⟨rfl, rfl, rfl⟩ := q105
  show W.Go p.tables e below _ (T105.setTop (mkF m 6 #[.val (.ref t), .val (.int (Int32.ofNat i))] []))
  refine W.g_aloadN (pc1 := 7) P105.q d5_6 rfl rfl rfl ?_
  refine W.g_iloadN (pc1 := 8) P105.q d5_7 rfl rfl ?_
  refine P105.ldBg (pc1 := 9) V (i := i) hi d5_8 rfl ?_
  refine W.g_sipush (pc1 := 12) (v := (255 : Int32)) P105.q d5_9 (by decide) rfl ?_
  refine W.g_iand (pc1 := 13) P105.q d5_12 rfl ?_
  refine W.g_i2c (pc1 := 14) P105.q d5_13 rfl ?_
  show W.Go p.tables e below _ (T105.setTop (mkF m 14 #[.val (.ref t), .val (.int (Int32.ofNat i))] [.int (StrChars.chr8 (StrChars.lo8 (f i)))]))
  rw [StrChars.chr8_lo8 hb.1 hb.2]
  exact P105.retVN hlk hret (Or.inr (Or.inr (Or.inl rfl))) d5_14 (by decide) (by decide) ⟨by rw [own_narc hb.ch], rfl, rfl⟩
set_option maxRecDepth 65536 in
set_option maxHeartbeats 40000000 in
theorem c_ch (l : Launch) (Z : State) (a0 : Array Value) (hw : ∀ d ∈ tables_1, d.before a0 Z = true) (x t : Addr) (kb : ClassId) (i n : Nat) (hi : i < n) (f : Nat → Int32) (hn : n < 2147483648) (h0 : Heap) (S0 : Lt Z h0 x t kb n f) (EZ : Ext Z.heap h0) (zc : Int32) (fm : Value) (US : UST Z zc fm) : W.MetN l Z (⟨"java/lang/String", "charAt", "(I)C"⟩ : MethodName) jdk_42_method_56_code 2 ((Option.some Jvm.ClassFile.FieldType.char)) [] ({ frames := 4, cells := 0, slots := 0, locals := 53 } : Room) #[.ref x, .int (Int32.ofNat i)]  h0 (W.Pure (some (.int (f i))) h0) := by
  refine W.MetN.mk (ls0 := #[.val (.ref x), .val (.int (Int32.ofNat i))]) [] (plainFor_of_name pn_java_lang_String) (fun m => by first | (simp [entryFrame, mkF, argsToLocals, Value.category]; done) | rfl) ?_
  intro p e s m below meth c s₁ hml hret hnm hlk P0
  show W.Go p.tables e below _ (s₁.setTop (mkF m 0 #[.val (.ref x), .val (.int (Int32.ofNat i))] []))
  refine W.g_aloadN (pc1 := 1) P0.q d3_0 rfl rfl rfl ?_
  refine P0.callV (pc1 := 4) S0.1 (wd hw (k := 23) rfl) (wd hw (k := 24) rfl) (wd hw (k := 26) rfl) (wd hw (k := 25) rfl) (notFace_of_selects (args := #[]) (mvT P0.hz (wd hw (k := 26) rfl))) (by decide) (W.MetN.pay (W := 0) (c_lat l Z a0 hw x 0 (Or.inl rfl) h0 S0.2.2.1 (P0.extZ EZ all0) zc fm US) P0 (wd hw (k := 27) rfl) (wd hw (k := 6) rfl) (by decide) (by decide)) (argsL := []) (st0 := []) (lenOf pd__R_Z rfl) rfl rfl (Nat.le_of_eq rfl) (by rw [hml]; rfl) (by decide) (by decide) (W.Pure.ok P0.chv) d3_1 rfl ?_
  intro v106 T106 h106 L106 q106 P106
  obtain ⟨rfl, rfl, rfl⟩ := q106
  show W.Go p.tables e below _ (T106.setTop (mkF m 4 #[.val (.ref x), .val (.int (Int32.ofNat i))] [(.int (1 : Int32))]))
  refine W.g_ifN (pc2 := 7) P106.q d3_4 rfl (by decide) ?_
  refine W.g_aloadN (pc1 := 8) P106.q d3_7 rfl rfl rfl ?_
  refine P106.getF (host := "") (pc1 := 11) (Or.inl (wd hw (k := 30) rfl)) Via.refl S0.2.1 d3_8 rfl ?_
  intro T107 P107
  refine W.g_iloadN (pc1 := 12) P107.q d3_11 rfl rfl ?_
  refine P107.callS (pc1 := 15) (wd hw (k := 31) rfl) (wd hw (k := 32) rfl) (wd hw (k := 33) rfl) (wd hw (k := 34) rfl) (by decide) (W.MetN.pay (W := 0) (c_lch l Z a0 hw x t kb i n hi f hn h0 S0 (P107.extZ EZ all0) zc fm US) P107 (wd hw (k := 34) rfl) (wd hw (k := 33) rfl) (by decide) (by decide)) (argsL := [(.ref t), (.int (Int32.ofNat i))]) (st0 := []) (lenOf pd_ABI_R_C rfl) rfl rfl (Nat.le_of_eq rfl) (by rw [hml]; rfl) (by decide) (by decide) (W.Pure.ok P107.chv) d3_12 rfl ?_
  intro v108 T108 h108 L108 q108 P108
  obtain ⟨rfl, rfl, rfl⟩ := q108
  show W.Go p.tables e below _ (T108.setTop (mkF m 15 #[.val (.ref x), .val (.int (Int32.ofNat i))] [(.int (f i))]))
  exact P108.retVN hlk hret (Or.inr (Or.inr (Or.inl rfl))) d3_15 (by decide) (by decide) ⟨by rw [own_narc (S0.2.2.2.2 i hi).ch], rfl, rfl⟩
set_option maxRecDepth 65536 in
set_option maxHeartbeats 40000000 in
theorem c_chx (l : Launch) (Z : State) (a0 : Array Value) (hw : ∀ d ∈ tables_1, d.before a0 Z = true) (x t : Addr) (kb : ClassId) (i n : Nat) (hi : i < n) (f : Nat → Int32) (hn : n < 2147483648) (q c1 : Int32) (hc1 : By c1) (h0 : Heap) (S0 : Lt Z h0 x t kb n f) (EZ : Ext Z.heap h0) (zc : Int32) (fm : Value) (US : UST Z zc fm) : W.MetN l Z (⟨"com/example/numerary/numerary/ScoringOfCodePinLaw", "ch", "(Ljava/lang/String;IIC)C"⟩ : MethodName) method_2_code 4 ((Option.some Jvm.ClassFile.FieldType.char)) [] ({ frames := 5, cells := 0, slots := 0, locals := 70 } : Room) #[.ref x, .int (Int32.ofNat i), .int q, .int c1]  h0 (QBy h0) := by
  refine W.MetN.mk (ls0 := #[.val (.ref x), .val (.int (Int32.ofNat i)), .val (.int q), .val (.int c1)]) [] (plainFor_of_name pn_com_example_numerary_numerary_ScoringOfCodePinLaw) (fun m => by first | (simp [entryFrame, mkF, argsToLocals, Value.category]; done) | rfl) ?_
  intro p e s m below meth c s₁ hml hret hnm hlk P0
  show W.Go p.tables e below _ (s₁.setTop (mkF m 0 #[.val (.ref x), .val (.int (Int32.ofNat i)), .val (.int q), .val (.int c1)] []))
  refine W.g_iloadN (pc1 := 1) P0.q d2_0 rfl rfl ?_
  refine W.g_iloadN (pc1 := 2) P0.q d2_1 rfl rfl ?_
  refine W.g_cmp (pc1 := 9) (pc2 := 5) P0.q d2_2 (by decide) rfl rfl (fun (h1 : ¬ (Int32.ofNat i) = q) => ?_) (fun (h1 : ¬ (¬ (Int32.ofNat i) = q)) => ?_)
  · refine W.g_aloadN (pc1 := 10) P0.q d2_9 rfl rfl rfl ?_
    refine W.g_iloadN (pc1 := 11) P0.q d2_10 rfl rfl ?_
    refine P0.callV (pc1 := 14) S0.1 (wd hw (k := 18) rfl) (wd hw (k := 19) rfl) (wd hw (k := 21) rfl) (wd hw (k := 20) rfl) (notFace_of_selects (args := #[]) (mvT P0.hz (wd hw (k := 21) rfl))) (by decide) (W.MetN.pay (W := 0) (c_ch l Z a0 hw x t kb i n hi f hn h0 S0 (P0.extZ EZ all0) zc fm US) P0 (wd hw (k := 22) rfl) (wd hw (k := 6) rfl) (by decide) (by decide)) (argsL := [(.int (Int32.ofNat i))]) (st0 := []) (lenOf pd_I_R_C rfl) rfl rfl (Nat.le_of_eq rfl) (by rw [hml]; rfl) (by decide) (by decide) (W.Pure.ok P0.chv) d2_11 rfl ?_
    intro v109 T109 h109 L109 q109 P109
    obtain ⟨rfl, rfl, rfl⟩ := q109
    show W.Go p.tables e below _ (T109.setTop (mkF m 14 #[.val (.ref x), .val (.int (Int32.ofNat i)), .val (.int q), .val (.int c1)] [(.int (f i))]))
    exact P109.retVN hlk hret (Or.inr (Or.inr (Or.inl rfl))) d2_14 (by decide) (by decide) ⟨rfl, rfl, f i, by rw [own_narc (S0.2.2.2.2 i hi).ch], S0.2.2.2.2 i hi⟩
  · refine W.g_iloadN (pc1 := 6) P0.q d2_5 rfl rfl ?_
    refine W.g_goto (pc1 := 14) P0.q d2_6 (by decide) rfl ?_
    exact P0.retVN hlk hret (Or.inr (Or.inr (Or.inl rfl))) d2_14 (by decide) (by decide) ⟨rfl, rfl, c1, by rw [own_narc hc1.ch], hc1⟩
def QE (Z : State) (x : Addr) (h0 : Heap) (v : Option Value) (h : Heap) (L : List Loc) : Prop := v = none ∧ W.Frw [x] h0.size L ∧ Keep h0 h [x] ∧ W.Str Z h x []
abbrev rmE4 : Room := ({ frames := 1, cells := 4, slots := 8, locals := 14 } : Room)
set_option maxRecDepth 65536 in
set_option maxHeartbeats 40000000 in
theorem nw4 (l : Launch) (Z : State) (a0 : Array Value) (hw : ∀ d ∈ tables_1, d.before a0 Z = true) (wS : ∀ a ∈ Bundle.stringAtoms, a.before a0 Z = true) (hEL : EW Z a0 ownEL) (x b : Addr) (o : Int32) (h0 : Heap) (E0 : Exa Z h0 x "java/lang/String") (v0 c0 : Value) (F0 : Fld Z h0 x "java/lang/String" "value" "[B" v0) (C0 : Fld Z h0 x "java/lang/String" "coder" "B" c0) : W.MetW l Z ownEL (⟨"java/lang/String", "<init>", "([CIILjava/lang/Void;)V"⟩ : MethodName) jdk_42_method_149_code 6 none [] rmE4 #[.ref x, .ref b, .int o, .int 0, .null] [x] h0 (QE Z x h0) := by
  refine W.MetW.mk (ls0 := #[.val (.ref x), .val (.ref b), .val (.int o), .val (.int (0 : Int32)), .val .null, .unset]) [x] (plainFor_of_name pn_java_lang_String) (fun m => by first | (simp [entryFrame, mkF, argsToLocals, Value.category]; done) | rfl) ?_
  intro p e s m below meth c s₁ hml hret hnm hlk hss P0
  show W.Go p.tables e below _ (s₁.setTop (mkF m 0 #[.val (.ref x), .val (.ref b), .val (.int o), .val (.int (0 : Int32)), .val .null, .unset] []))
  refine W.g_aloadN (pc1 := 1) P0.q d9_0 rfl rfl rfl ?_
  refine P0.initO (pc1 := 4) (W := 0) (wd hw (k := 50) rfl) (wd hw (k := 51) rfl) (wd hw (k := 52) rfl) (by rw [hml]; rfl) (by decide) (Nat.le_of_eq rfl) (by decide) d9_1 rfl ?_
  intro T110 P110
  refine W.g_iloadN (pc1 := 5) P110.q d9_4 rfl rfl ?_
  refine W.g_ifN (pc2 := 8) P110.q d9_5 rfl (by decide) ?_
  refine W.g_aloadN (pc1 := 9) P110.q d9_8 rfl rfl rfl ?_
  refine P110.ldcR (pc1 := 11) (n := 0) (vs := []) (z := 0) (wd hw (k := 115) rfl) wS hEL (by decide) ⟨by decide, rfl⟩ (by decide) (by decide) (by decide) (by decide) (by decide) (by decide) d9_9 rfl ?_
  intro a111 T111 h111 t111 k111 P111 E111 R111 A111 C111 F111 V111 N111 L111
  have S111 := R111.safe E0.lt (hss x (List.mem_singleton.mpr rfl))
  refine P111.getF (host := "") (pc1 := 14) (Or.inl (wd hw (k := 30) rfl)) Via.refl F111 d9_11 rfl ?_
  intro T112 P112
  refine P112.putF (host := "") (pc1 := 17) (Or.inl (wd hw (k := 30) rfl)) Via.refl (F0.ext E111) (E0.ext E111) (Or.inr ⟨(wd hw (k := 9) rfl), rfl, hnm⟩) (wd hw (k := 7) rfl) (ty := (.array .byte)) (by decide) rfl rfl (Or.inl (List.mem_singleton.mpr rfl)) S111 d9_14 rfl ?_
  intro T113 h113 P113 W113
  have Sw113 : Safe Z ownEL T111.vm h113 x := Safe.wr W113 S111 P111.chv S111
  have Ca113 := (C0.ext E111).other W113 (Or.inr (slot_ne (t := .byte) (t' := .array .byte) (Or.inr (wd hw (k := 10) rfl)) (Or.inr (wd hw (k := 9) rfl)) (by decide) (by decide) (by decide)))
  have Fa113 := (F0.ext E111).same W113
  have Ea113 := (E0.ext E111).wr W113
  have Va113 := V111.other W113 (Ne.symm (N111 x S111).2)
  refine W.g_aloadN (pc1 := 18) P113.q d9_17 rfl rfl rfl ?_
  refine P113.ldcR (pc1 := 20) (n := 0) (vs := []) (z := 0) (wd hw (k := 115) rfl) wS hEL (by decide) ⟨by decide, rfl⟩ (by decide) (by decide) (by decide) (by decide) (by decide) (by decide) d9_18 rfl ?_
  intro a114 T114 h114 t114 k114 P114 E114 R114 A114 C114 F114 V114 N114 L114
  have S114 := R114.safe Ea113.lt Sw113
  refine P114.getF (host := "") (pc1 := 23) (Or.inl (wd hw (k := 29) rfl)) Via.refl C114 d9_20 rfl ?_
  intro T115 P115
  refine P115.putF (host := "") (pc1 := 26) (Or.inl (wd hw (k := 29) rfl)) Via.refl (Ca113.ext E114) (Ea113.ext E114) (Or.inr ⟨(wd hw (k := 10) rfl), rfl, hnm⟩) (wd hw (k := 7) rfl) (ty := .byte) (by decide) rfl rfl (Or.inl (List.mem_singleton.mpr rfl)) S114 d9_23 rfl ?_
  intro T116 h116 P116 W116
  have Fz := (Fa113.ext E114).other W116 (Or.inr (slot_ne (t := .array .byte) (t' := .byte) (Or.inr (wd hw (k := 9) rfl)) (Or.inr (wd hw (k := 10) rfl)) (by decide) (by decide) (by decide)))
  have Cz := (Ca113.ext E114).same W116
  have Ez := (Ea113.ext E114).wr W116
  have hne : t111 ≠ x := Ne.symm (N111 x S111).2
  have Vz := (Va113.ext E114).other W116 hne
  exact P116.retW hEL hlk hret d9_26 (by decide) (by decide) ⟨rfl, P116.fr, P116.keep, ⟨t111, k111, 0, 0, [], Ez, Fz, Cz, Vz, Or.inl ⟨rfl, rfl, rfl, (fun _ q => nomatch q)⟩, (fun _ q => nomatch q), Nat.zero_le _⟩⟩
abbrev rmE1 : Room := ({ frames := 2, cells := 4, slots := 8, locals := 36 } : Room)
set_option maxRecDepth 65536 in
set_option maxHeartbeats 40000000 in
theorem nw1 (l : Launch) (Z : State) (a0 : Array Value) (hw : ∀ d ∈ tables_1, d.before a0 Z = true) (wS : ∀ a ∈ Bundle.stringAtoms, a.before a0 Z = true) (hEL : EW Z a0 ownEL) (x b : Addr) (kb : ClassId) (vs : List Value) (dv : Value) (h0 : Heap) (E0 : Exa Z h0 x "java/lang/String") (v0 c0 : Value) (F0 : Fld Z h0 x "java/lang/String" "value" "[B" v0) (C0 : Fld Z h0 x "java/lang/String" "coder" "B" c0) (V0 : Arv Z h0 b kb .char 0 vs dv) : W.MetW l Z ownEL (⟨"java/lang/String", "<init>", "([C)V"⟩ : MethodName) jdk_42_method_3_code 2 none [] rmE1 #[.ref x, .ref b] [x] h0 (QE Z x h0) := by
  refine W.MetW.mk (ls0 := #[.val (.ref x), .val (.ref b)]) [x] (plainFor_of_name pn_java_lang_String) (fun m => by first | (simp [entryFrame, mkF, argsToLocals, Value.category]; done) | rfl) ?_
  intro p e s m below meth c s₁ hml hret hnm hlk hss P0
  show W.Go p.tables e below _ (s₁.setTop (mkF m 0 #[.val (.ref x), .val (.ref b)] []))
  refine W.g_aloadN (pc1 := 1) P0.q d8_0 rfl rfl rfl ?_
  refine W.g_aloadN (pc1 := 2) P0.q d8_1 rfl rfl rfl ?_
  refine W.g_iconst (pc1 := 3) (v := (0 : Int32)) P0.q d8_2 (by decide) rfl ?_
  refine W.g_aloadN (pc1 := 4) P0.q d8_3 rfl rfl rfl ?_
  refine P0.len (pc1 := 5) V0 d8_4 rfl ?_
  refine W.g_null (pc1 := 6) P0.q d8_5 rfl ?_
  refine P0.callNW (pc1 := 9) rfl (wd hw (k := 46) rfl) (wd hw (k := 47) rfl) (wd hw (k := 49) rfl) (by decide) (W.MetW.pay (W := 0) (nw4 l Z a0 hw wS hEL x b 0 h0 E0 v0 c0 F0 C0) P0 hEL (allS ⟨E0.lt, hss x (List.mem_singleton.mpr rfl)⟩ all0) (wd hw (k := 49) rfl) (wd hw (k := 6) rfl) (by decide) (by decide)) (argsL := [(.ref b), (.int (0 : Int32)), (.int (0 : Int32)), .null]) (st0 := []) (lenOf pd_ACIILjava_lang_Void_R_V rfl) rfl rfl (Nat.le_of_eq rfl) (by rw [hml]; rfl) (by decide) (by decide) (fun _ _ _ q => q.2.1) d8_6 rfl ?_
  intro v117 T117 h117 L117 q117 P117 R117
  obtain ⟨rfl, f117, K117, S117⟩ := q117
  show W.Go p.tables e below _ (T117.setTop (mkF m 9 #[.val (.ref x), .val (.ref b)] []))
  exact P117.retW hEL hlk hret d8_9 (by decide) (by decide) ⟨rfl, P117.fr, P117.keep, S117⟩
def QM (Z : State) (h0 : Heap) (v : Option Value) (h : Heap) (L : List Loc) : Prop := ∃ a cs, v = some (.ref a) ∧ W.Frw [] h0.size L ∧ Ext h0 h ∧ W.Str Z h a cs
abbrev rmMk : Room := ({ frames := 7, cells := 8, slots := 60, locals := 110 } : Room)
set_option maxRecDepth 65536 in
set_option maxHeartbeats 40000000 in
theorem c_mk0 (l : Launch) (Z : State) (a0 : Array Value) (hw : ∀ d ∈ tables_1, d.before a0 Z = true) (wS : ∀ a ∈ Bundle.stringAtoms, a.before a0 Z = true) (hEL : EW Z a0 ownEL) (c0 : Int32) (b0 : By c0) (c1 : Int32) (b1 : By c1) (c2 : Int32) (b2 : By c2) (c3 : Int32) (b3 : By c3) (c4 : Int32) (b4 : By c4) (h0 : Heap) (EZ : Ext Z.heap h0) (zc : Int32) (fm : Value) (US : UST Z zc fm) : W.MetW l Z ownEL (⟨"com/example/numerary/numerary/ScoringOfCodePinLaw", "mk", "(ICCCCC)Ljava/lang/String;"⟩ : MethodName) method_6_code 6 ((Option.some (Jvm.ClassFile.FieldType.object "java/lang/String"))) [] rmMk #[.int 0, .int c0, .int c1, .int c2, .int c3, .int c4] [] h0 (QM Z h0) := by
  refine W.MetW.mk (ls0 := #[.val (.int (0 : Int32)), .val (.int c0), .val (.int c1), .val (.int c2), .val (.int c3), .val (.int c4)]) [] (plainFor_of_name pn_com_example_numerary_numerary_ScoringOfCodePinLaw) (fun m => by first | (simp [entryFrame, mkF, argsToLocals, Value.category]; done) | rfl) ?_
  intro p e s m below meth c s₁ hml hret hnm hlk hss P0
  show W.Go p.tables e below _ (s₁.setTop (mkF m 0 #[.val (.int (0 : Int32)), .val (.int c0), .val (.int c1), .val (.int c2), .val (.int c3), .val (.int c4)] []))
  have hws : ∀ d ∈ StrChars.Road.words, d.before a0 Z = true := fun d hd => hw d (own_words d hd)
  refine W.g_iloadN (pc1 := 1) P0.q d20_0 rfl rfl ?_
  refine W.g_ifN (pc2 := 4) P0.q d20_1 rfl (by decide) ?_
  refine P0.newO (pc1 := 7) (wd hw (k := 13) rfl) (wd hw (k := 7) rfl) (wd hw (k := 6) rfl) (by decide) (by decide) d20_4 rfl ?_
  intro T118 h118 x118 g118 P118 E118 A118 D118 U118
  refine W.g_dup (pc1 := 8) P118.q d20_7 rfl rfl ?_
  refine W.g_iconst (pc1 := 9) (v := (0 : Int32)) P118.q d20_8 (by decide) rfl ?_
  have Fv118 : Fld Z h118 x118 "java/lang/String" "value" "[B" .null := D118 (Or.inr (wd hw (k := 9) rfl)) (ty := .array .byte) (by decide)
  have Fc118 : Fld Z h118 x118 "java/lang/String" "coder" "B" (.int 0) := D118 (Or.inr (wd hw (k := 10) rfl)) (ty := .byte) (by decide)
  have Sx118 := Safe.ext (EL := ownEL) E118 P0.chv (Safe.new (Nat.le_of_eq g118.symm))
  refine P118.newP (pc1 := 11) (cap := 0) (wd hw (k := 14) rfl) (by decide) (by decide) (by decide) (by decide) (by decide) d20_9 rfl ?_
  intro T119 h119 x119 k119 g119 P119 E119 V119
  have hne119 : x118 ≠ x119 := Nat.ne_of_lt (by rw [g119]; exact A118.lt)
  have Ex119 := A118.ext E119
  have Fv119 := Fv118.ext E119
  have Fc119 := Fc118.ext E119
  have Sx119 := Safe.ext E119 P118.chv Sx118
  refine P119.callNW (pc1 := 14) rfl (wd hw (k := 43) rfl) (wd hw (k := 44) rfl) (wd hw (k := 45) rfl) (by decide) (W.MetW.pay (W := 1) (nw1 l Z a0 hw wS hEL x118 x119 k119 _ _ h119 Ex119 _ _ Fv119 Fc119 V119) P119 hEL (allS ⟨Ex119.lt, Sx119⟩ all0) (wd hw (k := 45) rfl) (wd hw (k := 6) rfl) (by decide) (by decide)) (argsL := [(.ref x119)]) (st0 := [(.ref x118)]) (lenOf pd_AC_R_V rfl) rfl rfl (Nat.le_of_eq rfl) (by rw [hml]; rfl) (by decide) (by decide) (fun _ _ _ q => q.2.1.up P119.sz (allS (Or.inr (by rw [g118]; exact P0.sz)) all0)) d20_11 rfl ?_
  intro v120 T120 h120 L120 q120 P120 R120
  obtain ⟨rfl, f120, K120, S120⟩ := q120
  show W.Go p.tables e below _ (T120.setTop (mkF m 14 #[.val (.int (0 : Int32)), .val (.int c0), .val (.int c1), .val (.int c2), .val (.int c3), .val (.int c4)] [(.ref x118)]))
  exact P120.retAW hEL hlk hret rfl rfl rfl d20_14 (by decide) (by decide) ⟨x118, [], rfl, P120.fr, P120.ext0, S120⟩
set_option maxRecDepth 65536 in
set_option maxHeartbeats 40000000 in
theorem c_mk1 (l : Launch) (Z : State) (a0 : Array Value) (hw : ∀ d ∈ tables_1, d.before a0 Z = true) (wS : ∀ a ∈ Bundle.stringAtoms, a.before a0 Z = true) (hEL : EW Z a0 ownEL) (c0 : Int32) (b0 : By c0) (c1 : Int32) (b1 : By c1) (c2 : Int32) (b2 : By c2) (c3 : Int32) (b3 : By c3) (c4 : Int32) (b4 : By c4) (h0 : Heap) (EZ : Ext Z.heap h0) (zc : Int32) (fm : Value) (US : UST Z zc fm) : W.MetW l Z ownEL (⟨"com/example/numerary/numerary/ScoringOfCodePinLaw", "mk", "(ICCCCC)Ljava/lang/String;"⟩ : MethodName) method_6_code 6 ((Option.some (Jvm.ClassFile.FieldType.object "java/lang/String"))) [] rmMk #[.int 1, .int c0, .int c1, .int c2, .int c3, .int c4] [] h0 (QM Z h0) := by
  refine W.MetW.mk (ls0 := #[.val (.int (1 : Int32)), .val (.int c0), .val (.int c1), .val (.int c2), .val (.int c3), .val (.int c4)]) [] (plainFor_of_name pn_com_example_numerary_numerary_ScoringOfCodePinLaw) (fun m => by first | (simp [entryFrame, mkF, argsToLocals, Value.category]; done) | rfl) ?_
  intro p e s m below meth c s₁ hml hret hnm hlk hss P0
  show W.Go p.tables e below _ (s₁.setTop (mkF m 0 #[.val (.int (1 : Int32)), .val (.int c0), .val (.int c1), .val (.int c2), .val (.int c3), .val (.int c4)] []))
  have hws : ∀ d ∈ StrChars.Road.words, d.before a0 Z = true := fun d hd => hw d (own_words d hd)
  refine W.g_iloadN (pc1 := 1) P0.q d20_0 rfl rfl ?_
  refine W.g_ifY (pc1 := 15) P0.q d20_1 (by decide) rfl (by decide) ?_
  refine W.g_iloadN (pc1 := 16) P0.q d20_15 rfl rfl ?_
  refine W.g_iconst (pc1 := 17) (v := (1 : Int32)) P0.q d20_16 (by decide) rfl ?_
  refine W.g_cmpN (pc2 := 20) P0.q d20_17 rfl (by decide) ?_
  refine P0.newO (pc1 := 23) (wd hw (k := 13) rfl) (wd hw (k := 7) rfl) (wd hw (k := 6) rfl) (by decide) (by decide) d20_20 rfl ?_
  intro T121 h121 x121 g121 P121 E121 A121 D121 U121
  refine W.g_dup (pc1 := 24) P121.q d20_23 rfl rfl ?_
  refine W.g_iconst (pc1 := 25) (v := (1 : Int32)) P121.q d20_24 (by decide) rfl ?_
  have Fv121 : Fld Z h121 x121 "java/lang/String" "value" "[B" .null := D121 (Or.inr (wd hw (k := 9) rfl)) (ty := .array .byte) (by decide)
  have Fc121 : Fld Z h121 x121 "java/lang/String" "coder" "B" (.int 0) := D121 (Or.inr (wd hw (k := 10) rfl)) (ty := .byte) (by decide)
  have Sx121 := Safe.ext (EL := ownEL) E121 P0.chv (Safe.new (Nat.le_of_eq g121.symm))
  refine P121.newP (pc1 := 27) (cap := 1) (wd hw (k := 14) rfl) (by decide) (by decide) (by decide) (by decide) (by decide) d20_25 rfl ?_
  intro T122 h122 x122 k122 g122 P122 E122 V122
  have hne122 : x121 ≠ x122 := Nat.ne_of_lt (by rw [g122]; exact A121.lt)
  have Ex122 := A121.ext E122
  have Fv122 := Fv121.ext E122
  have Fc122 := Fc121.ext E122
  have Sx122 := Safe.ext E122 P121.chv Sx121
  have G122 : W.Arg Z h122 x122 k122 .char 1 (fun _ => 0) := W.Arg.new (by decide) V122
  refine W.g_dup (pc1 := 28) P122.q d20_27 rfl rfl ?_
  refine W.g_iconst (pc1 := 29) (v := (0 : Int32)) P122.q d20_28 (by decide) rfl ?_
  refine W.g_iloadN (pc1 := 30) P122.q d20_29 rfl rfl ?_
  refine P122.stCg (pc1 := 31) (x := c0) G122 (i := 0) (by decide) (Or.inr (by rw [g122]; exact P121.sz)) (W.Arg.safe P122.al G122 (by decide)) d20_30 rfl ?_
  intro T123 h123 P123 W123 G123
  have Ex123 := Ex122.wr W123
  have Fv123 := Fv122.other W123 (Or.inl hne122)
  have Fc123 := Fc122.other W123 (Or.inl hne122)
  have Sx123 := Safe.wr W123 (W.Arg.safe P122.al G122 (by decide)) P122.chv Sx122
  have VL123 : Arv Z h123 x122 k122 .char 1 (([c0] : List Int32).map Value.int) (.int 0) := W.Arg.list G123 rfl (fun i hi => match i, hi with | 0, _ => own_narc (b0).ch | k + 1, hk => absurd hk (Nat.not_lt.mpr (Nat.le_add_left _ _)))
  have hp123 : ∀ c ∈ ([c0] : List Int32), ¬ c < 0 ∧ ¬ (255 : Int32) < c := (List.forall_mem_cons.mpr ⟨b0, (fun c hc => absurd hc (List.not_mem_nil))⟩)
  refine P123.callN (pc1 := 34) rfl (wd hw (k := 43) rfl) (wd hw (k := 44) rfl) (wd hw (k := 45) rfl) (by decide) (StrChars.Road.backV (W := 1) P123.hz hws (kI := 4) (wd hw (k := 7) rfl) (cs := [c0]) (bs := ([c0]).map (fun c => c.toInt8.toInt32)) (n := 1) (n0 := h0.size) (by rw [g121]; exact P0.sz) P123.sz Ex123 Fv123 Fc123 VL123 (US.2.1.ext (P123.extZ EZ all0)) US.1 rfl rfl (by decide) (by decide) hp123 rfl (by decide) (by decide)) (argsL := [(.ref x122)]) (st0 := [(.ref x121)]) (lenOf pd_AC_R_V rfl) rfl rfl (Nat.le_of_eq rfl) (by rw [hml]; rfl) (by decide) (by decide) (fun _ _ _ q => ⟨W.Frw.of_fr q.2.1 (Nat.le_refl _), CHr.keep q.2.2.1 (sfS Sx123 sf0) P123.chv⟩) d20_31 rfl ?_
  intro v124 T124 h124 L124 q124 P124
  obtain ⟨rfl, f124, K124, A124, C124, t124, k124, b124, c124, d124, F124, V124⟩ := q124
  show W.Go p.tables e below _ (T124.setTop (mkF m 34 #[.val (.int (1 : Int32)), .val (.int c0), .val (.int c1), .val (.int c2), .val (.int c3), .val (.int c4)] [(.ref x121)]))
  have S124 : W.Str Z h124 x121 [c0] := ⟨t124, k124, _, _, _, A124, F124, C124, V124, StrChars.Road.codOf (cs := [c0]) (n := 1) rfl (fun c hc => (hp123 c hc).2), fun c hc => ⟨(hp123 c hc).1, own_up (hp123 c hc).2⟩, Nat.le_of_ble_eq_true rfl⟩
  exact P124.retAW hEL hlk hret rfl rfl rfl d20_34 (by decide) (by decide) ⟨x121, [c0], rfl, P124.fr, P124.ext0, S124⟩
set_option maxRecDepth 65536 in
set_option maxHeartbeats 40000000 in
theorem c_mk2 (l : Launch) (Z : State) (a0 : Array Value) (hw : ∀ d ∈ tables_1, d.before a0 Z = true) (wS : ∀ a ∈ Bundle.stringAtoms, a.before a0 Z = true) (hEL : EW Z a0 ownEL) (c0 : Int32) (b0 : By c0) (c1 : Int32) (b1 : By c1) (c2 : Int32) (b2 : By c2) (c3 : Int32) (b3 : By c3) (c4 : Int32) (b4 : By c4) (h0 : Heap) (EZ : Ext Z.heap h0) (zc : Int32) (fm : Value) (US : UST Z zc fm) : W.MetW l Z ownEL (⟨"com/example/numerary/numerary/ScoringOfCodePinLaw", "mk", "(ICCCCC)Ljava/lang/String;"⟩ : MethodName) method_6_code 6 ((Option.some (Jvm.ClassFile.FieldType.object "java/lang/String"))) [] rmMk #[.int 2, .int c0, .int c1, .int c2, .int c3, .int c4] [] h0 (QM Z h0) := by
  refine W.MetW.mk (ls0 := #[.val (.int (2 : Int32)), .val (.int c0), .val (.int c1), .val (.int c2), .val (.int c3), .val (.int c4)]) [] (plainFor_of_name pn_com_example_numerary_numerary_ScoringOfCodePinLaw) (fun m => by first | (simp [entryFrame, mkF, argsToLocals, Value.category]; done) | rfl) ?_
  intro p e s m below meth c s₁ hml hret hnm hlk hss P0
  show W.Go p.tables e below _ (s₁.setTop (mkF m 0 #[.val (.int (2 : Int32)), .val (.int c0), .val (.int c1), .val (.int c2), .val (.int c3), .val (.int c4)] []))
  have hws : ∀ d ∈ StrChars.Road.words, d.before a0 Z = true := fun d hd => hw d (own_words d hd)
  refine W.g_iloadN (pc1 := 1) P0.q d20_0 rfl rfl ?_
  refine W.g_ifY (pc1 := 15) P0.q d20_1 (by decide) rfl (by decide) ?_
  refine W.g_iloadN (pc1 := 16) P0.q d20_15 rfl rfl ?_
  refine W.g_iconst (pc1 := 17) (v := (1 : Int32)) P0.q d20_16 (by decide) rfl ?_
  refine W.g_cmpY (pc1 := 35) P0.q d20_17 (by decide) rfl (by decide) ?_
  refine W.g_iloadN (pc1 := 36) P0.q d20_35 rfl rfl ?_
  refine W.g_iconst (pc1 := 37) (v := (2 : Int32)) P0.q d20_36 (by decide) rfl ?_
  refine W.g_cmpN (pc2 := 40) P0.q d20_37 rfl (by decide) ?_
  refine P0.newO (pc1 := 43) (wd hw (k := 13) rfl) (wd hw (k := 7) rfl) (wd hw (k := 6) rfl) (by decide) (by decide) d20_40 rfl ?_
  intro T125 h125 x125 g125 P125 E125 A125 D125 U125
  refine W.g_dup (pc1 := 44) P125.q d20_43 rfl rfl ?_
  refine W.g_iconst (pc1 := 45) (v := (2 : Int32)) P125.q d20_44 (by decide) rfl ?_
  have Fv125 : Fld Z h125 x125 "java/lang/String" "value" "[B" .null := D125 (Or.inr (wd hw (k := 9) rfl)) (ty := .array .byte) (by decide)
  have Fc125 : Fld Z h125 x125 "java/lang/String" "coder" "B" (.int 0) := D125 (Or.inr (wd hw (k := 10) rfl)) (ty := .byte) (by decide)
  have Sx125 := Safe.ext (EL := ownEL) E125 P0.chv (Safe.new (Nat.le_of_eq g125.symm))
  refine P125.newP (pc1 := 47) (cap := 2) (wd hw (k := 14) rfl) (by decide) (by decide) (by decide) (by decide) (by decide) d20_45 rfl ?_
  intro T126 h126 x126 k126 g126 P126 E126 V126
  have hne126 : x125 ≠ x126 := Nat.ne_of_lt (by rw [g126]; exact A125.lt)
  have Ex126 := A125.ext E126
  have Fv126 := Fv125.ext E126
  have Fc126 := Fc125.ext E126
  have Sx126 := Safe.ext E126 P125.chv Sx125
  have G126 : W.Arg Z h126 x126 k126 .char 2 (fun _ => 0) := W.Arg.new (by decide) V126
  refine W.g_dup (pc1 := 48) P126.q d20_47 rfl rfl ?_
  refine W.g_iconst (pc1 := 49) (v := (0 : Int32)) P126.q d20_48 (by decide) rfl ?_
  refine W.g_iloadN (pc1 := 50) P126.q d20_49 rfl rfl ?_
  refine P126.stCg (pc1 := 51) (x := c0) G126 (i := 0) (by decide) (Or.inr (by rw [g126]; exact P125.sz)) (W.Arg.safe P126.al G126 (by decide)) d20_50 rfl ?_
  intro T127 h127 P127 W127 G127
  have Ex127 := Ex126.wr W127
  have Fv127 := Fv126.other W127 (Or.inl hne126)
  have Fc127 := Fc126.other W127 (Or.inl hne126)
  have Sx127 := Safe.wr W127 (W.Arg.safe P126.al G126 (by decide)) P126.chv Sx126
  refine W.g_dup (pc1 := 52) P127.q d20_51 rfl rfl ?_
  refine W.g_iconst (pc1 := 53) (v := (1 : Int32)) P127.q d20_52 (by decide) rfl ?_
  refine W.g_iloadN (pc1 := 54) P127.q d20_53 rfl rfl ?_
  refine P127.stCg (pc1 := 55) (x := c1) G127 (i := 1) (by decide) (Or.inr (by rw [g126]; exact P125.sz)) (W.Arg.safe P127.al G127 (by decide)) d20_54 rfl ?_
  intro T128 h128 P128 W128 G128
  have Ex128 := Ex127.wr W128
  have Fv128 := Fv127.other W128 (Or.inl hne126)
  have Fc128 := Fc127.other W128 (Or.inl hne126)
  have Sx128 := Safe.wr W128 (W.Arg.safe P127.al G127 (by decide)) P127.chv Sx127
  have VL128 : Arv Z h128 x126 k126 .char 2 (([c0, c1] : List Int32).map Value.int) (.int 0) := W.Arg.list G128 rfl (fun i hi => match i, hi with | 0, _ => own_narc (b0).ch | 1, _ => own_narc (b1).ch | k + 2, hk => absurd hk (Nat.not_lt.mpr (Nat.le_add_left _ _)))
  have hp128 : ∀ c ∈ ([c0, c1] : List Int32), ¬ c < 0 ∧ ¬ (255 : Int32) < c := (List.forall_mem_cons.mpr ⟨b0, (List.forall_mem_cons.mpr ⟨b1, (fun c hc => absurd hc (List.not_mem_nil))⟩)⟩)
  refine P128.callN (pc1 := 58) rfl (wd hw (k := 43) rfl) (wd hw (k := 44) rfl) (wd hw (k := 45) rfl) (by decide) (StrChars.Road.backV (W := 1) P128.hz hws (kI := 4) (wd hw (k := 7) rfl) (cs := [c0, c1]) (bs := ([c0, c1]).map (fun c => c.toInt8.toInt32)) (n := 2) (n0 := h0.size) (by rw [g125]; exact P0.sz) P128.sz Ex128 Fv128 Fc128 VL128 (US.2.1.ext (P128.extZ EZ all0)) US.1 rfl rfl (by decide) (by decide) hp128 rfl (by decide) (by decide)) (argsL := [(.ref x126)]) (st0 := [(.ref x125)]) (lenOf pd_AC_R_V rfl) rfl rfl (Nat.le_of_eq rfl) (by rw [hml]; rfl) (by decide) (by decide) (fun _ _ _ q => ⟨W.Frw.of_fr q.2.1 (Nat.le_refl _), CHr.keep q.2.2.1 (sfS Sx128 sf0) P128.chv⟩) d20_55 rfl ?_
  intro v129 T129 h129 L129 q129 P129
  obtain ⟨rfl, f129, K129, A129, C129, t129, k129, b129, c129, d129, F129, V129⟩ := q129
  show W.Go p.tables e below _ (T129.setTop (mkF m 58 #[.val (.int (2 : Int32)), .val (.int c0), .val (.int c1), .val (.int c2), .val (.int c3), .val (.int c4)] [(.ref x125)]))
  have S129 : W.Str Z h129 x125 [c0, c1] := ⟨t129, k129, _, _, _, A129, F129, C129, V129, StrChars.Road.codOf (cs := [c0, c1]) (n := 2) rfl (fun c hc => (hp128 c hc).2), fun c hc => ⟨(hp128 c hc).1, own_up (hp128 c hc).2⟩, Nat.le_of_ble_eq_true rfl⟩
  exact P129.retAW hEL hlk hret rfl rfl rfl d20_58 (by decide) (by decide) ⟨x125, [c0, c1], rfl, P129.fr, P129.ext0, S129⟩
set_option maxRecDepth 65536 in
set_option maxHeartbeats 40000000 in
theorem c_mk3 (l : Launch) (Z : State) (a0 : Array Value) (hw : ∀ d ∈ tables_1, d.before a0 Z = true) (wS : ∀ a ∈ Bundle.stringAtoms, a.before a0 Z = true) (hEL : EW Z a0 ownEL) (c0 : Int32) (b0 : By c0) (c1 : Int32) (b1 : By c1) (c2 : Int32) (b2 : By c2) (c3 : Int32) (b3 : By c3) (c4 : Int32) (b4 : By c4) (h0 : Heap) (EZ : Ext Z.heap h0) (zc : Int32) (fm : Value) (US : UST Z zc fm) : W.MetW l Z ownEL (⟨"com/example/numerary/numerary/ScoringOfCodePinLaw", "mk", "(ICCCCC)Ljava/lang/String;"⟩ : MethodName) method_6_code 6 ((Option.some (Jvm.ClassFile.FieldType.object "java/lang/String"))) [] rmMk #[.int 3, .int c0, .int c1, .int c2, .int c3, .int c4] [] h0 (QM Z h0) := by
  refine W.MetW.mk (ls0 := #[.val (.int (3 : Int32)), .val (.int c0), .val (.int c1), .val (.int c2), .val (.int c3), .val (.int c4)]) [] (plainFor_of_name pn_com_example_numerary_numerary_ScoringOfCodePinLaw) (fun m => by first | (simp [entryFrame, mkF, argsToLocals, Value.category]; done) | rfl) ?_
  intro p e s m below meth c s₁ hml hret hnm hlk hss P0
  show W.Go p.tables e below _ (s₁.setTop (mkF m 0 #[.val (.int (3 : Int32)), .val (.int c0), .val (.int c1), .val (.int c2), .val (.int c3), .val (.int c4)] []))
  have hws : ∀ d ∈ StrChars.Road.words, d.before a0 Z = true := fun d hd => hw d (own_words d hd)
  refine W.g_iloadN (pc1 := 1) P0.q d20_0 rfl rfl ?_
  refine W.g_ifY (pc1 := 15) P0.q d20_1 (by decide) rfl (by decide) ?_
  refine W.g_iloadN (pc1 := 16) P0.q d20_15 rfl rfl ?_
  refine W.g_iconst (pc1 := 17) (v := (1 : Int32)) P0.q d20_16 (by decide) rfl ?_
  refine W.g_cmpY (pc1 := 35) P0.q d20_17 (by decide) rfl (by decide) ?_
  refine W.g_iloadN (pc1 := 36) P0.q d20_35 rfl rfl ?_
  refine W.g_iconst (pc1 := 37) (v := (2 : Int32)) P0.q d20_36 (by decide) rfl ?_
  refine W.g_cmpY (pc1 := 59) P0.q d20_37 (by decide) rfl (by decide) ?_
  refine W.g_iloadN (pc1 := 60) P0.q d20_59 rfl rfl ?_
  refine W.g_iconst (pc1 := 61) (v := (3 : Int32)) P0.q d20_60 (by decide) rfl ?_
  refine W.g_cmpN (pc2 := 64) P0.q d20_61 rfl (by decide) ?_
  refine P0.newO (pc1 := 67) (wd hw (k := 13) rfl) (wd hw (k := 7) rfl) (wd hw (k := 6) rfl) (by decide) (by decide) d20_64 rfl ?_
  intro T130 h130 x130 g130 P130 E130 A130 D130 U130
  refine W.g_dup (pc1 := 68) P130.q d20_67 rfl rfl ?_
  refine W.g_iconst (pc1 := 69) (v := (3 : Int32)) P130.q d20_68 (by decide) rfl ?_
  have Fv130 : Fld Z h130 x130 "java/lang/String" "value" "[B" .null := D130 (Or.inr (wd hw (k := 9) rfl)) (ty := .array .byte) (by decide)
  have Fc130 : Fld Z h130 x130 "java/lang/String" "coder" "B" (.int 0) := D130 (Or.inr (wd hw (k := 10) rfl)) (ty := .byte) (by decide)
  have Sx130 := Safe.ext (EL := ownEL) E130 P0.chv (Safe.new (Nat.le_of_eq g130.symm))
  refine P130.newP (pc1 := 71) (cap := 3) (wd hw (k := 14) rfl) (by decide) (by decide) (by decide) (by decide) (by decide) d20_69 rfl ?_
  intro T131 h131 x131 k131 g131 P131 E131 V131
  have hne131 : x130 ≠ x131 := Nat.ne_of_lt (by rw [g131]; exact A130.lt)
  have Ex131 := A130.ext E131
  have Fv131 := Fv130.ext E131
  have Fc131 := Fc130.ext E131
  have Sx131 := Safe.ext E131 P130.chv Sx130
  have G131 : W.Arg Z h131 x131 k131 .char 3 (fun _ => 0) := W.Arg.new (by decide) V131
  refine W.g_dup (pc1 := 72) P131.q d20_71 rfl rfl ?_
  refine W.g_iconst (pc1 := 73) (v := (0 : Int32)) P131.q d20_72 (by decide) rfl ?_
  refine W.g_iloadN (pc1 := 74) P131.q d20_73 rfl rfl ?_
  refine P131.stCg (pc1 := 75) (x := c0) G131 (i := 0) (by decide) (Or.inr (by rw [g131]; exact P130.sz)) (W.Arg.safe P131.al G131 (by decide)) d20_74 rfl ?_
  intro T132 h132 P132 W132 G132
  have Ex132 := Ex131.wr W132
  have Fv132 := Fv131.other W132 (Or.inl hne131)
  have Fc132 := Fc131.other W132 (Or.inl hne131)
  have Sx132 := Safe.wr W132 (W.Arg.safe P131.al G131 (by decide)) P131.chv Sx131
  refine W.g_dup (pc1 := 76) P132.q d20_75 rfl rfl ?_
  refine W.g_iconst (pc1 := 77) (v := (1 : Int32)) P132.q d20_76 (by decide) rfl ?_
  refine W.g_iloadN (pc1 := 78) P132.q d20_77 rfl rfl ?_
  refine P132.stCg (pc1 := 79) (x := c1) G132 (i := 1) (by decide) (Or.inr (by rw [g131]; exact P130.sz)) (W.Arg.safe P132.al G132 (by decide)) d20_78 rfl ?_
  intro T133 h133 P133 W133 G133
  have Ex133 := Ex132.wr W133
  have Fv133 := Fv132.other W133 (Or.inl hne131)
  have Fc133 := Fc132.other W133 (Or.inl hne131)
  have Sx133 := Safe.wr W133 (W.Arg.safe P132.al G132 (by decide)) P132.chv Sx132
  refine W.g_dup (pc1 := 80) P133.q d20_79 rfl rfl ?_
  refine W.g_iconst (pc1 := 81) (v := (2 : Int32)) P133.q d20_80 (by decide) rfl ?_
  refine W.g_iloadN (pc1 := 82) P133.q d20_81 rfl rfl ?_
  refine P133.stCg (pc1 := 83) (x := c2) G133 (i := 2) (by decide) (Or.inr (by rw [g131]; exact P130.sz)) (W.Arg.safe P133.al G133 (by decide)) d20_82 rfl ?_
  intro T134 h134 P134 W134 G134
  have Ex134 := Ex133.wr W134
  have Fv134 := Fv133.other W134 (Or.inl hne131)
  have Fc134 := Fc133.other W134 (Or.inl hne131)
  have Sx134 := Safe.wr W134 (W.Arg.safe P133.al G133 (by decide)) P133.chv Sx133
  have VL134 : Arv Z h134 x131 k131 .char 3 (([c0, c1, c2] : List Int32).map Value.int) (.int 0) := W.Arg.list G134 rfl (fun i hi => match i, hi with | 0, _ => own_narc (b0).ch | 1, _ => own_narc (b1).ch | 2, _ => own_narc (b2).ch | k + 3, hk => absurd hk (Nat.not_lt.mpr (Nat.le_add_left _ _)))
  have hp134 : ∀ c ∈ ([c0, c1, c2] : List Int32), ¬ c < 0 ∧ ¬ (255 : Int32) < c := (List.forall_mem_cons.mpr ⟨b0, (List.forall_mem_cons.mpr ⟨b1, (List.forall_mem_cons.mpr ⟨b2, (fun c hc => absurd hc (List.not_mem_nil))⟩)⟩)⟩)
  refine P134.callN (pc1 := 86) rfl (wd hw (k := 43) rfl) (wd hw (k := 44) rfl) (wd hw (k := 45) rfl) (by decide) (StrChars.Road.backV (W := 1) P134.hz hws (kI := 4) (wd hw (k := 7) rfl) (cs := [c0, c1, c2]) (bs := ([c0, c1, c2]).map (fun c => c.toInt8.toInt32)) (n := 3) (n0 := h0.size) (by rw [g130]; exact P0.sz) P134.sz Ex134 Fv134 Fc134 VL134 (US.2.1.ext (P134.extZ EZ all0)) US.1 rfl rfl (by decide) (by decide) hp134 rfl (by decide) (by decide)) (argsL := [(.ref x131)]) (st0 := [(.ref x130)]) (lenOf pd_AC_R_V rfl) rfl rfl (Nat.le_of_eq rfl) (by rw [hml]; rfl) (by decide) (by decide) (fun _ _ _ q => ⟨W.Frw.of_fr q.2.1 (Nat.le_refl _), CHr.keep q.2.2.1 (sfS Sx134 sf0) P134.chv⟩) d20_83 rfl ?_
  intro v135 T135 h135 L135 q135 P135
  obtain ⟨rfl, f135, K135, A135, C135, t135, k135, b135, c135, d135, F135, V135⟩ := q135
  show W.Go p.tables e below _ (T135.setTop (mkF m 86 #[.val (.int (3 : Int32)), .val (.int c0), .val (.int c1), .val (.int c2), .val (.int c3), .val (.int c4)] [(.ref x130)]))
  have S135 : W.Str Z h135 x130 [c0, c1, c2] := ⟨t135, k135, _, _, _, A135, F135, C135, V135, StrChars.Road.codOf (cs := [c0, c1, c2]) (n := 3) rfl (fun c hc => (hp134 c hc).2), fun c hc => ⟨(hp134 c hc).1, own_up (hp134 c hc).2⟩, Nat.le_of_ble_eq_true rfl⟩
  exact P135.retAW hEL hlk hret rfl rfl rfl d20_86 (by decide) (by decide) ⟨x130, [c0, c1, c2], rfl, P135.fr, P135.ext0, S135⟩
set_option maxRecDepth 65536 in
set_option maxHeartbeats 40000000 in
theorem c_mk4 (l : Launch) (Z : State) (a0 : Array Value) (hw : ∀ d ∈ tables_1, d.before a0 Z = true) (wS : ∀ a ∈ Bundle.stringAtoms, a.before a0 Z = true) (hEL : EW Z a0 ownEL) (c0 : Int32) (b0 : By c0) (c1 : Int32) (b1 : By c1) (c2 : Int32) (b2 : By c2) (c3 : Int32) (b3 : By c3) (c4 : Int32) (b4 : By c4) (h0 : Heap) (EZ : Ext Z.heap h0) (zc : Int32) (fm : Value) (US : UST Z zc fm) : W.MetW l Z ownEL (⟨"com/example/numerary/numerary/ScoringOfCodePinLaw", "mk", "(ICCCCC)Ljava/lang/String;"⟩ : MethodName) method_6_code 6 ((Option.some (Jvm.ClassFile.FieldType.object "java/lang/String"))) [] rmMk #[.int 4, .int c0, .int c1, .int c2, .int c3, .int c4] [] h0 (QM Z h0) := by
  refine W.MetW.mk (ls0 := #[.val (.int (4 : Int32)), .val (.int c0), .val (.int c1), .val (.int c2), .val (.int c3), .val (.int c4)]) [] (plainFor_of_name pn_com_example_numerary_numerary_ScoringOfCodePinLaw) (fun m => by first | (simp [entryFrame, mkF, argsToLocals, Value.category]; done) | rfl) ?_
  intro p e s m below meth c s₁ hml hret hnm hlk hss P0
  show W.Go p.tables e below _ (s₁.setTop (mkF m 0 #[.val (.int (4 : Int32)), .val (.int c0), .val (.int c1), .val (.int c2), .val (.int c3), .val (.int c4)] []))
  have hws : ∀ d ∈ StrChars.Road.words, d.before a0 Z = true := fun d hd => hw d (own_words d hd)
  refine W.g_iloadN (pc1 := 1) P0.q d20_0 rfl rfl ?_
  refine W.g_ifY (pc1 := 15) P0.q d20_1 (by decide) rfl (by decide) ?_
  refine W.g_iloadN (pc1 := 16) P0.q d20_15 rfl rfl ?_
  refine W.g_iconst (pc1 := 17) (v := (1 : Int32)) P0.q d20_16 (by decide) rfl ?_
  refine W.g_cmpY (pc1 := 35) P0.q d20_17 (by decide) rfl (by decide) ?_
  refine W.g_iloadN (pc1 := 36) P0.q d20_35 rfl rfl ?_
  refine W.g_iconst (pc1 := 37) (v := (2 : Int32)) P0.q d20_36 (by decide) rfl ?_
  refine W.g_cmpY (pc1 := 59) P0.q d20_37 (by decide) rfl (by decide) ?_
  refine W.g_iloadN (pc1 := 60) P0.q d20_59 rfl rfl ?_
  refine W.g_iconst (pc1 := 61) (v := (3 : Int32)) P0.q d20_60 (by decide) rfl ?_
  refine W.g_cmpY (pc1 := 87) P0.q d20_61 (by decide) rfl (by decide) ?_
  refine W.g_iloadN (pc1 := 88) P0.q d20_87 rfl rfl ?_
  refine W.g_iconst (pc1 := 89) (v := (4 : Int32)) P0.q d20_88 (by decide) rfl ?_
  refine W.g_cmpN (pc2 := 92) P0.q d20_89 rfl (by decide) ?_
  refine P0.newO (pc1 := 95) (wd hw (k := 13) rfl) (wd hw (k := 7) rfl) (wd hw (k := 6) rfl) (by decide) (by decide) d20_92 rfl ?_
  intro T136 h136 x136 g136 P136 E136 A136 D136 U136
  refine W.g_dup (pc1 := 96) P136.q d20_95 rfl rfl ?_
  refine W.g_iconst (pc1 := 97) (v := (4 : Int32)) P136.q d20_96 (by decide) rfl ?_
  have Fv136 : Fld Z h136 x136 "java/lang/String" "value" "[B" .null := D136 (Or.inr (wd hw (k := 9) rfl)) (ty := .array .byte) (by decide)
  have Fc136 : Fld Z h136 x136 "java/lang/String" "coder" "B" (.int 0) := D136 (Or.inr (wd hw (k := 10) rfl)) (ty := .byte) (by decide)
  have Sx136 := Safe.ext (EL := ownEL) E136 P0.chv (Safe.new (Nat.le_of_eq g136.symm))
  refine P136.newP (pc1 := 99) (cap := 4) (wd hw (k := 14) rfl) (by decide) (by decide) (by decide) (by decide) (by decide) d20_97 rfl ?_
  intro T137 h137 x137 k137 g137 P137 E137 V137
  have hne137 : x136 ≠ x137 := Nat.ne_of_lt (by rw [g137]; exact A136.lt)
  have Ex137 := A136.ext E137
  have Fv137 := Fv136.ext E137
  have Fc137 := Fc136.ext E137
  have Sx137 := Safe.ext E137 P136.chv Sx136
  have G137 : W.Arg Z h137 x137 k137 .char 4 (fun _ => 0) := W.Arg.new (by decide) V137
  refine W.g_dup (pc1 := 100) P137.q d20_99 rfl rfl ?_
  refine W.g_iconst (pc1 := 101) (v := (0 : Int32)) P137.q d20_100 (by decide) rfl ?_
  refine W.g_iloadN (pc1 := 102) P137.q d20_101 rfl rfl ?_
  refine P137.stCg (pc1 := 103) (x := c0) G137 (i := 0) (by decide) (Or.inr (by rw [g137]; exact P136.sz)) (W.Arg.safe P137.al G137 (by decide)) d20_102 rfl ?_
  intro T138 h138 P138 W138 G138
  have Ex138 := Ex137.wr W138
  have Fv138 := Fv137.other W138 (Or.inl hne137)
  have Fc138 := Fc137.other W138 (Or.inl hne137)
  have Sx138 := Safe.wr W138 (W.Arg.safe P137.al G137 (by decide)) P137.chv Sx137
  refine W.g_dup (pc1 := 104) P138.q d20_103 rfl rfl ?_
  refine W.g_iconst (pc1 := 105) (v := (1 : Int32)) P138.q d20_104 (by decide) rfl ?_
  refine W.g_iloadN (pc1 := 106) P138.q d20_105 rfl rfl ?_
  refine P138.stCg (pc1 := 107) (x := c1) G138 (i := 1) (by decide) (Or.inr (by rw [g137]; exact P136.sz)) (W.Arg.safe P138.al G138 (by decide)) d20_106 rfl ?_
  intro T139 h139 P139 W139 G139
  have Ex139 := Ex138.wr W139
  have Fv139 := Fv138.other W139 (Or.inl hne137)
  have Fc139 := Fc138.other W139 (Or.inl hne137)
  have Sx139 := Safe.wr W139 (W.Arg.safe P138.al G138 (by decide)) P138.chv Sx138
  refine W.g_dup (pc1 := 108) P139.q d20_107 rfl rfl ?_
  refine W.g_iconst (pc1 := 109) (v := (2 : Int32)) P139.q d20_108 (by decide) rfl ?_
  refine W.g_iloadN (pc1 := 110) P139.q d20_109 rfl rfl ?_
  refine P139.stCg (pc1 := 111) (x := c2) G139 (i := 2) (by decide) (Or.inr (by rw [g137]; exact P136.sz)) (W.Arg.safe P139.al G139 (by decide)) d20_110 rfl ?_
  intro T140 h140 P140 W140 G140
  have Ex140 := Ex139.wr W140
  have Fv140 := Fv139.other W140 (Or.inl hne137)
  have Fc140 := Fc139.other W140 (Or.inl hne137)
  have Sx140 := Safe.wr W140 (W.Arg.safe P139.al G139 (by decide)) P139.chv Sx139
  refine W.g_dup (pc1 := 112) P140.q d20_111 rfl rfl ?_
  refine W.g_iconst (pc1 := 113) (v := (3 : Int32)) P140.q d20_112 (by decide) rfl ?_
  refine W.g_iload (pc1 := 115) P140.q d20_113 rfl rfl ?_
  refine P140.stCg (pc1 := 116) (x := c3) G140 (i := 3) (by decide) (Or.inr (by rw [g137]; exact P136.sz)) (W.Arg.safe P140.al G140 (by decide)) d20_115 rfl ?_
  intro T141 h141 P141 W141 G141
  have Ex141 := Ex140.wr W141
  have Fv141 := Fv140.other W141 (Or.inl hne137)
  have Fc141 := Fc140.other W141 (Or.inl hne137)
  have Sx141 := Safe.wr W141 (W.Arg.safe P140.al G140 (by decide)) P140.chv Sx140
  have VL141 : Arv Z h141 x137 k137 .char 4 (([c0, c1, c2, c3] : List Int32).map Value.int) (.int 0) := W.Arg.list G141 rfl (fun i hi => match i, hi with | 0, _ => own_narc (b0).ch | 1, _ => own_narc (b1).ch | 2, _ => own_narc (b2).ch | 3, _ => own_narc (b3).ch | k + 4, hk => absurd hk (Nat.not_lt.mpr (Nat.le_add_left _ _)))
  have hp141 : ∀ c ∈ ([c0, c1, c2, c3] : List Int32), ¬ c < 0 ∧ ¬ (255 : Int32) < c := (List.forall_mem_cons.mpr ⟨b0, (List.forall_mem_cons.mpr ⟨b1, (List.forall_mem_cons.mpr ⟨b2, (List.forall_mem_cons.mpr ⟨b3, (fun c hc => absurd hc (List.not_mem_nil))⟩)⟩)⟩)⟩)
  refine P141.callN (pc1 := 119) rfl (wd hw (k := 43) rfl) (wd hw (k := 44) rfl) (wd hw (k := 45) rfl) (by decide) (StrChars.Road.backV (W := 1) P141.hz hws (kI := 4) (wd hw (k := 7) rfl) (cs := [c0, c1, c2, c3]) (bs := ([c0, c1, c2, c3]).map (fun c => c.toInt8.toInt32)) (n := 4) (n0 := h0.size) (by rw [g136]; exact P0.sz) P141.sz Ex141 Fv141 Fc141 VL141 (US.2.1.ext (P141.extZ EZ all0)) US.1 rfl rfl (by decide) (by decide) hp141 rfl (by decide) (by decide)) (argsL := [(.ref x137)]) (st0 := [(.ref x136)]) (lenOf pd_AC_R_V rfl) rfl rfl (Nat.le_of_eq rfl) (by rw [hml]; rfl) (by decide) (by decide) (fun _ _ _ q => ⟨W.Frw.of_fr q.2.1 (Nat.le_refl _), CHr.keep q.2.2.1 (sfS Sx141 sf0) P141.chv⟩) d20_116 rfl ?_
  intro v142 T142 h142 L142 q142 P142
  obtain ⟨rfl, f142, K142, A142, C142, t142, k142, b142, c142, d142, F142, V142⟩ := q142
  show W.Go p.tables e below _ (T142.setTop (mkF m 119 #[.val (.int (4 : Int32)), .val (.int c0), .val (.int c1), .val (.int c2), .val (.int c3), .val (.int c4)] [(.ref x136)]))
  have S142 : W.Str Z h142 x136 [c0, c1, c2, c3] := ⟨t142, k142, _, _, _, A142, F142, C142, V142, StrChars.Road.codOf (cs := [c0, c1, c2, c3]) (n := 4) rfl (fun c hc => (hp141 c hc).2), fun c hc => ⟨(hp141 c hc).1, own_up (hp141 c hc).2⟩, Nat.le_of_ble_eq_true rfl⟩
  exact P142.retAW hEL hlk hret rfl rfl rfl d20_119 (by decide) (by decide) ⟨x136, [c0, c1, c2, c3], rfl, P142.fr, P142.ext0, S142⟩
set_option maxRecDepth 65536 in
set_option maxHeartbeats 40000000 in
theorem c_mk5 (l : Launch) (Z : State) (a0 : Array Value) (hw : ∀ d ∈ tables_1, d.before a0 Z = true) (wS : ∀ a ∈ Bundle.stringAtoms, a.before a0 Z = true) (hEL : EW Z a0 ownEL) (c0 : Int32) (b0 : By c0) (c1 : Int32) (b1 : By c1) (c2 : Int32) (b2 : By c2) (c3 : Int32) (b3 : By c3) (c4 : Int32) (b4 : By c4) (h0 : Heap) (EZ : Ext Z.heap h0) (zc : Int32) (fm : Value) (US : UST Z zc fm) : W.MetW l Z ownEL (⟨"com/example/numerary/numerary/ScoringOfCodePinLaw", "mk", "(ICCCCC)Ljava/lang/String;"⟩ : MethodName) method_6_code 6 ((Option.some (Jvm.ClassFile.FieldType.object "java/lang/String"))) [] rmMk #[.int 5, .int c0, .int c1, .int c2, .int c3, .int c4] [] h0 (QM Z h0) := by
  refine W.MetW.mk (ls0 := #[.val (.int (5 : Int32)), .val (.int c0), .val (.int c1), .val (.int c2), .val (.int c3), .val (.int c4)]) [] (plainFor_of_name pn_com_example_numerary_numerary_ScoringOfCodePinLaw) (fun m => by first | (simp [entryFrame, mkF, argsToLocals, Value.category]; done) | rfl) ?_
  intro p e s m below meth c s₁ hml hret hnm hlk hss P0
  show W.Go p.tables e below _ (s₁.setTop (mkF m 0 #[.val (.int (5 : Int32)), .val (.int c0), .val (.int c1), .val (.int c2), .val (.int c3), .val (.int c4)] []))
  have hws : ∀ d ∈ StrChars.Road.words, d.before a0 Z = true := fun d hd => hw d (own_words d hd)
  refine W.g_iloadN (pc1 := 1) P0.q d20_0 rfl rfl ?_
  refine W.g_ifY (pc1 := 15) P0.q d20_1 (by decide) rfl (by decide) ?_
  refine W.g_iloadN (pc1 := 16) P0.q d20_15 rfl rfl ?_
  refine W.g_iconst (pc1 := 17) (v := (1 : Int32)) P0.q d20_16 (by decide) rfl ?_
  refine W.g_cmpY (pc1 := 35) P0.q d20_17 (by decide) rfl (by decide) ?_
  refine W.g_iloadN (pc1 := 36) P0.q d20_35 rfl rfl ?_
  refine W.g_iconst (pc1 := 37) (v := (2 : Int32)) P0.q d20_36 (by decide) rfl ?_
  refine W.g_cmpY (pc1 := 59) P0.q d20_37 (by decide) rfl (by decide) ?_
  refine W.g_iloadN (pc1 := 60) P0.q d20_59 rfl rfl ?_
  refine W.g_iconst (pc1 := 61) (v := (3 : Int32)) P0.q d20_60 (by decide) rfl ?_
  refine W.g_cmpY (pc1 := 87) P0.q d20_61 (by decide) rfl (by decide) ?_
  refine W.g_iloadN (pc1 := 88) P0.q d20_87 rfl rfl ?_
  refine W.g_iconst (pc1 := 89) (v := (4 : Int32)) P0.q d20_88 (by decide) rfl ?_
  refine W.g_cmpY (pc1 := 120) P0.q d20_89 (by decide) rfl (by decide) ?_
  refine P0.newO (pc1 := 123) (wd hw (k := 13) rfl) (wd hw (k := 7) rfl) (wd hw (k := 6) rfl) (by decide) (by decide) d20_120 rfl ?_
  intro T143 h143 x143 g143 P143 E143 A143 D143 U143
  refine W.g_dup (pc1 := 124) P143.q d20_123 rfl rfl ?_
  refine W.g_iconst (pc1 := 125) (v := (5 : Int32)) P143.q d20_124 (by decide) rfl ?_
  have Fv143 : Fld Z h143 x143 "java/lang/String" "value" "[B" .null := D143 (Or.inr (wd hw (k := 9) rfl)) (ty := .array .byte) (by decide)
  have Fc143 : Fld Z h143 x143 "java/lang/String" "coder" "B" (.int 0) := D143 (Or.inr (wd hw (k := 10) rfl)) (ty := .byte) (by decide)
  have Sx143 := Safe.ext (EL := ownEL) E143 P0.chv (Safe.new (Nat.le_of_eq g143.symm))
  refine P143.newP (pc1 := 127) (cap := 5) (wd hw (k := 14) rfl) (by decide) (by decide) (by decide) (by decide) (by decide) d20_125 rfl ?_
  intro T144 h144 x144 k144 g144 P144 E144 V144
  have hne144 : x143 ≠ x144 := Nat.ne_of_lt (by rw [g144]; exact A143.lt)
  have Ex144 := A143.ext E144
  have Fv144 := Fv143.ext E144
  have Fc144 := Fc143.ext E144
  have Sx144 := Safe.ext E144 P143.chv Sx143
  have G144 : W.Arg Z h144 x144 k144 .char 5 (fun _ => 0) := W.Arg.new (by decide) V144
  refine W.g_dup (pc1 := 128) P144.q d20_127 rfl rfl ?_
  refine W.g_iconst (pc1 := 129) (v := (0 : Int32)) P144.q d20_128 (by decide) rfl ?_
  refine W.g_iloadN (pc1 := 130) P144.q d20_129 rfl rfl ?_
  refine P144.stCg (pc1 := 131) (x := c0) G144 (i := 0) (by decide) (Or.inr (by rw [g144]; exact P143.sz)) (W.Arg.safe P144.al G144 (by decide)) d20_130 rfl ?_
  intro T145 h145 P145 W145 G145
  have Ex145 := Ex144.wr W145
  have Fv145 := Fv144.other W145 (Or.inl hne144)
  have Fc145 := Fc144.other W145 (Or.inl hne144)
  have Sx145 := Safe.wr W145 (W.Arg.safe P144.al G144 (by decide)) P144.chv Sx144
  refine W.g_dup (pc1 := 132) P145.q d20_131 rfl rfl ?_
  refine W.g_iconst (pc1 := 133) (v := (1 : Int32)) P145.q d20_132 (by decide) rfl ?_
  refine W.g_iloadN (pc1 := 134) P145.q d20_133 rfl rfl ?_
  refine P145.stCg (pc1 := 135) (x := c1) G145 (i := 1) (by decide) (Or.inr (by rw [g144]; exact P143.sz)) (W.Arg.safe P145.al G145 (by decide)) d20_134 rfl ?_
  intro T146 h146 P146 W146 G146
  have Ex146 := Ex145.wr W146
  have Fv146 := Fv145.other W146 (Or.inl hne144)
  have Fc146 := Fc145.other W146 (Or.inl hne144)
  have Sx146 := Safe.wr W146 (W.Arg.safe P145.al G145 (by decide)) P145.chv Sx145
  refine W.g_dup (pc1 := 136) P146.q d20_135 rfl rfl ?_
  refine W.g_iconst (pc1 := 137) (v := (2 : Int32)) P146.q d20_136 (by decide) rfl ?_
  refine W.g_iloadN (pc1 := 138) P146.q d20_137 rfl rfl ?_
  refine P146.stCg (pc1 := 139) (x := c2) G146 (i := 2) (by decide) (Or.inr (by rw [g144]; exact P143.sz)) (W.Arg.safe P146.al G146 (by decide)) d20_138 rfl ?_
  intro T147 h147 P147 W147 G147
  have Ex147 := Ex146.wr W147
  have Fv147 := Fv146.other W147 (Or.inl hne144)
  have Fc147 := Fc146.other W147 (Or.inl hne144)
  have Sx147 := Safe.wr W147 (W.Arg.safe P146.al G146 (by decide)) P146.chv Sx146
  refine W.g_dup (pc1 := 140) P147.q d20_139 rfl rfl ?_
  refine W.g_iconst (pc1 := 141) (v := (3 : Int32)) P147.q d20_140 (by decide) rfl ?_
  refine W.g_iload (pc1 := 143) P147.q d20_141 rfl rfl ?_
  refine P147.stCg (pc1 := 144) (x := c3) G147 (i := 3) (by decide) (Or.inr (by rw [g144]; exact P143.sz)) (W.Arg.safe P147.al G147 (by decide)) d20_143 rfl ?_
  intro T148 h148 P148 W148 G148
  have Ex148 := Ex147.wr W148
  have Fv148 := Fv147.other W148 (Or.inl hne144)
  have Fc148 := Fc147.other W148 (Or.inl hne144)
  have Sx148 := Safe.wr W148 (W.Arg.safe P147.al G147 (by decide)) P147.chv Sx147
  refine W.g_dup (pc1 := 145) P148.q d20_144 rfl rfl ?_
  refine W.g_iconst (pc1 := 146) (v := (4 : Int32)) P148.q d20_145 (by decide) rfl ?_
  refine W.g_iload (pc1 := 148) P148.q d20_146 rfl rfl ?_
  refine P148.stCg (pc1 := 149) (x := c4) G148 (i := 4) (by decide) (Or.inr (by rw [g144]; exact P143.sz)) (W.Arg.safe P148.al G148 (by decide)) d20_148 rfl ?_
  intro T149 h149 P149 W149 G149
  have Ex149 := Ex148.wr W149
  have Fv149 := Fv148.other W149 (Or.inl hne144)
  have Fc149 := Fc148.other W149 (Or.inl hne144)
  have Sx149 := Safe.wr W149 (W.Arg.safe P148.al G148 (by decide)) P148.chv Sx148
  have VL149 : Arv Z h149 x144 k144 .char 5 (([c0, c1, c2, c3, c4] : List Int32).map Value.int) (.int 0) := W.Arg.list G149 rfl (fun i hi => match i, hi with | 0, _ => own_narc (b0).ch | 1, _ => own_narc (b1).ch | 2, _ => own_narc (b2).ch | 3, _ => own_narc (b3).ch | 4, _ => own_narc (b4).ch | k + 5, hk => absurd hk (Nat.not_lt.mpr (Nat.le_add_left _ _)))
  have hp149 : ∀ c ∈ ([c0, c1, c2, c3, c4] : List Int32), ¬ c < 0 ∧ ¬ (255 : Int32) < c := (List.forall_mem_cons.mpr ⟨b0, (List.forall_mem_cons.mpr ⟨b1, (List.forall_mem_cons.mpr ⟨b2, (List.forall_mem_cons.mpr ⟨b3, (List.forall_mem_cons.mpr ⟨b4, (fun c hc => absurd hc (List.not_mem_nil))⟩)⟩)⟩)⟩)⟩)
  refine P149.callN (pc1 := 152) rfl (wd hw (k := 43) rfl) (wd hw (k := 44) rfl) (wd hw (k := 45) rfl) (by decide) (StrChars.Road.backV (W := 1) P149.hz hws (kI := 4) (wd hw (k := 7) rfl) (cs := [c0, c1, c2, c3, c4]) (bs := ([c0, c1, c2, c3, c4]).map (fun c => c.toInt8.toInt32)) (n := 5) (n0 := h0.size) (by rw [g143]; exact P0.sz) P149.sz Ex149 Fv149 Fc149 VL149 (US.2.1.ext (P149.extZ EZ all0)) US.1 rfl rfl (by decide) (by decide) hp149 rfl (by decide) (by decide)) (argsL := [(.ref x144)]) (st0 := [(.ref x143)]) (lenOf pd_AC_R_V rfl) rfl rfl (Nat.le_of_eq rfl) (by rw [hml]; rfl) (by decide) (by decide) (fun _ _ _ q => ⟨W.Frw.of_fr q.2.1 (Nat.le_refl _), CHr.keep q.2.2.1 (sfS Sx149 sf0) P149.chv⟩) d20_149 rfl ?_
  intro v150 T150 h150 L150 q150 P150
  obtain ⟨rfl, f150, K150, A150, C150, t150, k150, b150, c150, d150, F150, V150⟩ := q150
  show W.Go p.tables e below _ (T150.setTop (mkF m 152 #[.val (.int (5 : Int32)), .val (.int c0), .val (.int c1), .val (.int c2), .val (.int c3), .val (.int c4)] [(.ref x143)]))
  have S150 : W.Str Z h150 x143 [c0, c1, c2, c3, c4] := ⟨t150, k150, _, _, _, A150, F150, C150, V150, StrChars.Road.codOf (cs := [c0, c1, c2, c3, c4]) (n := 5) rfl (fun c hc => (hp149 c hc).2), fun c hc => ⟨(hp149 c hc).1, own_up (hp149 c hc).2⟩, Nat.le_of_ble_eq_true rfl⟩
  exact P150.retAW hEL hlk hret rfl rfl rfl d20_152 (by decide) (by decide) ⟨x143, [c0, c1, c2, c3, c4], rfl, P150.fr, P150.ext0, S150⟩
def own_f_prop (i : Nat) : Int32 := ([112, 114, 111, 112, 111, 114, 116, 105, 111, 110] : List Int32).getD i 0
theorem own_b_prop : ∀ i, i < 10 → By (own_f_prop i) := fun i hi => match i, hi with | 0, _ => ⟨by decide, by decide⟩ | 1, _ => ⟨by decide, by decide⟩ | 2, _ => ⟨by decide, by decide⟩ | 3, _ => ⟨by decide, by decide⟩ | 4, _ => ⟨by decide, by decide⟩ | 5, _ => ⟨by decide, by decide⟩ | 6, _ => ⟨by decide, by decide⟩ | 7, _ => ⟨by decide, by decide⟩ | 8, _ => ⟨by decide, by decide⟩ | 9, _ => ⟨by decide, by decide⟩ | k + 10, hk => absurd hk (by omega)
set_option maxRecDepth 65536 in
set_option maxHeartbeats 40000000 in
theorem c_prop (l : Launch) (Z : State) (a0 : Array Value) (hw : ∀ d ∈ tables_1, d.before a0 Z = true) (wS : ∀ a ∈ Bundle.stringAtoms, a.before a0 Z = true) (hEL : EW Z a0 ownEL) (q c1 : Int32) (hc1 : By c1) (h0 : Heap) (EZ : Ext Z.heap h0) (zc : Int32) (fm : Value) (US : UST Z zc fm) : W.MetW l Z ownEL (⟨"com/example/numerary/numerary/ScoringOfCodePinLaw", "prop", "(IC)Ljava/lang/String;"⟩ : MethodName) method_3_code 3 ((Option.some (Jvm.ClassFile.FieldType.object "java/lang/String"))) [] ({ frames := 7, cells := 12, slots := 200, locals := 130 } : Room) #[.int q, .int c1] [] h0 (QM Z h0) := by
  refine W.MetW.mk (ls0 := #[.val (.int q), .val (.int c1), .unset]) [] (plainFor_of_name pn_com_example_numerary_numerary_ScoringOfCodePinLaw) (fun m => by first | (simp [entryFrame, mkF, argsToLocals, Value.category]; done) | rfl) ?_
  intro p e s m below meth c s₁ hml hret hnm hlk hss P0
  show W.Go p.tables e below _ (s₁.setTop (mkF m 0 #[.val (.int q), .val (.int c1), .unset] []))
  have hws : ∀ d ∈ StrChars.Road.words, d.before a0 Z = true := fun d hd => hw d (own_words d hd)
  refine P0.ldcR (pc1 := 2) (n := 40) (vs := [.int 112, .int 114, .int 111, .int 112, .int 111, .int 114, .int 116, .int 105, .int 111, .int 110]) (z := 10) (wd hw (k := 5) rfl) wS hEL (by decide) ⟨by decide, by decide +kernel⟩ (by decide) (by decide) (by decide) (by decide) (by decide) (by decide) d1_0 rfl ?_
  intro lx T1 h1 lt lk P1 E1 R1 A1 C1 F1 V1 N1 L1
  have LS : Lt Z h1 lx lt lk 10 own_f_prop := ⟨A1, F1, C1, W.Arg.of 10 V1 rfl (by decide) (fun i hi => match i, hi with | 0, _ => rfl | 1, _ => rfl | 2, _ => rfl | 3, _ => rfl | 4, _ => rfl | 5, _ => rfl | 6, _ => rfl | 7, _ => rfl | 8, _ => rfl | 9, _ => rfl | k + 10, hk => absurd hk (by omega)), own_b_prop⟩
  refine W.g_astoreN (pc1 := 3) (ls2 := #[.val (.int q), .val (.int c1), .val (.ref lx)]) P1.q d1_2 rfl rfl rfl ?_
  refine W.g_iloadN (pc1 := 4) P1.q d1_3 rfl rfl ?_
  refine W.g_bipush (pc1 := 6) (v := (10 : Int32)) P1.q d1_4 (by decide) rfl ?_
  refine W.g_cmp (pc1 := 99) (pc2 := 9) P1.q d1_6 (by decide) rfl rfl (fun (h1q : ¬ q = (10 : Int32)) => ?_) (fun (h1q : ¬ (¬ q = (10 : Int32))) => ?_)
  · refine P1.newO (pc1 := 102) (wd hw (k := 13) rfl) (wd hw (k := 7) rfl) (wd hw (k := 6) rfl) (by decide) (by decide) d1_99 rfl ?_
    intro T151 h151 x151 g151 P151 E151 A151 D151 U151
    refine W.g_dup (pc1 := 103) P151.q d1_102 rfl rfl ?_
    refine W.g_bipush (pc1 := 105) (v := (10 : Int32)) P151.q d1_103 (by decide) rfl ?_
    have Fv151 : Fld Z h151 x151 "java/lang/String" "value" "[B" .null := D151 (Or.inr (wd hw (k := 9) rfl)) (ty := .array .byte) (by decide)
    have Fc151 : Fld Z h151 x151 "java/lang/String" "coder" "B" (.int 0) := D151 (Or.inr (wd hw (k := 10) rfl)) (ty := .byte) (by decide)
    have Sx151 := Safe.ext (EL := ownEL) E151 P1.chv (Safe.new (Nat.le_of_eq g151.symm))
    refine P151.newP (pc1 := 107) (cap := 10) (wd hw (k := 14) rfl) (by decide) (by decide) (by decide) (by decide) (by decide) d1_105 rfl ?_
    intro T152 h152 x152 k152 g152 P152 E152 V152
    have hne152 : x151 ≠ x152 := Nat.ne_of_lt (by rw [g152]; exact A151.lt)
    have Ex152 := A151.ext E152
    have Fv152 := Fv151.ext E152
    have Fc152 := Fc151.ext E152
    have Sx152 := Safe.ext E152 P151.chv Sx151
    have G152 : W.Arg Z h152 x152 k152 .char 10 (fun _ => 0) := W.Arg.new (by decide) V152
    have LS152 := (LS.ext E151).ext E152
    have hxa152 : lx ≠ x152 := Nat.ne_of_lt (by rw [g152]; exact (LS.ext E151).1.lt)
    have hta152 : lt ≠ x152 := Nat.ne_of_lt (by rw [g152]; exact (LS.ext E151).2.2.2.1.lt)
    refine W.g_dup (pc1 := 108) P152.q d1_107 rfl rfl ?_
    refine W.g_iconst (pc1 := 109) (v := (0 : Int32)) P152.q d1_108 (by decide) rfl ?_
    refine W.g_aloadN (pc1 := 110) P152.q d1_109 rfl rfl rfl ?_
    refine W.g_iconst (pc1 := 111) (v := (0 : Int32)) P152.q d1_110 (by decide) rfl ?_
    refine W.g_iloadN (pc1 := 112) P152.q d1_111 rfl rfl ?_
    refine W.g_iloadN (pc1 := 113) P152.q d1_112 rfl rfl ?_
    show W.Go p.tables e below _ (T152.setTop (mkF m 113 #[.val (.int q), .val (.int c1), .val (.ref lx)] [(.int c1), (.int q), (.int (Int32.ofNat 0)), (.ref lx), (.int (0 : Int32)), (.ref x152), (.ref x152), (.ref x151), (.ref x151)]))
    refine P152.callS (pc1 := 116) (wd hw (k := 15) rfl) (wd hw (k := 16) rfl) (wd hw (k := 3) rfl) (wd hw (k := 17) rfl) (by decide) (W.MetN.pay (W := 5) (c_chx l Z a0 hw lx lt lk 0 10 (by decide) own_f_prop (by decide) q c1 hc1 h152 LS152 (P152.extZ EZ all0) zc fm US) P152 (wd hw (k := 17) rfl) (wd hw (k := 3) rfl) (by decide) (by decide)) (argsL := [(.ref lx), (.int (Int32.ofNat 0)), (.int q), (.int c1)]) (st0 := [(.int (0 : Int32)), (.ref x152), (.ref x152), (.ref x151), (.ref x151)]) (lenOf pd_Ljava_lang_StringIIC_R_C rfl) rfl rfl (Nat.le_of_eq rfl) (by rw [hml]; rfl) (by decide) (by decide) (QBy.ok P152.chv) d1_113 rfl ?_
    intro v153 T153 h153 L153 q153 P153
    obtain ⟨rfl, rfl, r153, rfl, hr153⟩ := q153
    show W.Go p.tables e below _ (T153.setTop (mkF m 116 #[.val (.int q), .val (.int c1), .val (.ref lx)] [(.int r153), (.int (0 : Int32)), (.ref x152), (.ref x152), (.ref x151), (.ref x151)]))
    refine P153.stCg (pc1 := 117) (x := r153) G152 (i := 0) (by decide) (Or.inr (by rw [g152]; exact P151.sz)) (W.Arg.safe P153.al G152 (by decide)) d1_116 rfl ?_
    intro T154 h154 P154 W154 G154
    have Ex154 := Ex152.wr W154
    have Fv154 := Fv152.other W154 (Or.inl hne152)
    have Fc154 := Fc152.other W154 (Or.inl hne152)
    have Sx154 := Safe.wr W154 (W.Arg.safe P153.al G152 (by decide)) P153.chv Sx152
    have LS154 := LS152.other W154 hxa152 hta152
    refine W.g_dup (pc1 := 118) P154.q d1_117 rfl rfl ?_
    refine W.g_iconst (pc1 := 119) (v := (1 : Int32)) P154.q d1_118 (by decide) rfl ?_
    refine W.g_aloadN (pc1 := 120) P154.q d1_119 rfl rfl rfl ?_
    refine W.g_iconst (pc1 := 121) (v := (1 : Int32)) P154.q d1_120 (by decide) rfl ?_
    refine W.g_iloadN (pc1 := 122) P154.q d1_121 rfl rfl ?_
    refine W.g_iloadN (pc1 := 123) P154.q d1_122 rfl rfl ?_
    show W.Go p.tables e below _ (T154.setTop (mkF m 123 #[.val (.int q), .val (.int c1), .val (.ref lx)] [(.int c1), (.int q), (.int (Int32.ofNat 1)), (.ref lx), (.int (1 : Int32)), (.ref x152), (.ref x152), (.ref x151), (.ref x151)]))
    refine P154.callS (pc1 := 126) (wd hw (k := 15) rfl) (wd hw (k := 16) rfl) (wd hw (k := 3) rfl) (wd hw (k := 17) rfl) (by decide) (W.MetN.pay (W := 5) (c_chx l Z a0 hw lx lt lk 1 10 (by decide) own_f_prop (by decide) q c1 hc1 h154 LS154 (P154.extZ EZ all0) zc fm US) P154 (wd hw (k := 17) rfl) (wd hw (k := 3) rfl) (by decide) (by decide)) (argsL := [(.ref lx), (.int (Int32.ofNat 1)), (.int q), (.int c1)]) (st0 := [(.int (1 : Int32)), (.ref x152), (.ref x152), (.ref x151), (.ref x151)]) (lenOf pd_Ljava_lang_StringIIC_R_C rfl) rfl rfl (Nat.le_of_eq rfl) (by rw [hml]; rfl) (by decide) (by decide) (QBy.ok P154.chv) d1_123 rfl ?_
    intro v155 T155 h155 L155 q155 P155
    obtain ⟨rfl, rfl, r155, rfl, hr155⟩ := q155
    show W.Go p.tables e below _ (T155.setTop (mkF m 126 #[.val (.int q), .val (.int c1), .val (.ref lx)] [(.int r155), (.int (1 : Int32)), (.ref x152), (.ref x152), (.ref x151), (.ref x151)]))
    refine P155.stCg (pc1 := 127) (x := r155) G154 (i := 1) (by decide) (Or.inr (by rw [g152]; exact P151.sz)) (W.Arg.safe P155.al G154 (by decide)) d1_126 rfl ?_
    intro T156 h156 P156 W156 G156
    have Ex156 := Ex154.wr W156
    have Fv156 := Fv154.other W156 (Or.inl hne152)
    have Fc156 := Fc154.other W156 (Or.inl hne152)
    have Sx156 := Safe.wr W156 (W.Arg.safe P155.al G154 (by decide)) P155.chv Sx154
    have LS156 := LS154.other W156 hxa152 hta152
    refine W.g_dup (pc1 := 128) P156.q d1_127 rfl rfl ?_
    refine W.g_iconst (pc1 := 129) (v := (2 : Int32)) P156.q d1_128 (by decide) rfl ?_
    refine W.g_aloadN (pc1 := 130) P156.q d1_129 rfl rfl rfl ?_
    refine W.g_iconst (pc1 := 131) (v := (2 : Int32)) P156.q d1_130 (by decide) rfl ?_
    refine W.g_iloadN (pc1 := 132) P156.q d1_131 rfl rfl ?_
    refine W.g_iloadN (pc1 := 133) P156.q d1_132 rfl rfl ?_
    show W.Go p.tables e below _ (T156.setTop (mkF m 133 #[.val (.int q), .val (.int c1), .val (.ref lx)] [(.int c1), (.int q), (.int (Int32.ofNat 2)), (.ref lx), (.int (2 : Int32)), (.ref x152), (.ref x152), (.ref x151), (.ref x151)]))
    refine P156.callS (pc1 := 136) (wd hw (k := 15) rfl) (wd hw (k := 16) rfl) (wd hw (k := 3) rfl) (wd hw (k := 17) rfl) (by decide) (W.MetN.pay (W := 5) (c_chx l Z a0 hw lx lt lk 2 10 (by decide) own_f_prop (by decide) q c1 hc1 h156 LS156 (P156.extZ EZ all0) zc fm US) P156 (wd hw (k := 17) rfl) (wd hw (k := 3) rfl) (by decide) (by decide)) (argsL := [(.ref lx), (.int (Int32.ofNat 2)), (.int q), (.int c1)]) (st0 := [(.int (2 : Int32)), (.ref x152), (.ref x152), (.ref x151), (.ref x151)]) (lenOf pd_Ljava_lang_StringIIC_R_C rfl) rfl rfl (Nat.le_of_eq rfl) (by rw [hml]; rfl) (by decide) (by decide) (QBy.ok P156.chv) d1_133 rfl ?_
    intro v157 T157 h157 L157 q157 P157
    obtain ⟨rfl, rfl, r157, rfl, hr157⟩ := q157
    show W.Go p.tables e below _ (T157.setTop (mkF m 136 #[.val (.int q), .val (.int c1), .val (.ref lx)] [(.int r157), (.int (2 : Int32)), (.ref x152), (.ref x152), (.ref x151), (.ref x151)]))
    refine P157.stCg (pc1 := 137) (x := r157) G156 (i := 2) (by decide) (Or.inr (by rw [g152]; exact P151.sz)) (W.Arg.safe P157.al G156 (by decide)) d1_136 rfl ?_
    intro T158 h158 P158 W158 G158
    have Ex158 := Ex156.wr W158
    have Fv158 := Fv156.other W158 (Or.inl hne152)
    have Fc158 := Fc156.other W158 (Or.inl hne152)
    have Sx158 := Safe.wr W158 (W.Arg.safe P157.al G156 (by decide)) P157.chv Sx156
    have LS158 := LS156.other W158 hxa152 hta152
    refine W.g_dup (pc1 := 138) P158.q d1_137 rfl rfl ?_
    refine W.g_iconst (pc1 := 139) (v := (3 : Int32)) P158.q d1_138 (by decide) rfl ?_
    refine W.g_aloadN (pc1 := 140) P158.q d1_139 rfl rfl rfl ?_
    refine W.g_iconst (pc1 := 141) (v := (3 : Int32)) P158.q d1_140 (by decide) rfl ?_
    refine W.g_iloadN (pc1 := 142) P158.q d1_141 rfl rfl ?_
    refine W.g_iloadN (pc1 := 143) P158.q d1_142 rfl rfl ?_
    show W.Go p.tables e below _ (T158.setTop (mkF m 143 #[.val (.int q), .val (.int c1), .val (.ref lx)] [(.int c1), (.int q), (.int (Int32.ofNat 3)), (.ref lx), (.int (3 : Int32)), (.ref x152), (.ref x152), (.ref x151), (.ref x151)]))
    refine P158.callS (pc1 := 146) (wd hw (k := 15) rfl) (wd hw (k := 16) rfl) (wd hw (k := 3) rfl) (wd hw (k := 17) rfl) (by decide) (W.MetN.pay (W := 5) (c_chx l Z a0 hw lx lt lk 3 10 (by decide) own_f_prop (by decide) q c1 hc1 h158 LS158 (P158.extZ EZ all0) zc fm US) P158 (wd hw (k := 17) rfl) (wd hw (k := 3) rfl) (by decide) (by decide)) (argsL := [(.ref lx), (.int (Int32.ofNat 3)), (.int q), (.int c1)]) (st0 := [(.int (3 : Int32)), (.ref x152), (.ref x152), (.ref x151), (.ref x151)]) (lenOf pd_Ljava_lang_StringIIC_R_C rfl) rfl rfl (Nat.le_of_eq rfl) (by rw [hml]; rfl) (by decide) (by decide) (QBy.ok P158.chv) d1_143 rfl ?_
    intro v159 T159 h159 L159 q159 P159
    obtain ⟨rfl, rfl, r159, rfl, hr159⟩ := q159
    show W.Go p.tables e below _ (T159.setTop (mkF m 146 #[.val (.int q), .val (.int c1), .val (.ref lx)] [(.int r159), (.int (3 : Int32)), (.ref x152), (.ref x152), (.ref x151), (.ref x151)]))
    refine P159.stCg (pc1 := 147) (x := r159) G158 (i := 3) (by decide) (Or.inr (by rw [g152]; exact P151.sz)) (W.Arg.safe P159.al G158 (by decide)) d1_146 rfl ?_
    intro T160 h160 P160 W160 G160
    have Ex160 := Ex158.wr W160
    have Fv160 := Fv158.other W160 (Or.inl hne152)
    have Fc160 := Fc158.other W160 (Or.inl hne152)
    have Sx160 := Safe.wr W160 (W.Arg.safe P159.al G158 (by decide)) P159.chv Sx158
    have LS160 := LS158.other W160 hxa152 hta152
    refine W.g_dup (pc1 := 148) P160.q d1_147 rfl rfl ?_
    refine W.g_iconst (pc1 := 149) (v := (4 : Int32)) P160.q d1_148 (by decide) rfl ?_
    refine W.g_aloadN (pc1 := 150) P160.q d1_149 rfl rfl rfl ?_
    refine W.g_iconst (pc1 := 151) (v := (4 : Int32)) P160.q d1_150 (by decide) rfl ?_
    refine W.g_iloadN (pc1 := 152) P160.q d1_151 rfl rfl ?_
    refine W.g_iloadN (pc1 := 153) P160.q d1_152 rfl rfl ?_
    show W.Go p.tables e below _ (T160.setTop (mkF m 153 #[.val (.int q), .val (.int c1), .val (.ref lx)] [(.int c1), (.int q), (.int (Int32.ofNat 4)), (.ref lx), (.int (4 : Int32)), (.ref x152), (.ref x152), (.ref x151), (.ref x151)]))
    refine P160.callS (pc1 := 156) (wd hw (k := 15) rfl) (wd hw (k := 16) rfl) (wd hw (k := 3) rfl) (wd hw (k := 17) rfl) (by decide) (W.MetN.pay (W := 5) (c_chx l Z a0 hw lx lt lk 4 10 (by decide) own_f_prop (by decide) q c1 hc1 h160 LS160 (P160.extZ EZ all0) zc fm US) P160 (wd hw (k := 17) rfl) (wd hw (k := 3) rfl) (by decide) (by decide)) (argsL := [(.ref lx), (.int (Int32.ofNat 4)), (.int q), (.int c1)]) (st0 := [(.int (4 : Int32)), (.ref x152), (.ref x152), (.ref x151), (.ref x151)]) (lenOf pd_Ljava_lang_StringIIC_R_C rfl) rfl rfl (Nat.le_of_eq rfl) (by rw [hml]; rfl) (by decide) (by decide) (QBy.ok P160.chv) d1_153 rfl ?_
    intro v161 T161 h161 L161 q161 P161
    obtain ⟨rfl, rfl, r161, rfl, hr161⟩ := q161
    show W.Go p.tables e below _ (T161.setTop (mkF m 156 #[.val (.int q), .val (.int c1), .val (.ref lx)] [(.int r161), (.int (4 : Int32)), (.ref x152), (.ref x152), (.ref x151), (.ref x151)]))
    refine P161.stCg (pc1 := 157) (x := r161) G160 (i := 4) (by decide) (Or.inr (by rw [g152]; exact P151.sz)) (W.Arg.safe P161.al G160 (by decide)) d1_156 rfl ?_
    intro T162 h162 P162 W162 G162
    have Ex162 := Ex160.wr W162
    have Fv162 := Fv160.other W162 (Or.inl hne152)
    have Fc162 := Fc160.other W162 (Or.inl hne152)
    have Sx162 := Safe.wr W162 (W.Arg.safe P161.al G160 (by decide)) P161.chv Sx160
    have LS162 := LS160.other W162 hxa152 hta152
    refine W.g_dup (pc1 := 158) P162.q d1_157 rfl rfl ?_
    refine W.g_iconst (pc1 := 159) (v := (5 : Int32)) P162.q d1_158 (by decide) rfl ?_
    refine W.g_aloadN (pc1 := 160) P162.q d1_159 rfl rfl rfl ?_
    refine W.g_iconst (pc1 := 161) (v := (5 : Int32)) P162.q d1_160 (by decide) rfl ?_
    refine W.g_iloadN (pc1 := 162) P162.q d1_161 rfl rfl ?_
    refine W.g_iloadN (pc1 := 163) P162.q d1_162 rfl rfl ?_
    show W.Go p.tables e below _ (T162.setTop (mkF m 163 #[.val (.int q), .val (.int c1), .val (.ref lx)] [(.int c1), (.int q), (.int (Int32.ofNat 5)), (.ref lx), (.int (5 : Int32)), (.ref x152), (.ref x152), (.ref x151), (.ref x151)]))
    refine P162.callS (pc1 := 166) (wd hw (k := 15) rfl) (wd hw (k := 16) rfl) (wd hw (k := 3) rfl) (wd hw (k := 17) rfl) (by decide) (W.MetN.pay (W := 5) (c_chx l Z a0 hw lx lt lk 5 10 (by decide) own_f_prop (by decide) q c1 hc1 h162 LS162 (P162.extZ EZ all0) zc fm US) P162 (wd hw (k := 17) rfl) (wd hw (k := 3) rfl) (by decide) (by decide)) (argsL := [(.ref lx), (.int (Int32.ofNat 5)), (.int q), (.int c1)]) (st0 := [(.int (5 : Int32)), (.ref x152), (.ref x152), (.ref x151), (.ref x151)]) (lenOf pd_Ljava_lang_StringIIC_R_C rfl) rfl rfl (Nat.le_of_eq rfl) (by rw [hml]; rfl) (by decide) (by decide) (QBy.ok P162.chv) d1_163 rfl ?_
    intro v163 T163 h163 L163 q163 P163
    obtain ⟨rfl, rfl, r163, rfl, hr163⟩ := q163
    show W.Go p.tables e below _ (T163.setTop (mkF m 166 #[.val (.int q), .val (.int c1), .val (.ref lx)] [(.int r163), (.int (5 : Int32)), (.ref x152), (.ref x152), (.ref x151), (.ref x151)]))
    refine P163.stCg (pc1 := 167) (x := r163) G162 (i := 5) (by decide) (Or.inr (by rw [g152]; exact P151.sz)) (W.Arg.safe P163.al G162 (by decide)) d1_166 rfl ?_
    intro T164 h164 P164 W164 G164
    have Ex164 := Ex162.wr W164
    have Fv164 := Fv162.other W164 (Or.inl hne152)
    have Fc164 := Fc162.other W164 (Or.inl hne152)
    have Sx164 := Safe.wr W164 (W.Arg.safe P163.al G162 (by decide)) P163.chv Sx162
    have LS164 := LS162.other W164 hxa152 hta152
    refine W.g_dup (pc1 := 168) P164.q d1_167 rfl rfl ?_
    refine W.g_bipush (pc1 := 170) (v := (6 : Int32)) P164.q d1_168 (by decide) rfl ?_
    refine W.g_aloadN (pc1 := 171) P164.q d1_170 rfl rfl rfl ?_
    refine W.g_bipush (pc1 := 173) (v := (6 : Int32)) P164.q d1_171 (by decide) rfl ?_
    refine W.g_iloadN (pc1 := 174) P164.q d1_173 rfl rfl ?_
    refine W.g_iloadN (pc1 := 175) P164.q d1_174 rfl rfl ?_
    show W.Go p.tables e below _ (T164.setTop (mkF m 175 #[.val (.int q), .val (.int c1), .val (.ref lx)] [(.int c1), (.int q), (.int (Int32.ofNat 6)), (.ref lx), (.int (6 : Int32)), (.ref x152), (.ref x152), (.ref x151), (.ref x151)]))
    refine P164.callS (pc1 := 178) (wd hw (k := 15) rfl) (wd hw (k := 16) rfl) (wd hw (k := 3) rfl) (wd hw (k := 17) rfl) (by decide) (W.MetN.pay (W := 5) (c_chx l Z a0 hw lx lt lk 6 10 (by decide) own_f_prop (by decide) q c1 hc1 h164 LS164 (P164.extZ EZ all0) zc fm US) P164 (wd hw (k := 17) rfl) (wd hw (k := 3) rfl) (by decide) (by decide)) (argsL := [(.ref lx), (.int (Int32.ofNat 6)), (.int q), (.int c1)]) (st0 := [(.int (6 : Int32)), (.ref x152), (.ref x152), (.ref x151), (.ref x151)]) (lenOf pd_Ljava_lang_StringIIC_R_C rfl) rfl rfl (Nat.le_of_eq rfl) (by rw [hml]; rfl) (by decide) (by decide) (QBy.ok P164.chv) d1_175 rfl ?_
    intro v165 T165 h165 L165 q165 P165
    obtain ⟨rfl, rfl, r165, rfl, hr165⟩ := q165
    show W.Go p.tables e below _ (T165.setTop (mkF m 178 #[.val (.int q), .val (.int c1), .val (.ref lx)] [(.int r165), (.int (6 : Int32)), (.ref x152), (.ref x152), (.ref x151), (.ref x151)]))
    refine P165.stCg (pc1 := 179) (x := r165) G164 (i := 6) (by decide) (Or.inr (by rw [g152]; exact P151.sz)) (W.Arg.safe P165.al G164 (by decide)) d1_178 rfl ?_
    intro T166 h166 P166 W166 G166
    have Ex166 := Ex164.wr W166
    have Fv166 := Fv164.other W166 (Or.inl hne152)
    have Fc166 := Fc164.other W166 (Or.inl hne152)
    have Sx166 := Safe.wr W166 (W.Arg.safe P165.al G164 (by decide)) P165.chv Sx164
    have LS166 := LS164.other W166 hxa152 hta152
    refine W.g_dup (pc1 := 180) P166.q d1_179 rfl rfl ?_
    refine W.g_bipush (pc1 := 182) (v := (7 : Int32)) P166.q d1_180 (by decide) rfl ?_
    refine W.g_aloadN (pc1 := 183) P166.q d1_182 rfl rfl rfl ?_
    refine W.g_bipush (pc1 := 185) (v := (7 : Int32)) P166.q d1_183 (by decide) rfl ?_
    refine W.g_iloadN (pc1 := 186) P166.q d1_185 rfl rfl ?_
    refine W.g_iloadN (pc1 := 187) P166.q d1_186 rfl rfl ?_
    show W.Go p.tables e below _ (T166.setTop (mkF m 187 #[.val (.int q), .val (.int c1), .val (.ref lx)] [(.int c1), (.int q), (.int (Int32.ofNat 7)), (.ref lx), (.int (7 : Int32)), (.ref x152), (.ref x152), (.ref x151), (.ref x151)]))
    refine P166.callS (pc1 := 190) (wd hw (k := 15) rfl) (wd hw (k := 16) rfl) (wd hw (k := 3) rfl) (wd hw (k := 17) rfl) (by decide) (W.MetN.pay (W := 5) (c_chx l Z a0 hw lx lt lk 7 10 (by decide) own_f_prop (by decide) q c1 hc1 h166 LS166 (P166.extZ EZ all0) zc fm US) P166 (wd hw (k := 17) rfl) (wd hw (k := 3) rfl) (by decide) (by decide)) (argsL := [(.ref lx), (.int (Int32.ofNat 7)), (.int q), (.int c1)]) (st0 := [(.int (7 : Int32)), (.ref x152), (.ref x152), (.ref x151), (.ref x151)]) (lenOf pd_Ljava_lang_StringIIC_R_C rfl) rfl rfl (Nat.le_of_eq rfl) (by rw [hml]; rfl) (by decide) (by decide) (QBy.ok P166.chv) d1_187 rfl ?_
    intro v167 T167 h167 L167 q167 P167
    obtain ⟨rfl, rfl, r167, rfl, hr167⟩ := q167
    show W.Go p.tables e below _ (T167.setTop (mkF m 190 #[.val (.int q), .val (.int c1), .val (.ref lx)] [(.int r167), (.int (7 : Int32)), (.ref x152), (.ref x152), (.ref x151), (.ref x151)]))
    refine P167.stCg (pc1 := 191) (x := r167) G166 (i := 7) (by decide) (Or.inr (by rw [g152]; exact P151.sz)) (W.Arg.safe P167.al G166 (by decide)) d1_190 rfl ?_
    intro T168 h168 P168 W168 G168
    have Ex168 := Ex166.wr W168
    have Fv168 := Fv166.other W168 (Or.inl hne152)
    have Fc168 := Fc166.other W168 (Or.inl hne152)
    have Sx168 := Safe.wr W168 (W.Arg.safe P167.al G166 (by decide)) P167.chv Sx166
    have LS168 := LS166.other W168 hxa152 hta152
    refine W.g_dup (pc1 := 192) P168.q d1_191 rfl rfl ?_
    refine W.g_bipush (pc1 := 194) (v := (8 : Int32)) P168.q d1_192 (by decide) rfl ?_
    refine W.g_aloadN (pc1 := 195) P168.q d1_194 rfl rfl rfl ?_
    refine W.g_bipush (pc1 := 197) (v := (8 : Int32)) P168.q d1_195 (by decide) rfl ?_
    refine W.g_iloadN (pc1 := 198) P168.q d1_197 rfl rfl ?_
    refine W.g_iloadN (pc1 := 199) P168.q d1_198 rfl rfl ?_
    show W.Go p.tables e below _ (T168.setTop (mkF m 199 #[.val (.int q), .val (.int c1), .val (.ref lx)] [(.int c1), (.int q), (.int (Int32.ofNat 8)), (.ref lx), (.int (8 : Int32)), (.ref x152), (.ref x152), (.ref x151), (.ref x151)]))
    refine P168.callS (pc1 := 202) (wd hw (k := 15) rfl) (wd hw (k := 16) rfl) (wd hw (k := 3) rfl) (wd hw (k := 17) rfl) (by decide) (W.MetN.pay (W := 5) (c_chx l Z a0 hw lx lt lk 8 10 (by decide) own_f_prop (by decide) q c1 hc1 h168 LS168 (P168.extZ EZ all0) zc fm US) P168 (wd hw (k := 17) rfl) (wd hw (k := 3) rfl) (by decide) (by decide)) (argsL := [(.ref lx), (.int (Int32.ofNat 8)), (.int q), (.int c1)]) (st0 := [(.int (8 : Int32)), (.ref x152), (.ref x152), (.ref x151), (.ref x151)]) (lenOf pd_Ljava_lang_StringIIC_R_C rfl) rfl rfl (Nat.le_of_eq rfl) (by rw [hml]; rfl) (by decide) (by decide) (QBy.ok P168.chv) d1_199 rfl ?_
    intro v169 T169 h169 L169 q169 P169
    obtain ⟨rfl, rfl, r169, rfl, hr169⟩ := q169
    show W.Go p.tables e below _ (T169.setTop (mkF m 202 #[.val (.int q), .val (.int c1), .val (.ref lx)] [(.int r169), (.int (8 : Int32)), (.ref x152), (.ref x152), (.ref x151), (.ref x151)]))
    refine P169.stCg (pc1 := 203) (x := r169) G168 (i := 8) (by decide) (Or.inr (by rw [g152]; exact P151.sz)) (W.Arg.safe P169.al G168 (by decide)) d1_202 rfl ?_
    intro T170 h170 P170 W170 G170
    have Ex170 := Ex168.wr W170
    have Fv170 := Fv168.other W170 (Or.inl hne152)
    have Fc170 := Fc168.other W170 (Or.inl hne152)
    have Sx170 := Safe.wr W170 (W.Arg.safe P169.al G168 (by decide)) P169.chv Sx168
    have LS170 := LS168.other W170 hxa152 hta152
    refine W.g_dup (pc1 := 204) P170.q d1_203 rfl rfl ?_
    refine W.g_bipush (pc1 := 206) (v := (9 : Int32)) P170.q d1_204 (by decide) rfl ?_
    refine W.g_aloadN (pc1 := 207) P170.q d1_206 rfl rfl rfl ?_
    refine W.g_bipush (pc1 := 209) (v := (9 : Int32)) P170.q d1_207 (by decide) rfl ?_
    refine W.g_iloadN (pc1 := 210) P170.q d1_209 rfl rfl ?_
    refine W.g_iloadN (pc1 := 211) P170.q d1_210 rfl rfl ?_
    show W.Go p.tables e below _ (T170.setTop (mkF m 211 #[.val (.int q), .val (.int c1), .val (.ref lx)] [(.int c1), (.int q), (.int (Int32.ofNat 9)), (.ref lx), (.int (9 : Int32)), (.ref x152), (.ref x152), (.ref x151), (.ref x151)]))
    refine P170.callS (pc1 := 214) (wd hw (k := 15) rfl) (wd hw (k := 16) rfl) (wd hw (k := 3) rfl) (wd hw (k := 17) rfl) (by decide) (W.MetN.pay (W := 5) (c_chx l Z a0 hw lx lt lk 9 10 (by decide) own_f_prop (by decide) q c1 hc1 h170 LS170 (P170.extZ EZ all0) zc fm US) P170 (wd hw (k := 17) rfl) (wd hw (k := 3) rfl) (by decide) (by decide)) (argsL := [(.ref lx), (.int (Int32.ofNat 9)), (.int q), (.int c1)]) (st0 := [(.int (9 : Int32)), (.ref x152), (.ref x152), (.ref x151), (.ref x151)]) (lenOf pd_Ljava_lang_StringIIC_R_C rfl) rfl rfl (Nat.le_of_eq rfl) (by rw [hml]; rfl) (by decide) (by decide) (QBy.ok P170.chv) d1_211 rfl ?_
    intro v171 T171 h171 L171 q171 P171
    obtain ⟨rfl, rfl, r171, rfl, hr171⟩ := q171
    show W.Go p.tables e below _ (T171.setTop (mkF m 214 #[.val (.int q), .val (.int c1), .val (.ref lx)] [(.int r171), (.int (9 : Int32)), (.ref x152), (.ref x152), (.ref x151), (.ref x151)]))
    refine P171.stCg (pc1 := 215) (x := r171) G170 (i := 9) (by decide) (Or.inr (by rw [g152]; exact P151.sz)) (W.Arg.safe P171.al G170 (by decide)) d1_214 rfl ?_
    intro T172 h172 P172 W172 G172
    have Ex172 := Ex170.wr W172
    have Fv172 := Fv170.other W172 (Or.inl hne152)
    have Fc172 := Fc170.other W172 (Or.inl hne152)
    have Sx172 := Safe.wr W172 (W.Arg.safe P171.al G170 (by decide)) P171.chv Sx170
    have LS172 := LS170.other W172 hxa152 hta152
    have VL172 : Arv Z h172 x152 k152 .char 10 (([r153, r155, r157, r159, r161, r163, r165, r167, r169, r171] : List Int32).map Value.int) (.int 0) := W.Arg.list G172 rfl (fun i hi => match i, hi with | 0, _ => own_narc (hr153).ch | 1, _ => own_narc (hr155).ch | 2, _ => own_narc (hr157).ch | 3, _ => own_narc (hr159).ch | 4, _ => own_narc (hr161).ch | 5, _ => own_narc (hr163).ch | 6, _ => own_narc (hr165).ch | 7, _ => own_narc (hr167).ch | 8, _ => own_narc (hr169).ch | 9, _ => own_narc (hr171).ch | k + 10, hk => absurd hk (Nat.not_lt.mpr (Nat.le_add_left _ _)))
    have hp172 : ∀ c ∈ ([r153, r155, r157, r159, r161, r163, r165, r167, r169, r171] : List Int32), ¬ c < 0 ∧ ¬ (255 : Int32) < c := (List.forall_mem_cons.mpr ⟨hr153, (List.forall_mem_cons.mpr ⟨hr155, (List.forall_mem_cons.mpr ⟨hr157, (List.forall_mem_cons.mpr ⟨hr159, (List.forall_mem_cons.mpr ⟨hr161, (List.forall_mem_cons.mpr ⟨hr163, (List.forall_mem_cons.mpr ⟨hr165, (List.forall_mem_cons.mpr ⟨hr167, (List.forall_mem_cons.mpr ⟨hr169, (List.forall_mem_cons.mpr ⟨hr171, (fun c hc => absurd hc (List.not_mem_nil))⟩)⟩)⟩)⟩)⟩)⟩)⟩)⟩)⟩)⟩)
    refine P172.callN (pc1 := 218) rfl (wd hw (k := 43) rfl) (wd hw (k := 44) rfl) (wd hw (k := 45) rfl) (by decide) (StrChars.Road.backV (W := 1) P172.hz hws (kI := 4) (wd hw (k := 7) rfl) (cs := [r153, r155, r157, r159, r161, r163, r165, r167, r169, r171]) (bs := ([r153, r155, r157, r159, r161, r163, r165, r167, r169, r171]).map (fun c => c.toInt8.toInt32)) (n := 10) (n0 := h0.size) (by rw [g151]; exact P1.sz) P172.sz Ex172 Fv172 Fc172 VL172 (US.2.1.ext (P172.extZ EZ all0)) US.1 rfl rfl (by decide) (by decide) hp172 rfl (by decide) (by decide)) (argsL := [(.ref x152)]) (st0 := [(.ref x151)]) (lenOf pd_AC_R_V rfl) rfl rfl (Nat.le_of_eq rfl) (by rw [hml]; rfl) (by decide) (by decide) (fun _ _ _ q => ⟨W.Frw.of_fr q.2.1 (Nat.le_refl _), CHr.keep q.2.2.1 (sfS Sx172 sf0) P172.chv⟩) d1_215 rfl ?_
    intro v173 T173 h173 L173 q173 P173
    obtain ⟨rfl, f173, K173, A173, C173, t173, k173, b173, c173, d173, F173, V173⟩ := q173
    show W.Go p.tables e below _ (T173.setTop (mkF m 218 #[.val (.int q), .val (.int c1), .val (.ref lx)] [(.ref x151)]))
    have S173 : W.Str Z h173 x151 [r153, r155, r157, r159, r161, r163, r165, r167, r169, r171] := ⟨t173, k173, _, _, _, A173, F173, C173, V173, StrChars.Road.codOf (cs := [r153, r155, r157, r159, r161, r163, r165, r167, r169, r171]) (n := 10) rfl (fun c hc => (hp172 c hc).2), fun c hc => ⟨(hp172 c hc).1, own_up (hp172 c hc).2⟩, Nat.le_of_ble_eq_true rfl⟩
    exact P173.retAW hEL hlk hret rfl rfl rfl d1_218 (by decide) (by decide) ⟨x151, [r153, r155, r157, r159, r161, r163, r165, r167, r169, r171], rfl, P173.fr, P173.ext0, S173⟩
  · refine P1.newO (pc1 := 12) (wd hw (k := 13) rfl) (wd hw (k := 7) rfl) (wd hw (k := 6) rfl) (by decide) (by decide) d1_9 rfl ?_
    intro T174 h174 x174 g174 P174 E174 A174 D174 U174
    refine W.g_dup (pc1 := 13) P174.q d1_12 rfl rfl ?_
    refine W.g_bipush (pc1 := 15) (v := (9 : Int32)) P174.q d1_13 (by decide) rfl ?_
    have Fv174 : Fld Z h174 x174 "java/lang/String" "value" "[B" .null := D174 (Or.inr (wd hw (k := 9) rfl)) (ty := .array .byte) (by decide)
    have Fc174 : Fld Z h174 x174 "java/lang/String" "coder" "B" (.int 0) := D174 (Or.inr (wd hw (k := 10) rfl)) (ty := .byte) (by decide)
    have Sx174 := Safe.ext (EL := ownEL) E174 P1.chv (Safe.new (Nat.le_of_eq g174.symm))
    refine P174.newP (pc1 := 17) (cap := 9) (wd hw (k := 14) rfl) (by decide) (by decide) (by decide) (by decide) (by decide) d1_15 rfl ?_
    intro T175 h175 x175 k175 g175 P175 E175 V175
    have hne175 : x174 ≠ x175 := Nat.ne_of_lt (by rw [g175]; exact A174.lt)
    have Ex175 := A174.ext E175
    have Fv175 := Fv174.ext E175
    have Fc175 := Fc174.ext E175
    have Sx175 := Safe.ext E175 P174.chv Sx174
    have G175 : W.Arg Z h175 x175 k175 .char 9 (fun _ => 0) := W.Arg.new (by decide) V175
    have LS175 := (LS.ext E174).ext E175
    have hxa175 : lx ≠ x175 := Nat.ne_of_lt (by rw [g175]; exact (LS.ext E174).1.lt)
    have hta175 : lt ≠ x175 := Nat.ne_of_lt (by rw [g175]; exact (LS.ext E174).2.2.2.1.lt)
    refine W.g_dup (pc1 := 18) P175.q d1_17 rfl rfl ?_
    refine W.g_iconst (pc1 := 19) (v := (0 : Int32)) P175.q d1_18 (by decide) rfl ?_
    refine W.g_aloadN (pc1 := 20) P175.q d1_19 rfl rfl rfl ?_
    refine W.g_iconst (pc1 := 21) (v := (0 : Int32)) P175.q d1_20 (by decide) rfl ?_
    show W.Go p.tables e below _ (T175.setTop (mkF m 21 #[.val (.int q), .val (.int c1), .val (.ref lx)] [(.int (Int32.ofNat 0)), (.ref lx), (.int (0 : Int32)), (.ref x175), (.ref x175), (.ref x174), (.ref x174)]))
    refine P175.callV (pc1 := 24) LS175.1 (wd hw (k := 18) rfl) (wd hw (k := 19) rfl) (wd hw (k := 21) rfl) (wd hw (k := 20) rfl) (notFace_of_selects (args := #[]) (mvT P175.hz (wd hw (k := 21) rfl))) (by decide) (W.MetN.pay (W := 5) (c_ch l Z a0 hw lx lt lk 0 10 (by decide) own_f_prop (by decide) h175 LS175 (P175.extZ EZ all0) zc fm US) P175 (wd hw (k := 22) rfl) (wd hw (k := 6) rfl) (by decide) (by decide)) (argsL := [(.int (Int32.ofNat 0))]) (st0 := [(.int (0 : Int32)), (.ref x175), (.ref x175), (.ref x174), (.ref x174)]) (lenOf pd_I_R_C rfl) rfl rfl (Nat.le_of_eq rfl) (by rw [hml]; rfl) (by decide) (by decide) (W.Pure.ok P175.chv) d1_21 rfl ?_
    intro v176 T176 h176 L176 q176 P176
    obtain ⟨rfl, rfl, rfl⟩ := q176
    show W.Go p.tables e below _ (T176.setTop (mkF m 24 #[.val (.int q), .val (.int c1), .val (.ref lx)] [(.int (own_f_prop 0)), (.int (0 : Int32)), (.ref x175), (.ref x175), (.ref x174), (.ref x174)]))
    refine P176.stCg (pc1 := 25) (x := (own_f_prop 0)) G175 (i := 0) (by decide) (Or.inr (by rw [g175]; exact P174.sz)) (W.Arg.safe P176.al G175 (by decide)) d1_24 rfl ?_
    intro T177 h177 P177 W177 G177
    have Ex177 := Ex175.wr W177
    have Fv177 := Fv175.other W177 (Or.inl hne175)
    have Fc177 := Fc175.other W177 (Or.inl hne175)
    have Sx177 := Safe.wr W177 (W.Arg.safe P176.al G175 (by decide)) P176.chv Sx175
    have LS177 := LS175.other W177 hxa175 hta175
    refine W.g_dup (pc1 := 26) P177.q d1_25 rfl rfl ?_
    refine W.g_iconst (pc1 := 27) (v := (1 : Int32)) P177.q d1_26 (by decide) rfl ?_
    refine W.g_aloadN (pc1 := 28) P177.q d1_27 rfl rfl rfl ?_
    refine W.g_iconst (pc1 := 29) (v := (1 : Int32)) P177.q d1_28 (by decide) rfl ?_
    show W.Go p.tables e below _ (T177.setTop (mkF m 29 #[.val (.int q), .val (.int c1), .val (.ref lx)] [(.int (Int32.ofNat 1)), (.ref lx), (.int (1 : Int32)), (.ref x175), (.ref x175), (.ref x174), (.ref x174)]))
    refine P177.callV (pc1 := 32) LS177.1 (wd hw (k := 18) rfl) (wd hw (k := 19) rfl) (wd hw (k := 21) rfl) (wd hw (k := 20) rfl) (notFace_of_selects (args := #[]) (mvT P177.hz (wd hw (k := 21) rfl))) (by decide) (W.MetN.pay (W := 5) (c_ch l Z a0 hw lx lt lk 1 10 (by decide) own_f_prop (by decide) h177 LS177 (P177.extZ EZ all0) zc fm US) P177 (wd hw (k := 22) rfl) (wd hw (k := 6) rfl) (by decide) (by decide)) (argsL := [(.int (Int32.ofNat 1))]) (st0 := [(.int (1 : Int32)), (.ref x175), (.ref x175), (.ref x174), (.ref x174)]) (lenOf pd_I_R_C rfl) rfl rfl (Nat.le_of_eq rfl) (by rw [hml]; rfl) (by decide) (by decide) (W.Pure.ok P177.chv) d1_29 rfl ?_
    intro v178 T178 h178 L178 q178 P178
    obtain ⟨rfl, rfl, rfl⟩ := q178
    show W.Go p.tables e below _ (T178.setTop (mkF m 32 #[.val (.int q), .val (.int c1), .val (.ref lx)] [(.int (own_f_prop 1)), (.int (1 : Int32)), (.ref x175), (.ref x175), (.ref x174), (.ref x174)]))
    refine P178.stCg (pc1 := 33) (x := (own_f_prop 1)) G177 (i := 1) (by decide) (Or.inr (by rw [g175]; exact P174.sz)) (W.Arg.safe P178.al G177 (by decide)) d1_32 rfl ?_
    intro T179 h179 P179 W179 G179
    have Ex179 := Ex177.wr W179
    have Fv179 := Fv177.other W179 (Or.inl hne175)
    have Fc179 := Fc177.other W179 (Or.inl hne175)
    have Sx179 := Safe.wr W179 (W.Arg.safe P178.al G177 (by decide)) P178.chv Sx177
    have LS179 := LS177.other W179 hxa175 hta175
    refine W.g_dup (pc1 := 34) P179.q d1_33 rfl rfl ?_
    refine W.g_iconst (pc1 := 35) (v := (2 : Int32)) P179.q d1_34 (by decide) rfl ?_
    refine W.g_aloadN (pc1 := 36) P179.q d1_35 rfl rfl rfl ?_
    refine W.g_iconst (pc1 := 37) (v := (2 : Int32)) P179.q d1_36 (by decide) rfl ?_
    show W.Go p.tables e below _ (T179.setTop (mkF m 37 #[.val (.int q), .val (.int c1), .val (.ref lx)] [(.int (Int32.ofNat 2)), (.ref lx), (.int (2 : Int32)), (.ref x175), (.ref x175), (.ref x174), (.ref x174)]))
    refine P179.callV (pc1 := 40) LS179.1 (wd hw (k := 18) rfl) (wd hw (k := 19) rfl) (wd hw (k := 21) rfl) (wd hw (k := 20) rfl) (notFace_of_selects (args := #[]) (mvT P179.hz (wd hw (k := 21) rfl))) (by decide) (W.MetN.pay (W := 5) (c_ch l Z a0 hw lx lt lk 2 10 (by decide) own_f_prop (by decide) h179 LS179 (P179.extZ EZ all0) zc fm US) P179 (wd hw (k := 22) rfl) (wd hw (k := 6) rfl) (by decide) (by decide)) (argsL := [(.int (Int32.ofNat 2))]) (st0 := [(.int (2 : Int32)), (.ref x175), (.ref x175), (.ref x174), (.ref x174)]) (lenOf pd_I_R_C rfl) rfl rfl (Nat.le_of_eq rfl) (by rw [hml]; rfl) (by decide) (by decide) (W.Pure.ok P179.chv) d1_37 rfl ?_
    intro v180 T180 h180 L180 q180 P180
    obtain ⟨rfl, rfl, rfl⟩ := q180
    show W.Go p.tables e below _ (T180.setTop (mkF m 40 #[.val (.int q), .val (.int c1), .val (.ref lx)] [(.int (own_f_prop 2)), (.int (2 : Int32)), (.ref x175), (.ref x175), (.ref x174), (.ref x174)]))
    refine P180.stCg (pc1 := 41) (x := (own_f_prop 2)) G179 (i := 2) (by decide) (Or.inr (by rw [g175]; exact P174.sz)) (W.Arg.safe P180.al G179 (by decide)) d1_40 rfl ?_
    intro T181 h181 P181 W181 G181
    have Ex181 := Ex179.wr W181
    have Fv181 := Fv179.other W181 (Or.inl hne175)
    have Fc181 := Fc179.other W181 (Or.inl hne175)
    have Sx181 := Safe.wr W181 (W.Arg.safe P180.al G179 (by decide)) P180.chv Sx179
    have LS181 := LS179.other W181 hxa175 hta175
    refine W.g_dup (pc1 := 42) P181.q d1_41 rfl rfl ?_
    refine W.g_iconst (pc1 := 43) (v := (3 : Int32)) P181.q d1_42 (by decide) rfl ?_
    refine W.g_aloadN (pc1 := 44) P181.q d1_43 rfl rfl rfl ?_
    refine W.g_iconst (pc1 := 45) (v := (3 : Int32)) P181.q d1_44 (by decide) rfl ?_
    show W.Go p.tables e below _ (T181.setTop (mkF m 45 #[.val (.int q), .val (.int c1), .val (.ref lx)] [(.int (Int32.ofNat 3)), (.ref lx), (.int (3 : Int32)), (.ref x175), (.ref x175), (.ref x174), (.ref x174)]))
    refine P181.callV (pc1 := 48) LS181.1 (wd hw (k := 18) rfl) (wd hw (k := 19) rfl) (wd hw (k := 21) rfl) (wd hw (k := 20) rfl) (notFace_of_selects (args := #[]) (mvT P181.hz (wd hw (k := 21) rfl))) (by decide) (W.MetN.pay (W := 5) (c_ch l Z a0 hw lx lt lk 3 10 (by decide) own_f_prop (by decide) h181 LS181 (P181.extZ EZ all0) zc fm US) P181 (wd hw (k := 22) rfl) (wd hw (k := 6) rfl) (by decide) (by decide)) (argsL := [(.int (Int32.ofNat 3))]) (st0 := [(.int (3 : Int32)), (.ref x175), (.ref x175), (.ref x174), (.ref x174)]) (lenOf pd_I_R_C rfl) rfl rfl (Nat.le_of_eq rfl) (by rw [hml]; rfl) (by decide) (by decide) (W.Pure.ok P181.chv) d1_45 rfl ?_
    intro v182 T182 h182 L182 q182 P182
    obtain ⟨rfl, rfl, rfl⟩ := q182
    show W.Go p.tables e below _ (T182.setTop (mkF m 48 #[.val (.int q), .val (.int c1), .val (.ref lx)] [(.int (own_f_prop 3)), (.int (3 : Int32)), (.ref x175), (.ref x175), (.ref x174), (.ref x174)]))
    refine P182.stCg (pc1 := 49) (x := (own_f_prop 3)) G181 (i := 3) (by decide) (Or.inr (by rw [g175]; exact P174.sz)) (W.Arg.safe P182.al G181 (by decide)) d1_48 rfl ?_
    intro T183 h183 P183 W183 G183
    have Ex183 := Ex181.wr W183
    have Fv183 := Fv181.other W183 (Or.inl hne175)
    have Fc183 := Fc181.other W183 (Or.inl hne175)
    have Sx183 := Safe.wr W183 (W.Arg.safe P182.al G181 (by decide)) P182.chv Sx181
    have LS183 := LS181.other W183 hxa175 hta175
    refine W.g_dup (pc1 := 50) P183.q d1_49 rfl rfl ?_
    refine W.g_iconst (pc1 := 51) (v := (4 : Int32)) P183.q d1_50 (by decide) rfl ?_
    refine W.g_aloadN (pc1 := 52) P183.q d1_51 rfl rfl rfl ?_
    refine W.g_iconst (pc1 := 53) (v := (4 : Int32)) P183.q d1_52 (by decide) rfl ?_
    show W.Go p.tables e below _ (T183.setTop (mkF m 53 #[.val (.int q), .val (.int c1), .val (.ref lx)] [(.int (Int32.ofNat 4)), (.ref lx), (.int (4 : Int32)), (.ref x175), (.ref x175), (.ref x174), (.ref x174)]))
    refine P183.callV (pc1 := 56) LS183.1 (wd hw (k := 18) rfl) (wd hw (k := 19) rfl) (wd hw (k := 21) rfl) (wd hw (k := 20) rfl) (notFace_of_selects (args := #[]) (mvT P183.hz (wd hw (k := 21) rfl))) (by decide) (W.MetN.pay (W := 5) (c_ch l Z a0 hw lx lt lk 4 10 (by decide) own_f_prop (by decide) h183 LS183 (P183.extZ EZ all0) zc fm US) P183 (wd hw (k := 22) rfl) (wd hw (k := 6) rfl) (by decide) (by decide)) (argsL := [(.int (Int32.ofNat 4))]) (st0 := [(.int (4 : Int32)), (.ref x175), (.ref x175), (.ref x174), (.ref x174)]) (lenOf pd_I_R_C rfl) rfl rfl (Nat.le_of_eq rfl) (by rw [hml]; rfl) (by decide) (by decide) (W.Pure.ok P183.chv) d1_53 rfl ?_
    intro v184 T184 h184 L184 q184 P184
    obtain ⟨rfl, rfl, rfl⟩ := q184
    show W.Go p.tables e below _ (T184.setTop (mkF m 56 #[.val (.int q), .val (.int c1), .val (.ref lx)] [(.int (own_f_prop 4)), (.int (4 : Int32)), (.ref x175), (.ref x175), (.ref x174), (.ref x174)]))
    refine P184.stCg (pc1 := 57) (x := (own_f_prop 4)) G183 (i := 4) (by decide) (Or.inr (by rw [g175]; exact P174.sz)) (W.Arg.safe P184.al G183 (by decide)) d1_56 rfl ?_
    intro T185 h185 P185 W185 G185
    have Ex185 := Ex183.wr W185
    have Fv185 := Fv183.other W185 (Or.inl hne175)
    have Fc185 := Fc183.other W185 (Or.inl hne175)
    have Sx185 := Safe.wr W185 (W.Arg.safe P184.al G183 (by decide)) P184.chv Sx183
    have LS185 := LS183.other W185 hxa175 hta175
    refine W.g_dup (pc1 := 58) P185.q d1_57 rfl rfl ?_
    refine W.g_iconst (pc1 := 59) (v := (5 : Int32)) P185.q d1_58 (by decide) rfl ?_
    refine W.g_aloadN (pc1 := 60) P185.q d1_59 rfl rfl rfl ?_
    refine W.g_iconst (pc1 := 61) (v := (5 : Int32)) P185.q d1_60 (by decide) rfl ?_
    show W.Go p.tables e below _ (T185.setTop (mkF m 61 #[.val (.int q), .val (.int c1), .val (.ref lx)] [(.int (Int32.ofNat 5)), (.ref lx), (.int (5 : Int32)), (.ref x175), (.ref x175), (.ref x174), (.ref x174)]))
    refine P185.callV (pc1 := 64) LS185.1 (wd hw (k := 18) rfl) (wd hw (k := 19) rfl) (wd hw (k := 21) rfl) (wd hw (k := 20) rfl) (notFace_of_selects (args := #[]) (mvT P185.hz (wd hw (k := 21) rfl))) (by decide) (W.MetN.pay (W := 5) (c_ch l Z a0 hw lx lt lk 5 10 (by decide) own_f_prop (by decide) h185 LS185 (P185.extZ EZ all0) zc fm US) P185 (wd hw (k := 22) rfl) (wd hw (k := 6) rfl) (by decide) (by decide)) (argsL := [(.int (Int32.ofNat 5))]) (st0 := [(.int (5 : Int32)), (.ref x175), (.ref x175), (.ref x174), (.ref x174)]) (lenOf pd_I_R_C rfl) rfl rfl (Nat.le_of_eq rfl) (by rw [hml]; rfl) (by decide) (by decide) (W.Pure.ok P185.chv) d1_61 rfl ?_
    intro v186 T186 h186 L186 q186 P186
    obtain ⟨rfl, rfl, rfl⟩ := q186
    show W.Go p.tables e below _ (T186.setTop (mkF m 64 #[.val (.int q), .val (.int c1), .val (.ref lx)] [(.int (own_f_prop 5)), (.int (5 : Int32)), (.ref x175), (.ref x175), (.ref x174), (.ref x174)]))
    refine P186.stCg (pc1 := 65) (x := (own_f_prop 5)) G185 (i := 5) (by decide) (Or.inr (by rw [g175]; exact P174.sz)) (W.Arg.safe P186.al G185 (by decide)) d1_64 rfl ?_
    intro T187 h187 P187 W187 G187
    have Ex187 := Ex185.wr W187
    have Fv187 := Fv185.other W187 (Or.inl hne175)
    have Fc187 := Fc185.other W187 (Or.inl hne175)
    have Sx187 := Safe.wr W187 (W.Arg.safe P186.al G185 (by decide)) P186.chv Sx185
    have LS187 := LS185.other W187 hxa175 hta175
    refine W.g_dup (pc1 := 66) P187.q d1_65 rfl rfl ?_
    refine W.g_bipush (pc1 := 68) (v := (6 : Int32)) P187.q d1_66 (by decide) rfl ?_
    refine W.g_aloadN (pc1 := 69) P187.q d1_68 rfl rfl rfl ?_
    refine W.g_bipush (pc1 := 71) (v := (6 : Int32)) P187.q d1_69 (by decide) rfl ?_
    show W.Go p.tables e below _ (T187.setTop (mkF m 71 #[.val (.int q), .val (.int c1), .val (.ref lx)] [(.int (Int32.ofNat 6)), (.ref lx), (.int (6 : Int32)), (.ref x175), (.ref x175), (.ref x174), (.ref x174)]))
    refine P187.callV (pc1 := 74) LS187.1 (wd hw (k := 18) rfl) (wd hw (k := 19) rfl) (wd hw (k := 21) rfl) (wd hw (k := 20) rfl) (notFace_of_selects (args := #[]) (mvT P187.hz (wd hw (k := 21) rfl))) (by decide) (W.MetN.pay (W := 5) (c_ch l Z a0 hw lx lt lk 6 10 (by decide) own_f_prop (by decide) h187 LS187 (P187.extZ EZ all0) zc fm US) P187 (wd hw (k := 22) rfl) (wd hw (k := 6) rfl) (by decide) (by decide)) (argsL := [(.int (Int32.ofNat 6))]) (st0 := [(.int (6 : Int32)), (.ref x175), (.ref x175), (.ref x174), (.ref x174)]) (lenOf pd_I_R_C rfl) rfl rfl (Nat.le_of_eq rfl) (by rw [hml]; rfl) (by decide) (by decide) (W.Pure.ok P187.chv) d1_71 rfl ?_
    intro v188 T188 h188 L188 q188 P188
    obtain ⟨rfl, rfl, rfl⟩ := q188
    show W.Go p.tables e below _ (T188.setTop (mkF m 74 #[.val (.int q), .val (.int c1), .val (.ref lx)] [(.int (own_f_prop 6)), (.int (6 : Int32)), (.ref x175), (.ref x175), (.ref x174), (.ref x174)]))
    refine P188.stCg (pc1 := 75) (x := (own_f_prop 6)) G187 (i := 6) (by decide) (Or.inr (by rw [g175]; exact P174.sz)) (W.Arg.safe P188.al G187 (by decide)) d1_74 rfl ?_
    intro T189 h189 P189 W189 G189
    have Ex189 := Ex187.wr W189
    have Fv189 := Fv187.other W189 (Or.inl hne175)
    have Fc189 := Fc187.other W189 (Or.inl hne175)
    have Sx189 := Safe.wr W189 (W.Arg.safe P188.al G187 (by decide)) P188.chv Sx187
    have LS189 := LS187.other W189 hxa175 hta175
    refine W.g_dup (pc1 := 76) P189.q d1_75 rfl rfl ?_
    refine W.g_bipush (pc1 := 78) (v := (7 : Int32)) P189.q d1_76 (by decide) rfl ?_
    refine W.g_aloadN (pc1 := 79) P189.q d1_78 rfl rfl rfl ?_
    refine W.g_bipush (pc1 := 81) (v := (7 : Int32)) P189.q d1_79 (by decide) rfl ?_
    show W.Go p.tables e below _ (T189.setTop (mkF m 81 #[.val (.int q), .val (.int c1), .val (.ref lx)] [(.int (Int32.ofNat 7)), (.ref lx), (.int (7 : Int32)), (.ref x175), (.ref x175), (.ref x174), (.ref x174)]))
    refine P189.callV (pc1 := 84) LS189.1 (wd hw (k := 18) rfl) (wd hw (k := 19) rfl) (wd hw (k := 21) rfl) (wd hw (k := 20) rfl) (notFace_of_selects (args := #[]) (mvT P189.hz (wd hw (k := 21) rfl))) (by decide) (W.MetN.pay (W := 5) (c_ch l Z a0 hw lx lt lk 7 10 (by decide) own_f_prop (by decide) h189 LS189 (P189.extZ EZ all0) zc fm US) P189 (wd hw (k := 22) rfl) (wd hw (k := 6) rfl) (by decide) (by decide)) (argsL := [(.int (Int32.ofNat 7))]) (st0 := [(.int (7 : Int32)), (.ref x175), (.ref x175), (.ref x174), (.ref x174)]) (lenOf pd_I_R_C rfl) rfl rfl (Nat.le_of_eq rfl) (by rw [hml]; rfl) (by decide) (by decide) (W.Pure.ok P189.chv) d1_81 rfl ?_
    intro v190 T190 h190 L190 q190 P190
    obtain ⟨rfl, rfl, rfl⟩ := q190
    show W.Go p.tables e below _ (T190.setTop (mkF m 84 #[.val (.int q), .val (.int c1), .val (.ref lx)] [(.int (own_f_prop 7)), (.int (7 : Int32)), (.ref x175), (.ref x175), (.ref x174), (.ref x174)]))
    refine P190.stCg (pc1 := 85) (x := (own_f_prop 7)) G189 (i := 7) (by decide) (Or.inr (by rw [g175]; exact P174.sz)) (W.Arg.safe P190.al G189 (by decide)) d1_84 rfl ?_
    intro T191 h191 P191 W191 G191
    have Ex191 := Ex189.wr W191
    have Fv191 := Fv189.other W191 (Or.inl hne175)
    have Fc191 := Fc189.other W191 (Or.inl hne175)
    have Sx191 := Safe.wr W191 (W.Arg.safe P190.al G189 (by decide)) P190.chv Sx189
    have LS191 := LS189.other W191 hxa175 hta175
    refine W.g_dup (pc1 := 86) P191.q d1_85 rfl rfl ?_
    refine W.g_bipush (pc1 := 88) (v := (8 : Int32)) P191.q d1_86 (by decide) rfl ?_
    refine W.g_aloadN (pc1 := 89) P191.q d1_88 rfl rfl rfl ?_
    refine W.g_bipush (pc1 := 91) (v := (8 : Int32)) P191.q d1_89 (by decide) rfl ?_
    show W.Go p.tables e below _ (T191.setTop (mkF m 91 #[.val (.int q), .val (.int c1), .val (.ref lx)] [(.int (Int32.ofNat 8)), (.ref lx), (.int (8 : Int32)), (.ref x175), (.ref x175), (.ref x174), (.ref x174)]))
    refine P191.callV (pc1 := 94) LS191.1 (wd hw (k := 18) rfl) (wd hw (k := 19) rfl) (wd hw (k := 21) rfl) (wd hw (k := 20) rfl) (notFace_of_selects (args := #[]) (mvT P191.hz (wd hw (k := 21) rfl))) (by decide) (W.MetN.pay (W := 5) (c_ch l Z a0 hw lx lt lk 8 10 (by decide) own_f_prop (by decide) h191 LS191 (P191.extZ EZ all0) zc fm US) P191 (wd hw (k := 22) rfl) (wd hw (k := 6) rfl) (by decide) (by decide)) (argsL := [(.int (Int32.ofNat 8))]) (st0 := [(.int (8 : Int32)), (.ref x175), (.ref x175), (.ref x174), (.ref x174)]) (lenOf pd_I_R_C rfl) rfl rfl (Nat.le_of_eq rfl) (by rw [hml]; rfl) (by decide) (by decide) (W.Pure.ok P191.chv) d1_91 rfl ?_
    intro v192 T192 h192 L192 q192 P192
    obtain ⟨rfl, rfl, rfl⟩ := q192
    show W.Go p.tables e below _ (T192.setTop (mkF m 94 #[.val (.int q), .val (.int c1), .val (.ref lx)] [(.int (own_f_prop 8)), (.int (8 : Int32)), (.ref x175), (.ref x175), (.ref x174), (.ref x174)]))
    refine P192.stCg (pc1 := 95) (x := (own_f_prop 8)) G191 (i := 8) (by decide) (Or.inr (by rw [g175]; exact P174.sz)) (W.Arg.safe P192.al G191 (by decide)) d1_94 rfl ?_
    intro T193 h193 P193 W193 G193
    have Ex193 := Ex191.wr W193
    have Fv193 := Fv191.other W193 (Or.inl hne175)
    have Fc193 := Fc191.other W193 (Or.inl hne175)
    have Sx193 := Safe.wr W193 (W.Arg.safe P192.al G191 (by decide)) P192.chv Sx191
    have LS193 := LS191.other W193 hxa175 hta175
    have VL193 : Arv Z h193 x175 k175 .char 9 (([(own_f_prop 0), (own_f_prop 1), (own_f_prop 2), (own_f_prop 3), (own_f_prop 4), (own_f_prop 5), (own_f_prop 6), (own_f_prop 7), (own_f_prop 8)] : List Int32).map Value.int) (.int 0) := W.Arg.list G193 rfl (fun i hi => match i, hi with | 0, _ => own_narc ((own_b_prop 0 (by decide))).ch | 1, _ => own_narc ((own_b_prop 1 (by decide))).ch | 2, _ => own_narc ((own_b_prop 2 (by decide))).ch | 3, _ => own_narc ((own_b_prop 3 (by decide))).ch | 4, _ => own_narc ((own_b_prop 4 (by decide))).ch | 5, _ => own_narc ((own_b_prop 5 (by decide))).ch | 6, _ => own_narc ((own_b_prop 6 (by decide))).ch | 7, _ => own_narc ((own_b_prop 7 (by decide))).ch | 8, _ => own_narc ((own_b_prop 8 (by decide))).ch | k + 9, hk => absurd hk (Nat.not_lt.mpr (Nat.le_add_left _ _)))
    have hp193 : ∀ c ∈ ([(own_f_prop 0), (own_f_prop 1), (own_f_prop 2), (own_f_prop 3), (own_f_prop 4), (own_f_prop 5), (own_f_prop 6), (own_f_prop 7), (own_f_prop 8)] : List Int32), ¬ c < 0 ∧ ¬ (255 : Int32) < c := (List.forall_mem_cons.mpr ⟨(own_b_prop 0 (by decide)), (List.forall_mem_cons.mpr ⟨(own_b_prop 1 (by decide)), (List.forall_mem_cons.mpr ⟨(own_b_prop 2 (by decide)), (List.forall_mem_cons.mpr ⟨(own_b_prop 3 (by decide)), (List.forall_mem_cons.mpr ⟨(own_b_prop 4 (by decide)), (List.forall_mem_cons.mpr ⟨(own_b_prop 5 (by decide)), (List.forall_mem_cons.mpr ⟨(own_b_prop 6 (by decide)), (List.forall_mem_cons.mpr ⟨(own_b_prop 7 (by decide)), (List.forall_mem_cons.mpr ⟨(own_b_prop 8 (by decide)), (fun c hc => absurd hc (List.not_mem_nil))⟩)⟩)⟩)⟩)⟩)⟩)⟩)⟩)⟩)
    refine P193.callN (pc1 := 98) rfl (wd hw (k := 43) rfl) (wd hw (k := 44) rfl) (wd hw (k := 45) rfl) (by decide) (StrChars.Road.backV (W := 1) P193.hz hws (kI := 4) (wd hw (k := 7) rfl) (cs := [(own_f_prop 0), (own_f_prop 1), (own_f_prop 2), (own_f_prop 3), (own_f_prop 4), (own_f_prop 5), (own_f_prop 6), (own_f_prop 7), (own_f_prop 8)]) (bs := ([(own_f_prop 0), (own_f_prop 1), (own_f_prop 2), (own_f_prop 3), (own_f_prop 4), (own_f_prop 5), (own_f_prop 6), (own_f_prop 7), (own_f_prop 8)]).map (fun c => c.toInt8.toInt32)) (n := 9) (n0 := h0.size) (by rw [g174]; exact P1.sz) P193.sz Ex193 Fv193 Fc193 VL193 (US.2.1.ext (P193.extZ EZ all0)) US.1 rfl rfl (by decide) (by decide) hp193 rfl (by decide) (by decide)) (argsL := [(.ref x175)]) (st0 := [(.ref x174)]) (lenOf pd_AC_R_V rfl) rfl rfl (Nat.le_of_eq rfl) (by rw [hml]; rfl) (by decide) (by decide) (fun _ _ _ q => ⟨W.Frw.of_fr q.2.1 (Nat.le_refl _), CHr.keep q.2.2.1 (sfS Sx193 sf0) P193.chv⟩) d1_95 rfl ?_
    intro v194 T194 h194 L194 q194 P194
    obtain ⟨rfl, f194, K194, A194, C194, t194, k194, b194, c194, d194, F194, V194⟩ := q194
    show W.Go p.tables e below _ (T194.setTop (mkF m 98 #[.val (.int q), .val (.int c1), .val (.ref lx)] [(.ref x174)]))
    have S194 : W.Str Z h194 x174 [(own_f_prop 0), (own_f_prop 1), (own_f_prop 2), (own_f_prop 3), (own_f_prop 4), (own_f_prop 5), (own_f_prop 6), (own_f_prop 7), (own_f_prop 8)] := ⟨t194, k194, _, _, _, A194, F194, C194, V194, StrChars.Road.codOf (cs := [(own_f_prop 0), (own_f_prop 1), (own_f_prop 2), (own_f_prop 3), (own_f_prop 4), (own_f_prop 5), (own_f_prop 6), (own_f_prop 7), (own_f_prop 8)]) (n := 9) rfl (fun c hc => (hp193 c hc).2), fun c hc => ⟨(hp193 c hc).1, own_up (hp193 c hc).2⟩, Nat.le_of_ble_eq_true rfl⟩
    exact P194.retAW hEL hlk hret rfl rfl rfl d1_98 (by decide) (by decide) ⟨x174, [(own_f_prop 0), (own_f_prop 1), (own_f_prop 2), (own_f_prop 3), (own_f_prop 4), (own_f_prop 5), (own_f_prop 6), (own_f_prop 7), (own_f_prop 8)], rfl, P194.fr, P194.ext0, S194⟩
def own_f_ratio (i : Nat) : Int32 := ([114, 97, 116, 105, 111] : List Int32).getD i 0
theorem own_b_ratio : ∀ i, i < 5 → By (own_f_ratio i) := fun i hi => match i, hi with | 0, _ => ⟨by decide, by decide⟩ | 1, _ => ⟨by decide, by decide⟩ | 2, _ => ⟨by decide, by decide⟩ | 3, _ => ⟨by decide, by decide⟩ | 4, _ => ⟨by decide, by decide⟩ | k + 5, hk => absurd hk (by omega)
set_option maxRecDepth 65536 in
set_option maxHeartbeats 40000000 in
theorem c_ratio (l : Launch) (Z : State) (a0 : Array Value) (hw : ∀ d ∈ tables_1, d.before a0 Z = true) (wS : ∀ a ∈ Bundle.stringAtoms, a.before a0 Z = true) (hEL : EW Z a0 ownEL) (q c1 : Int32) (hc1 : By c1) (h0 : Heap) (EZ : Ext Z.heap h0) (zc : Int32) (fm : Value) (US : UST Z zc fm) : W.MetW l Z ownEL (⟨"com/example/numerary/numerary/ScoringOfCodePinLaw", "ratio", "(IC)Ljava/lang/String;"⟩ : MethodName) method_4_code 3 ((Option.some (Jvm.ClassFile.FieldType.object "java/lang/String"))) [] ({ frames := 7, cells := 12, slots := 200, locals := 130 } : Room) #[.int q, .int c1] [] h0 (QM Z h0) := by
  refine W.MetW.mk (ls0 := #[.val (.int q), .val (.int c1), .unset]) [] (plainFor_of_name pn_com_example_numerary_numerary_ScoringOfCodePinLaw) (fun m => by first | (simp [entryFrame, mkF, argsToLocals, Value.category]; done) | rfl) ?_
  intro p e s m below meth c s₁ hml hret hnm hlk hss P0
  show W.Go p.tables e below _ (s₁.setTop (mkF m 0 #[.val (.int q), .val (.int c1), .unset] []))
  have hws : ∀ d ∈ StrChars.Road.words, d.before a0 Z = true := fun d hd => hw d (own_words d hd)
  refine P0.ldcR (pc1 := 2) (n := 20) (vs := [.int 114, .int 97, .int 116, .int 105, .int 111]) (z := 5) (wd hw (k := 102) rfl) wS hEL (by decide) ⟨by decide, by decide +kernel⟩ (by decide) (by decide) (by decide) (by decide) (by decide) (by decide) d19_0 rfl ?_
  intro lx T1 h1 lt lk P1 E1 R1 A1 C1 F1 V1 N1 L1
  have LS : Lt Z h1 lx lt lk 5 own_f_ratio := ⟨A1, F1, C1, W.Arg.of 5 V1 rfl (by decide) (fun i hi => match i, hi with | 0, _ => rfl | 1, _ => rfl | 2, _ => rfl | 3, _ => rfl | 4, _ => rfl | k + 5, hk => absurd hk (by omega)), own_b_ratio⟩
  refine W.g_astoreN (pc1 := 3) (ls2 := #[.val (.int q), .val (.int c1), .val (.ref lx)]) P1.q d19_2 rfl rfl rfl ?_
  refine W.g_iloadN (pc1 := 4) P1.q d19_3 rfl rfl ?_
  refine W.g_iconst (pc1 := 5) (v := (5 : Int32)) P1.q d19_4 (by decide) rfl ?_
  refine W.g_cmp (pc1 := 51) (pc2 := 8) P1.q d19_5 (by decide) rfl rfl (fun (h1q : ¬ q = (5 : Int32)) => ?_) (fun (h1q : ¬ (¬ q = (5 : Int32))) => ?_)
  · refine P1.newO (pc1 := 54) (wd hw (k := 13) rfl) (wd hw (k := 7) rfl) (wd hw (k := 6) rfl) (by decide) (by decide) d19_51 rfl ?_
    intro T195 h195 x195 g195 P195 E195 A195 D195 U195
    refine W.g_dup (pc1 := 55) P195.q d19_54 rfl rfl ?_
    refine W.g_iconst (pc1 := 56) (v := (5 : Int32)) P195.q d19_55 (by decide) rfl ?_
    have Fv195 : Fld Z h195 x195 "java/lang/String" "value" "[B" .null := D195 (Or.inr (wd hw (k := 9) rfl)) (ty := .array .byte) (by decide)
    have Fc195 : Fld Z h195 x195 "java/lang/String" "coder" "B" (.int 0) := D195 (Or.inr (wd hw (k := 10) rfl)) (ty := .byte) (by decide)
    have Sx195 := Safe.ext (EL := ownEL) E195 P1.chv (Safe.new (Nat.le_of_eq g195.symm))
    refine P195.newP (pc1 := 58) (cap := 5) (wd hw (k := 14) rfl) (by decide) (by decide) (by decide) (by decide) (by decide) d19_56 rfl ?_
    intro T196 h196 x196 k196 g196 P196 E196 V196
    have hne196 : x195 ≠ x196 := Nat.ne_of_lt (by rw [g196]; exact A195.lt)
    have Ex196 := A195.ext E196
    have Fv196 := Fv195.ext E196
    have Fc196 := Fc195.ext E196
    have Sx196 := Safe.ext E196 P195.chv Sx195
    have G196 : W.Arg Z h196 x196 k196 .char 5 (fun _ => 0) := W.Arg.new (by decide) V196
    have LS196 := (LS.ext E195).ext E196
    have hxa196 : lx ≠ x196 := Nat.ne_of_lt (by rw [g196]; exact (LS.ext E195).1.lt)
    have hta196 : lt ≠ x196 := Nat.ne_of_lt (by rw [g196]; exact (LS.ext E195).2.2.2.1.lt)
    refine W.g_dup (pc1 := 59) P196.q d19_58 rfl rfl ?_
    refine W.g_iconst (pc1 := 60) (v := (0 : Int32)) P196.q d19_59 (by decide) rfl ?_
    refine W.g_aloadN (pc1 := 61) P196.q d19_60 rfl rfl rfl ?_
    refine W.g_iconst (pc1 := 62) (v := (0 : Int32)) P196.q d19_61 (by decide) rfl ?_
    refine W.g_iloadN (pc1 := 63) P196.q d19_62 rfl rfl ?_
    refine W.g_iloadN (pc1 := 64) P196.q d19_63 rfl rfl ?_
    show W.Go p.tables e below _ (T196.setTop (mkF m 64 #[.val (.int q), .val (.int c1), .val (.ref lx)] [(.int c1), (.int q), (.int (Int32.ofNat 0)), (.ref lx), (.int (0 : Int32)), (.ref x196), (.ref x196), (.ref x195), (.ref x195)]))
    refine P196.callS (pc1 := 67) (wd hw (k := 15) rfl) (wd hw (k := 16) rfl) (wd hw (k := 3) rfl) (wd hw (k := 17) rfl) (by decide) (W.MetN.pay (W := 5) (c_chx l Z a0 hw lx lt lk 0 5 (by decide) own_f_ratio (by decide) q c1 hc1 h196 LS196 (P196.extZ EZ all0) zc fm US) P196 (wd hw (k := 17) rfl) (wd hw (k := 3) rfl) (by decide) (by decide)) (argsL := [(.ref lx), (.int (Int32.ofNat 0)), (.int q), (.int c1)]) (st0 := [(.int (0 : Int32)), (.ref x196), (.ref x196), (.ref x195), (.ref x195)]) (lenOf pd_Ljava_lang_StringIIC_R_C rfl) rfl rfl (Nat.le_of_eq rfl) (by rw [hml]; rfl) (by decide) (by decide) (QBy.ok P196.chv) d19_64 rfl ?_
    intro v197 T197 h197 L197 q197 P197
    obtain ⟨rfl, rfl, r197, rfl, hr197⟩ := q197
    show W.Go p.tables e below _ (T197.setTop (mkF m 67 #[.val (.int q), .val (.int c1), .val (.ref lx)] [(.int r197), (.int (0 : Int32)), (.ref x196), (.ref x196), (.ref x195), (.ref x195)]))
    refine P197.stCg (pc1 := 68) (x := r197) G196 (i := 0) (by decide) (Or.inr (by rw [g196]; exact P195.sz)) (W.Arg.safe P197.al G196 (by decide)) d19_67 rfl ?_
    intro T198 h198 P198 W198 G198
    have Ex198 := Ex196.wr W198
    have Fv198 := Fv196.other W198 (Or.inl hne196)
    have Fc198 := Fc196.other W198 (Or.inl hne196)
    have Sx198 := Safe.wr W198 (W.Arg.safe P197.al G196 (by decide)) P197.chv Sx196
    have LS198 := LS196.other W198 hxa196 hta196
    refine W.g_dup (pc1 := 69) P198.q d19_68 rfl rfl ?_
    refine W.g_iconst (pc1 := 70) (v := (1 : Int32)) P198.q d19_69 (by decide) rfl ?_
    refine W.g_aloadN (pc1 := 71) P198.q d19_70 rfl rfl rfl ?_
    refine W.g_iconst (pc1 := 72) (v := (1 : Int32)) P198.q d19_71 (by decide) rfl ?_
    refine W.g_iloadN (pc1 := 73) P198.q d19_72 rfl rfl ?_
    refine W.g_iloadN (pc1 := 74) P198.q d19_73 rfl rfl ?_
    show W.Go p.tables e below _ (T198.setTop (mkF m 74 #[.val (.int q), .val (.int c1), .val (.ref lx)] [(.int c1), (.int q), (.int (Int32.ofNat 1)), (.ref lx), (.int (1 : Int32)), (.ref x196), (.ref x196), (.ref x195), (.ref x195)]))
    refine P198.callS (pc1 := 77) (wd hw (k := 15) rfl) (wd hw (k := 16) rfl) (wd hw (k := 3) rfl) (wd hw (k := 17) rfl) (by decide) (W.MetN.pay (W := 5) (c_chx l Z a0 hw lx lt lk 1 5 (by decide) own_f_ratio (by decide) q c1 hc1 h198 LS198 (P198.extZ EZ all0) zc fm US) P198 (wd hw (k := 17) rfl) (wd hw (k := 3) rfl) (by decide) (by decide)) (argsL := [(.ref lx), (.int (Int32.ofNat 1)), (.int q), (.int c1)]) (st0 := [(.int (1 : Int32)), (.ref x196), (.ref x196), (.ref x195), (.ref x195)]) (lenOf pd_Ljava_lang_StringIIC_R_C rfl) rfl rfl (Nat.le_of_eq rfl) (by rw [hml]; rfl) (by decide) (by decide) (QBy.ok P198.chv) d19_74 rfl ?_
    intro v199 T199 h199 L199 q199 P199
    obtain ⟨rfl, rfl, r199, rfl, hr199⟩ := q199
    show W.Go p.tables e below _ (T199.setTop (mkF m 77 #[.val (.int q), .val (.int c1), .val (.ref lx)] [(.int r199), (.int (1 : Int32)), (.ref x196), (.ref x196), (.ref x195), (.ref x195)]))
    refine P199.stCg (pc1 := 78) (x := r199) G198 (i := 1) (by decide) (Or.inr (by rw [g196]; exact P195.sz)) (W.Arg.safe P199.al G198 (by decide)) d19_77 rfl ?_
    intro T200 h200 P200 W200 G200
    have Ex200 := Ex198.wr W200
    have Fv200 := Fv198.other W200 (Or.inl hne196)
    have Fc200 := Fc198.other W200 (Or.inl hne196)
    have Sx200 := Safe.wr W200 (W.Arg.safe P199.al G198 (by decide)) P199.chv Sx198
    have LS200 := LS198.other W200 hxa196 hta196
    refine W.g_dup (pc1 := 79) P200.q d19_78 rfl rfl ?_
    refine W.g_iconst (pc1 := 80) (v := (2 : Int32)) P200.q d19_79 (by decide) rfl ?_
    refine W.g_aloadN (pc1 := 81) P200.q d19_80 rfl rfl rfl ?_
    refine W.g_iconst (pc1 := 82) (v := (2 : Int32)) P200.q d19_81 (by decide) rfl ?_
    refine W.g_iloadN (pc1 := 83) P200.q d19_82 rfl rfl ?_
    refine W.g_iloadN (pc1 := 84) P200.q d19_83 rfl rfl ?_
    show W.Go p.tables e below _ (T200.setTop (mkF m 84 #[.val (.int q), .val (.int c1), .val (.ref lx)] [(.int c1), (.int q), (.int (Int32.ofNat 2)), (.ref lx), (.int (2 : Int32)), (.ref x196), (.ref x196), (.ref x195), (.ref x195)]))
    refine P200.callS (pc1 := 87) (wd hw (k := 15) rfl) (wd hw (k := 16) rfl) (wd hw (k := 3) rfl) (wd hw (k := 17) rfl) (by decide) (W.MetN.pay (W := 5) (c_chx l Z a0 hw lx lt lk 2 5 (by decide) own_f_ratio (by decide) q c1 hc1 h200 LS200 (P200.extZ EZ all0) zc fm US) P200 (wd hw (k := 17) rfl) (wd hw (k := 3) rfl) (by decide) (by decide)) (argsL := [(.ref lx), (.int (Int32.ofNat 2)), (.int q), (.int c1)]) (st0 := [(.int (2 : Int32)), (.ref x196), (.ref x196), (.ref x195), (.ref x195)]) (lenOf pd_Ljava_lang_StringIIC_R_C rfl) rfl rfl (Nat.le_of_eq rfl) (by rw [hml]; rfl) (by decide) (by decide) (QBy.ok P200.chv) d19_84 rfl ?_
    intro v201 T201 h201 L201 q201 P201
    obtain ⟨rfl, rfl, r201, rfl, hr201⟩ := q201
    show W.Go p.tables e below _ (T201.setTop (mkF m 87 #[.val (.int q), .val (.int c1), .val (.ref lx)] [(.int r201), (.int (2 : Int32)), (.ref x196), (.ref x196), (.ref x195), (.ref x195)]))
    refine P201.stCg (pc1 := 88) (x := r201) G200 (i := 2) (by decide) (Or.inr (by rw [g196]; exact P195.sz)) (W.Arg.safe P201.al G200 (by decide)) d19_87 rfl ?_
    intro T202 h202 P202 W202 G202
    have Ex202 := Ex200.wr W202
    have Fv202 := Fv200.other W202 (Or.inl hne196)
    have Fc202 := Fc200.other W202 (Or.inl hne196)
    have Sx202 := Safe.wr W202 (W.Arg.safe P201.al G200 (by decide)) P201.chv Sx200
    have LS202 := LS200.other W202 hxa196 hta196
    refine W.g_dup (pc1 := 89) P202.q d19_88 rfl rfl ?_
    refine W.g_iconst (pc1 := 90) (v := (3 : Int32)) P202.q d19_89 (by decide) rfl ?_
    refine W.g_aloadN (pc1 := 91) P202.q d19_90 rfl rfl rfl ?_
    refine W.g_iconst (pc1 := 92) (v := (3 : Int32)) P202.q d19_91 (by decide) rfl ?_
    refine W.g_iloadN (pc1 := 93) P202.q d19_92 rfl rfl ?_
    refine W.g_iloadN (pc1 := 94) P202.q d19_93 rfl rfl ?_
    show W.Go p.tables e below _ (T202.setTop (mkF m 94 #[.val (.int q), .val (.int c1), .val (.ref lx)] [(.int c1), (.int q), (.int (Int32.ofNat 3)), (.ref lx), (.int (3 : Int32)), (.ref x196), (.ref x196), (.ref x195), (.ref x195)]))
    refine P202.callS (pc1 := 97) (wd hw (k := 15) rfl) (wd hw (k := 16) rfl) (wd hw (k := 3) rfl) (wd hw (k := 17) rfl) (by decide) (W.MetN.pay (W := 5) (c_chx l Z a0 hw lx lt lk 3 5 (by decide) own_f_ratio (by decide) q c1 hc1 h202 LS202 (P202.extZ EZ all0) zc fm US) P202 (wd hw (k := 17) rfl) (wd hw (k := 3) rfl) (by decide) (by decide)) (argsL := [(.ref lx), (.int (Int32.ofNat 3)), (.int q), (.int c1)]) (st0 := [(.int (3 : Int32)), (.ref x196), (.ref x196), (.ref x195), (.ref x195)]) (lenOf pd_Ljava_lang_StringIIC_R_C rfl) rfl rfl (Nat.le_of_eq rfl) (by rw [hml]; rfl) (by decide) (by decide) (QBy.ok P202.chv) d19_94 rfl ?_
    intro v203 T203 h203 L203 q203 P203
    obtain ⟨rfl, rfl, r203, rfl, hr203⟩ := q203
    show W.Go p.tables e below _ (T203.setTop (mkF m 97 #[.val (.int q), .val (.int c1), .val (.ref lx)] [(.int r203), (.int (3 : Int32)), (.ref x196), (.ref x196), (.ref x195), (.ref x195)]))
    refine P203.stCg (pc1 := 98) (x := r203) G202 (i := 3) (by decide) (Or.inr (by rw [g196]; exact P195.sz)) (W.Arg.safe P203.al G202 (by decide)) d19_97 rfl ?_
    intro T204 h204 P204 W204 G204
    have Ex204 := Ex202.wr W204
    have Fv204 := Fv202.other W204 (Or.inl hne196)
    have Fc204 := Fc202.other W204 (Or.inl hne196)
    have Sx204 := Safe.wr W204 (W.Arg.safe P203.al G202 (by decide)) P203.chv Sx202
    have LS204 := LS202.other W204 hxa196 hta196
    refine W.g_dup (pc1 := 99) P204.q d19_98 rfl rfl ?_
    refine W.g_iconst (pc1 := 100) (v := (4 : Int32)) P204.q d19_99 (by decide) rfl ?_
    refine W.g_aloadN (pc1 := 101) P204.q d19_100 rfl rfl rfl ?_
    refine W.g_iconst (pc1 := 102) (v := (4 : Int32)) P204.q d19_101 (by decide) rfl ?_
    refine W.g_iloadN (pc1 := 103) P204.q d19_102 rfl rfl ?_
    refine W.g_iloadN (pc1 := 104) P204.q d19_103 rfl rfl ?_
    show W.Go p.tables e below _ (T204.setTop (mkF m 104 #[.val (.int q), .val (.int c1), .val (.ref lx)] [(.int c1), (.int q), (.int (Int32.ofNat 4)), (.ref lx), (.int (4 : Int32)), (.ref x196), (.ref x196), (.ref x195), (.ref x195)]))
    refine P204.callS (pc1 := 107) (wd hw (k := 15) rfl) (wd hw (k := 16) rfl) (wd hw (k := 3) rfl) (wd hw (k := 17) rfl) (by decide) (W.MetN.pay (W := 5) (c_chx l Z a0 hw lx lt lk 4 5 (by decide) own_f_ratio (by decide) q c1 hc1 h204 LS204 (P204.extZ EZ all0) zc fm US) P204 (wd hw (k := 17) rfl) (wd hw (k := 3) rfl) (by decide) (by decide)) (argsL := [(.ref lx), (.int (Int32.ofNat 4)), (.int q), (.int c1)]) (st0 := [(.int (4 : Int32)), (.ref x196), (.ref x196), (.ref x195), (.ref x195)]) (lenOf pd_Ljava_lang_StringIIC_R_C rfl) rfl rfl (Nat.le_of_eq rfl) (by rw [hml]; rfl) (by decide) (by decide) (QBy.ok P204.chv) d19_104 rfl ?_
    intro v205 T205 h205 L205 q205 P205
    obtain ⟨rfl, rfl, r205, rfl, hr205⟩ := q205
    show W.Go p.tables e below _ (T205.setTop (mkF m 107 #[.val (.int q), .val (.int c1), .val (.ref lx)] [(.int r205), (.int (4 : Int32)), (.ref x196), (.ref x196), (.ref x195), (.ref x195)]))
    refine P205.stCg (pc1 := 108) (x := r205) G204 (i := 4) (by decide) (Or.inr (by rw [g196]; exact P195.sz)) (W.Arg.safe P205.al G204 (by decide)) d19_107 rfl ?_
    intro T206 h206 P206 W206 G206
    have Ex206 := Ex204.wr W206
    have Fv206 := Fv204.other W206 (Or.inl hne196)
    have Fc206 := Fc204.other W206 (Or.inl hne196)
    have Sx206 := Safe.wr W206 (W.Arg.safe P205.al G204 (by decide)) P205.chv Sx204
    have LS206 := LS204.other W206 hxa196 hta196
    have VL206 : Arv Z h206 x196 k196 .char 5 (([r197, r199, r201, r203, r205] : List Int32).map Value.int) (.int 0) := W.Arg.list G206 rfl (fun i hi => match i, hi with | 0, _ => own_narc (hr197).ch | 1, _ => own_narc (hr199).ch | 2, _ => own_narc (hr201).ch | 3, _ => own_narc (hr203).ch | 4, _ => own_narc (hr205).ch | k + 5, hk => absurd hk (Nat.not_lt.mpr (Nat.le_add_left _ _)))
    have hp206 : ∀ c ∈ ([r197, r199, r201, r203, r205] : List Int32), ¬ c < 0 ∧ ¬ (255 : Int32) < c := (List.forall_mem_cons.mpr ⟨hr197, (List.forall_mem_cons.mpr ⟨hr199, (List.forall_mem_cons.mpr ⟨hr201, (List.forall_mem_cons.mpr ⟨hr203, (List.forall_mem_cons.mpr ⟨hr205, (fun c hc => absurd hc (List.not_mem_nil))⟩)⟩)⟩)⟩)⟩)
    refine P206.callN (pc1 := 111) rfl (wd hw (k := 43) rfl) (wd hw (k := 44) rfl) (wd hw (k := 45) rfl) (by decide) (StrChars.Road.backV (W := 1) P206.hz hws (kI := 4) (wd hw (k := 7) rfl) (cs := [r197, r199, r201, r203, r205]) (bs := ([r197, r199, r201, r203, r205]).map (fun c => c.toInt8.toInt32)) (n := 5) (n0 := h0.size) (by rw [g195]; exact P1.sz) P206.sz Ex206 Fv206 Fc206 VL206 (US.2.1.ext (P206.extZ EZ all0)) US.1 rfl rfl (by decide) (by decide) hp206 rfl (by decide) (by decide)) (argsL := [(.ref x196)]) (st0 := [(.ref x195)]) (lenOf pd_AC_R_V rfl) rfl rfl (Nat.le_of_eq rfl) (by rw [hml]; rfl) (by decide) (by decide) (fun _ _ _ q => ⟨W.Frw.of_fr q.2.1 (Nat.le_refl _), CHr.keep q.2.2.1 (sfS Sx206 sf0) P206.chv⟩) d19_108 rfl ?_
    intro v207 T207 h207 L207 q207 P207
    obtain ⟨rfl, f207, K207, A207, C207, t207, k207, b207, c207, d207, F207, V207⟩ := q207
    show W.Go p.tables e below _ (T207.setTop (mkF m 111 #[.val (.int q), .val (.int c1), .val (.ref lx)] [(.ref x195)]))
    have S207 : W.Str Z h207 x195 [r197, r199, r201, r203, r205] := ⟨t207, k207, _, _, _, A207, F207, C207, V207, StrChars.Road.codOf (cs := [r197, r199, r201, r203, r205]) (n := 5) rfl (fun c hc => (hp206 c hc).2), fun c hc => ⟨(hp206 c hc).1, own_up (hp206 c hc).2⟩, Nat.le_of_ble_eq_true rfl⟩
    exact P207.retAW hEL hlk hret rfl rfl rfl d19_111 (by decide) (by decide) ⟨x195, [r197, r199, r201, r203, r205], rfl, P207.fr, P207.ext0, S207⟩
  · refine P1.newO (pc1 := 11) (wd hw (k := 13) rfl) (wd hw (k := 7) rfl) (wd hw (k := 6) rfl) (by decide) (by decide) d19_8 rfl ?_
    intro T208 h208 x208 g208 P208 E208 A208 D208 U208
    refine W.g_dup (pc1 := 12) P208.q d19_11 rfl rfl ?_
    refine W.g_iconst (pc1 := 13) (v := (4 : Int32)) P208.q d19_12 (by decide) rfl ?_
    have Fv208 : Fld Z h208 x208 "java/lang/String" "value" "[B" .null := D208 (Or.inr (wd hw (k := 9) rfl)) (ty := .array .byte) (by decide)
    have Fc208 : Fld Z h208 x208 "java/lang/String" "coder" "B" (.int 0) := D208 (Or.inr (wd hw (k := 10) rfl)) (ty := .byte) (by decide)
    have Sx208 := Safe.ext (EL := ownEL) E208 P1.chv (Safe.new (Nat.le_of_eq g208.symm))
    refine P208.newP (pc1 := 15) (cap := 4) (wd hw (k := 14) rfl) (by decide) (by decide) (by decide) (by decide) (by decide) d19_13 rfl ?_
    intro T209 h209 x209 k209 g209 P209 E209 V209
    have hne209 : x208 ≠ x209 := Nat.ne_of_lt (by rw [g209]; exact A208.lt)
    have Ex209 := A208.ext E209
    have Fv209 := Fv208.ext E209
    have Fc209 := Fc208.ext E209
    have Sx209 := Safe.ext E209 P208.chv Sx208
    have G209 : W.Arg Z h209 x209 k209 .char 4 (fun _ => 0) := W.Arg.new (by decide) V209
    have LS209 := (LS.ext E208).ext E209
    have hxa209 : lx ≠ x209 := Nat.ne_of_lt (by rw [g209]; exact (LS.ext E208).1.lt)
    have hta209 : lt ≠ x209 := Nat.ne_of_lt (by rw [g209]; exact (LS.ext E208).2.2.2.1.lt)
    refine W.g_dup (pc1 := 16) P209.q d19_15 rfl rfl ?_
    refine W.g_iconst (pc1 := 17) (v := (0 : Int32)) P209.q d19_16 (by decide) rfl ?_
    refine W.g_aloadN (pc1 := 18) P209.q d19_17 rfl rfl rfl ?_
    refine W.g_iconst (pc1 := 19) (v := (0 : Int32)) P209.q d19_18 (by decide) rfl ?_
    show W.Go p.tables e below _ (T209.setTop (mkF m 19 #[.val (.int q), .val (.int c1), .val (.ref lx)] [(.int (Int32.ofNat 0)), (.ref lx), (.int (0 : Int32)), (.ref x209), (.ref x209), (.ref x208), (.ref x208)]))
    refine P209.callV (pc1 := 22) LS209.1 (wd hw (k := 18) rfl) (wd hw (k := 19) rfl) (wd hw (k := 21) rfl) (wd hw (k := 20) rfl) (notFace_of_selects (args := #[]) (mvT P209.hz (wd hw (k := 21) rfl))) (by decide) (W.MetN.pay (W := 5) (c_ch l Z a0 hw lx lt lk 0 5 (by decide) own_f_ratio (by decide) h209 LS209 (P209.extZ EZ all0) zc fm US) P209 (wd hw (k := 22) rfl) (wd hw (k := 6) rfl) (by decide) (by decide)) (argsL := [(.int (Int32.ofNat 0))]) (st0 := [(.int (0 : Int32)), (.ref x209), (.ref x209), (.ref x208), (.ref x208)]) (lenOf pd_I_R_C rfl) rfl rfl (Nat.le_of_eq rfl) (by rw [hml]; rfl) (by decide) (by decide) (W.Pure.ok P209.chv) d19_19 rfl ?_
    intro v210 T210 h210 L210 q210 P210
    obtain ⟨rfl, rfl, rfl⟩ := q210
    show W.Go p.tables e below _ (T210.setTop (mkF m 22 #[.val (.int q), .val (.int c1), .val (.ref lx)] [(.int (own_f_ratio 0)), (.int (0 : Int32)), (.ref x209), (.ref x209), (.ref x208), (.ref x208)]))
    refine P210.stCg (pc1 := 23) (x := (own_f_ratio 0)) G209 (i := 0) (by decide) (Or.inr (by rw [g209]; exact P208.sz)) (W.Arg.safe P210.al G209 (by decide)) d19_22 rfl ?_
    intro T211 h211 P211 W211 G211
    have Ex211 := Ex209.wr W211
    have Fv211 := Fv209.other W211 (Or.inl hne209)
    have Fc211 := Fc209.other W211 (Or.inl hne209)
    have Sx211 := Safe.wr W211 (W.Arg.safe P210.al G209 (by decide)) P210.chv Sx209
    have LS211 := LS209.other W211 hxa209 hta209
    refine W.g_dup (pc1 := 24) P211.q d19_23 rfl rfl ?_
    refine W.g_iconst (pc1 := 25) (v := (1 : Int32)) P211.q d19_24 (by decide) rfl ?_
    refine W.g_aloadN (pc1 := 26) P211.q d19_25 rfl rfl rfl ?_
    refine W.g_iconst (pc1 := 27) (v := (1 : Int32)) P211.q d19_26 (by decide) rfl ?_
    show W.Go p.tables e below _ (T211.setTop (mkF m 27 #[.val (.int q), .val (.int c1), .val (.ref lx)] [(.int (Int32.ofNat 1)), (.ref lx), (.int (1 : Int32)), (.ref x209), (.ref x209), (.ref x208), (.ref x208)]))
    refine P211.callV (pc1 := 30) LS211.1 (wd hw (k := 18) rfl) (wd hw (k := 19) rfl) (wd hw (k := 21) rfl) (wd hw (k := 20) rfl) (notFace_of_selects (args := #[]) (mvT P211.hz (wd hw (k := 21) rfl))) (by decide) (W.MetN.pay (W := 5) (c_ch l Z a0 hw lx lt lk 1 5 (by decide) own_f_ratio (by decide) h211 LS211 (P211.extZ EZ all0) zc fm US) P211 (wd hw (k := 22) rfl) (wd hw (k := 6) rfl) (by decide) (by decide)) (argsL := [(.int (Int32.ofNat 1))]) (st0 := [(.int (1 : Int32)), (.ref x209), (.ref x209), (.ref x208), (.ref x208)]) (lenOf pd_I_R_C rfl) rfl rfl (Nat.le_of_eq rfl) (by rw [hml]; rfl) (by decide) (by decide) (W.Pure.ok P211.chv) d19_27 rfl ?_
    intro v212 T212 h212 L212 q212 P212
    obtain ⟨rfl, rfl, rfl⟩ := q212
    show W.Go p.tables e below _ (T212.setTop (mkF m 30 #[.val (.int q), .val (.int c1), .val (.ref lx)] [(.int (own_f_ratio 1)), (.int (1 : Int32)), (.ref x209), (.ref x209), (.ref x208), (.ref x208)]))
    refine P212.stCg (pc1 := 31) (x := (own_f_ratio 1)) G211 (i := 1) (by decide) (Or.inr (by rw [g209]; exact P208.sz)) (W.Arg.safe P212.al G211 (by decide)) d19_30 rfl ?_
    intro T213 h213 P213 W213 G213
    have Ex213 := Ex211.wr W213
    have Fv213 := Fv211.other W213 (Or.inl hne209)
    have Fc213 := Fc211.other W213 (Or.inl hne209)
    have Sx213 := Safe.wr W213 (W.Arg.safe P212.al G211 (by decide)) P212.chv Sx211
    have LS213 := LS211.other W213 hxa209 hta209
    refine W.g_dup (pc1 := 32) P213.q d19_31 rfl rfl ?_
    refine W.g_iconst (pc1 := 33) (v := (2 : Int32)) P213.q d19_32 (by decide) rfl ?_
    refine W.g_aloadN (pc1 := 34) P213.q d19_33 rfl rfl rfl ?_
    refine W.g_iconst (pc1 := 35) (v := (2 : Int32)) P213.q d19_34 (by decide) rfl ?_
    show W.Go p.tables e below _ (T213.setTop (mkF m 35 #[.val (.int q), .val (.int c1), .val (.ref lx)] [(.int (Int32.ofNat 2)), (.ref lx), (.int (2 : Int32)), (.ref x209), (.ref x209), (.ref x208), (.ref x208)]))
    refine P213.callV (pc1 := 38) LS213.1 (wd hw (k := 18) rfl) (wd hw (k := 19) rfl) (wd hw (k := 21) rfl) (wd hw (k := 20) rfl) (notFace_of_selects (args := #[]) (mvT P213.hz (wd hw (k := 21) rfl))) (by decide) (W.MetN.pay (W := 5) (c_ch l Z a0 hw lx lt lk 2 5 (by decide) own_f_ratio (by decide) h213 LS213 (P213.extZ EZ all0) zc fm US) P213 (wd hw (k := 22) rfl) (wd hw (k := 6) rfl) (by decide) (by decide)) (argsL := [(.int (Int32.ofNat 2))]) (st0 := [(.int (2 : Int32)), (.ref x209), (.ref x209), (.ref x208), (.ref x208)]) (lenOf pd_I_R_C rfl) rfl rfl (Nat.le_of_eq rfl) (by rw [hml]; rfl) (by decide) (by decide) (W.Pure.ok P213.chv) d19_35 rfl ?_
    intro v214 T214 h214 L214 q214 P214
    obtain ⟨rfl, rfl, rfl⟩ := q214
    show W.Go p.tables e below _ (T214.setTop (mkF m 38 #[.val (.int q), .val (.int c1), .val (.ref lx)] [(.int (own_f_ratio 2)), (.int (2 : Int32)), (.ref x209), (.ref x209), (.ref x208), (.ref x208)]))
    refine P214.stCg (pc1 := 39) (x := (own_f_ratio 2)) G213 (i := 2) (by decide) (Or.inr (by rw [g209]; exact P208.sz)) (W.Arg.safe P214.al G213 (by decide)) d19_38 rfl ?_
    intro T215 h215 P215 W215 G215
    have Ex215 := Ex213.wr W215
    have Fv215 := Fv213.other W215 (Or.inl hne209)
    have Fc215 := Fc213.other W215 (Or.inl hne209)
    have Sx215 := Safe.wr W215 (W.Arg.safe P214.al G213 (by decide)) P214.chv Sx213
    have LS215 := LS213.other W215 hxa209 hta209
    refine W.g_dup (pc1 := 40) P215.q d19_39 rfl rfl ?_
    refine W.g_iconst (pc1 := 41) (v := (3 : Int32)) P215.q d19_40 (by decide) rfl ?_
    refine W.g_aloadN (pc1 := 42) P215.q d19_41 rfl rfl rfl ?_
    refine W.g_iconst (pc1 := 43) (v := (3 : Int32)) P215.q d19_42 (by decide) rfl ?_
    show W.Go p.tables e below _ (T215.setTop (mkF m 43 #[.val (.int q), .val (.int c1), .val (.ref lx)] [(.int (Int32.ofNat 3)), (.ref lx), (.int (3 : Int32)), (.ref x209), (.ref x209), (.ref x208), (.ref x208)]))
    refine P215.callV (pc1 := 46) LS215.1 (wd hw (k := 18) rfl) (wd hw (k := 19) rfl) (wd hw (k := 21) rfl) (wd hw (k := 20) rfl) (notFace_of_selects (args := #[]) (mvT P215.hz (wd hw (k := 21) rfl))) (by decide) (W.MetN.pay (W := 5) (c_ch l Z a0 hw lx lt lk 3 5 (by decide) own_f_ratio (by decide) h215 LS215 (P215.extZ EZ all0) zc fm US) P215 (wd hw (k := 22) rfl) (wd hw (k := 6) rfl) (by decide) (by decide)) (argsL := [(.int (Int32.ofNat 3))]) (st0 := [(.int (3 : Int32)), (.ref x209), (.ref x209), (.ref x208), (.ref x208)]) (lenOf pd_I_R_C rfl) rfl rfl (Nat.le_of_eq rfl) (by rw [hml]; rfl) (by decide) (by decide) (W.Pure.ok P215.chv) d19_43 rfl ?_
    intro v216 T216 h216 L216 q216 P216
    obtain ⟨rfl, rfl, rfl⟩ := q216
    show W.Go p.tables e below _ (T216.setTop (mkF m 46 #[.val (.int q), .val (.int c1), .val (.ref lx)] [(.int (own_f_ratio 3)), (.int (3 : Int32)), (.ref x209), (.ref x209), (.ref x208), (.ref x208)]))
    refine P216.stCg (pc1 := 47) (x := (own_f_ratio 3)) G215 (i := 3) (by decide) (Or.inr (by rw [g209]; exact P208.sz)) (W.Arg.safe P216.al G215 (by decide)) d19_46 rfl ?_
    intro T217 h217 P217 W217 G217
    have Ex217 := Ex215.wr W217
    have Fv217 := Fv215.other W217 (Or.inl hne209)
    have Fc217 := Fc215.other W217 (Or.inl hne209)
    have Sx217 := Safe.wr W217 (W.Arg.safe P216.al G215 (by decide)) P216.chv Sx215
    have LS217 := LS215.other W217 hxa209 hta209
    have VL217 : Arv Z h217 x209 k209 .char 4 (([(own_f_ratio 0), (own_f_ratio 1), (own_f_ratio 2), (own_f_ratio 3)] : List Int32).map Value.int) (.int 0) := W.Arg.list G217 rfl (fun i hi => match i, hi with | 0, _ => own_narc ((own_b_ratio 0 (by decide))).ch | 1, _ => own_narc ((own_b_ratio 1 (by decide))).ch | 2, _ => own_narc ((own_b_ratio 2 (by decide))).ch | 3, _ => own_narc ((own_b_ratio 3 (by decide))).ch | k + 4, hk => absurd hk (Nat.not_lt.mpr (Nat.le_add_left _ _)))
    have hp217 : ∀ c ∈ ([(own_f_ratio 0), (own_f_ratio 1), (own_f_ratio 2), (own_f_ratio 3)] : List Int32), ¬ c < 0 ∧ ¬ (255 : Int32) < c := (List.forall_mem_cons.mpr ⟨(own_b_ratio 0 (by decide)), (List.forall_mem_cons.mpr ⟨(own_b_ratio 1 (by decide)), (List.forall_mem_cons.mpr ⟨(own_b_ratio 2 (by decide)), (List.forall_mem_cons.mpr ⟨(own_b_ratio 3 (by decide)), (fun c hc => absurd hc (List.not_mem_nil))⟩)⟩)⟩)⟩)
    refine P217.callN (pc1 := 50) rfl (wd hw (k := 43) rfl) (wd hw (k := 44) rfl) (wd hw (k := 45) rfl) (by decide) (StrChars.Road.backV (W := 1) P217.hz hws (kI := 4) (wd hw (k := 7) rfl) (cs := [(own_f_ratio 0), (own_f_ratio 1), (own_f_ratio 2), (own_f_ratio 3)]) (bs := ([(own_f_ratio 0), (own_f_ratio 1), (own_f_ratio 2), (own_f_ratio 3)]).map (fun c => c.toInt8.toInt32)) (n := 4) (n0 := h0.size) (by rw [g208]; exact P1.sz) P217.sz Ex217 Fv217 Fc217 VL217 (US.2.1.ext (P217.extZ EZ all0)) US.1 rfl rfl (by decide) (by decide) hp217 rfl (by decide) (by decide)) (argsL := [(.ref x209)]) (st0 := [(.ref x208)]) (lenOf pd_AC_R_V rfl) rfl rfl (Nat.le_of_eq rfl) (by rw [hml]; rfl) (by decide) (by decide) (fun _ _ _ q => ⟨W.Frw.of_fr q.2.1 (Nat.le_refl _), CHr.keep q.2.2.1 (sfS Sx217 sf0) P217.chv⟩) d19_47 rfl ?_
    intro v218 T218 h218 L218 q218 P218
    obtain ⟨rfl, f218, K218, A218, C218, t218, k218, b218, c218, d218, F218, V218⟩ := q218
    show W.Go p.tables e below _ (T218.setTop (mkF m 50 #[.val (.int q), .val (.int c1), .val (.ref lx)] [(.ref x208)]))
    have S218 : W.Str Z h218 x208 [(own_f_ratio 0), (own_f_ratio 1), (own_f_ratio 2), (own_f_ratio 3)] := ⟨t218, k218, _, _, _, A218, F218, C218, V218, StrChars.Road.codOf (cs := [(own_f_ratio 0), (own_f_ratio 1), (own_f_ratio 2), (own_f_ratio 3)]) (n := 4) rfl (fun c hc => (hp217 c hc).2), fun c hc => ⟨(hp217 c hc).1, own_up (hp217 c hc).2⟩, Nat.le_of_ble_eq_true rfl⟩
    exact P218.retAW hEL hlk hret rfl rfl rfl d19_50 (by decide) (by decide) ⟨x208, [(own_f_ratio 0), (own_f_ratio 1), (own_f_ratio 2), (own_f_ratio 3)], rfl, P218.fr, P218.ext0, S218⟩
def own_f_cv (i : Nat) : Int32 := ([99, 111, 110, 116, 105, 110, 117, 111, 117, 115, 45, 118, 97, 114, 105, 97, 98, 108, 101] : List Int32).getD i 0
theorem own_b_cv : ∀ i, i < 19 → By (own_f_cv i) := fun i hi => match i, hi with | 0, _ => ⟨by decide, by decide⟩ | 1, _ => ⟨by decide, by decide⟩ | 2, _ => ⟨by decide, by decide⟩ | 3, _ => ⟨by decide, by decide⟩ | 4, _ => ⟨by decide, by decide⟩ | 5, _ => ⟨by decide, by decide⟩ | 6, _ => ⟨by decide, by decide⟩ | 7, _ => ⟨by decide, by decide⟩ | 8, _ => ⟨by decide, by decide⟩ | 9, _ => ⟨by decide, by decide⟩ | 10, _ => ⟨by decide, by decide⟩ | 11, _ => ⟨by decide, by decide⟩ | 12, _ => ⟨by decide, by decide⟩ | 13, _ => ⟨by decide, by decide⟩ | 14, _ => ⟨by decide, by decide⟩ | 15, _ => ⟨by decide, by decide⟩ | 16, _ => ⟨by decide, by decide⟩ | 17, _ => ⟨by decide, by decide⟩ | 18, _ => ⟨by decide, by decide⟩ | k + 19, hk => absurd hk (by omega)
set_option maxRecDepth 65536 in
set_option maxHeartbeats 40000000 in
theorem c_cv (l : Launch) (Z : State) (a0 : Array Value) (hw : ∀ d ∈ tables_1, d.before a0 Z = true) (wS : ∀ a ∈ Bundle.stringAtoms, a.before a0 Z = true) (hEL : EW Z a0 ownEL) (q c1 : Int32) (hc1 : By c1) (h0 : Heap) (EZ : Ext Z.heap h0) (zc : Int32) (fm : Value) (US : UST Z zc fm) : W.MetW l Z ownEL (⟨"com/example/numerary/numerary/ScoringOfCodePinLaw", "cv", "(IC)Ljava/lang/String;"⟩ : MethodName) method_5_code 3 ((Option.some (Jvm.ClassFile.FieldType.object "java/lang/String"))) [] ({ frames := 7, cells := 12, slots := 200, locals := 130 } : Room) #[.int q, .int c1] [] h0 (QM Z h0) := by
  refine W.MetW.mk (ls0 := #[.val (.int q), .val (.int c1), .unset]) [] (plainFor_of_name pn_com_example_numerary_numerary_ScoringOfCodePinLaw) (fun m => by first | (simp [entryFrame, mkF, argsToLocals, Value.category]; done) | rfl) ?_
  intro p e s m below meth c s₁ hml hret hnm hlk hss P0
  show W.Go p.tables e below _ (s₁.setTop (mkF m 0 #[.val (.int q), .val (.int c1), .unset] []))
  have hws : ∀ d ∈ StrChars.Road.words, d.before a0 Z = true := fun d hd => hw d (own_words d hd)
  refine P0.ldcR (pc1 := 2) (n := 76) (vs := [.int 99, .int 111, .int 110, .int 116, .int 105, .int 110, .int 117, .int 111, .int 117, .int 115, .int 45, .int 118, .int 97, .int 114, .int 105, .int 97, .int 98, .int 108, .int 101]) (z := 19) (wd hw (k := 103) rfl) wS hEL (by decide) ⟨by decide, by decide +kernel⟩ (by decide) (by decide) (by decide) (by decide) (by decide) (by decide) d21_0 rfl ?_
  intro lx T1 h1 lt lk P1 E1 R1 A1 C1 F1 V1 N1 L1
  have LS : Lt Z h1 lx lt lk 19 own_f_cv := ⟨A1, F1, C1, W.Arg.of 19 V1 rfl (by decide) (fun i hi => match i, hi with | 0, _ => rfl | 1, _ => rfl | 2, _ => rfl | 3, _ => rfl | 4, _ => rfl | 5, _ => rfl | 6, _ => rfl | 7, _ => rfl | 8, _ => rfl | 9, _ => rfl | 10, _ => rfl | 11, _ => rfl | 12, _ => rfl | 13, _ => rfl | 14, _ => rfl | 15, _ => rfl | 16, _ => rfl | 17, _ => rfl | 18, _ => rfl | k + 19, hk => absurd hk (by omega)), own_b_cv⟩
  refine W.g_astoreN (pc1 := 3) (ls2 := #[.val (.int q), .val (.int c1), .val (.ref lx)]) P1.q d21_2 rfl rfl rfl ?_
  refine W.g_iloadN (pc1 := 4) P1.q d21_3 rfl rfl ?_
  refine W.g_bipush (pc1 := 6) (v := (19 : Int32)) P1.q d21_4 (by decide) rfl ?_
  refine W.g_cmp (pc1 := 189) (pc2 := 9) P1.q d21_6 (by decide) rfl rfl (fun (h1q : ¬ q = (19 : Int32)) => ?_) (fun (h1q : ¬ (¬ q = (19 : Int32))) => ?_)
  · refine P1.newO (pc1 := 192) (wd hw (k := 13) rfl) (wd hw (k := 7) rfl) (wd hw (k := 6) rfl) (by decide) (by decide) d21_189 rfl ?_
    intro T219 h219 x219 g219 P219 E219 A219 D219 U219
    refine W.g_dup (pc1 := 193) P219.q d21_192 rfl rfl ?_
    refine W.g_bipush (pc1 := 195) (v := (19 : Int32)) P219.q d21_193 (by decide) rfl ?_
    have Fv219 : Fld Z h219 x219 "java/lang/String" "value" "[B" .null := D219 (Or.inr (wd hw (k := 9) rfl)) (ty := .array .byte) (by decide)
    have Fc219 : Fld Z h219 x219 "java/lang/String" "coder" "B" (.int 0) := D219 (Or.inr (wd hw (k := 10) rfl)) (ty := .byte) (by decide)
    have Sx219 := Safe.ext (EL := ownEL) E219 P1.chv (Safe.new (Nat.le_of_eq g219.symm))
    refine P219.newP (pc1 := 197) (cap := 19) (wd hw (k := 14) rfl) (by decide) (by decide) (by decide) (by decide) (by decide) d21_195 rfl ?_
    intro T220 h220 x220 k220 g220 P220 E220 V220
    have hne220 : x219 ≠ x220 := Nat.ne_of_lt (by rw [g220]; exact A219.lt)
    have Ex220 := A219.ext E220
    have Fv220 := Fv219.ext E220
    have Fc220 := Fc219.ext E220
    have Sx220 := Safe.ext E220 P219.chv Sx219
    have G220 : W.Arg Z h220 x220 k220 .char 19 (fun _ => 0) := W.Arg.new (by decide) V220
    have LS220 := (LS.ext E219).ext E220
    have hxa220 : lx ≠ x220 := Nat.ne_of_lt (by rw [g220]; exact (LS.ext E219).1.lt)
    have hta220 : lt ≠ x220 := Nat.ne_of_lt (by rw [g220]; exact (LS.ext E219).2.2.2.1.lt)
    refine W.g_dup (pc1 := 198) P220.q d21_197 rfl rfl ?_
    refine W.g_iconst (pc1 := 199) (v := (0 : Int32)) P220.q d21_198 (by decide) rfl ?_
    refine W.g_aloadN (pc1 := 200) P220.q d21_199 rfl rfl rfl ?_
    refine W.g_iconst (pc1 := 201) (v := (0 : Int32)) P220.q d21_200 (by decide) rfl ?_
    refine W.g_iloadN (pc1 := 202) P220.q d21_201 rfl rfl ?_
    refine W.g_iloadN (pc1 := 203) P220.q d21_202 rfl rfl ?_
    show W.Go p.tables e below _ (T220.setTop (mkF m 203 #[.val (.int q), .val (.int c1), .val (.ref lx)] [(.int c1), (.int q), (.int (Int32.ofNat 0)), (.ref lx), (.int (0 : Int32)), (.ref x220), (.ref x220), (.ref x219), (.ref x219)]))
    refine P220.callS (pc1 := 206) (wd hw (k := 15) rfl) (wd hw (k := 16) rfl) (wd hw (k := 3) rfl) (wd hw (k := 17) rfl) (by decide) (W.MetN.pay (W := 5) (c_chx l Z a0 hw lx lt lk 0 19 (by decide) own_f_cv (by decide) q c1 hc1 h220 LS220 (P220.extZ EZ all0) zc fm US) P220 (wd hw (k := 17) rfl) (wd hw (k := 3) rfl) (by decide) (by decide)) (argsL := [(.ref lx), (.int (Int32.ofNat 0)), (.int q), (.int c1)]) (st0 := [(.int (0 : Int32)), (.ref x220), (.ref x220), (.ref x219), (.ref x219)]) (lenOf pd_Ljava_lang_StringIIC_R_C rfl) rfl rfl (Nat.le_of_eq rfl) (by rw [hml]; rfl) (by decide) (by decide) (QBy.ok P220.chv) d21_203 rfl ?_
    intro v221 T221 h221 L221 q221 P221
    obtain ⟨rfl, rfl, r221, rfl, hr221⟩ := q221
    show W.Go p.tables e below _ (T221.setTop (mkF m 206 #[.val (.int q), .val (.int c1), .val (.ref lx)] [(.int r221), (.int (0 : Int32)), (.ref x220), (.ref x220), (.ref x219), (.ref x219)]))
    refine P221.stCg (pc1 := 207) (x := r221) G220 (i := 0) (by decide) (Or.inr (by rw [g220]; exact P219.sz)) (W.Arg.safe P221.al G220 (by decide)) d21_206 rfl ?_
    intro T222 h222 P222 W222 G222
    have Ex222 := Ex220.wr W222
    have Fv222 := Fv220.other W222 (Or.inl hne220)
    have Fc222 := Fc220.other W222 (Or.inl hne220)
    have Sx222 := Safe.wr W222 (W.Arg.safe P221.al G220 (by decide)) P221.chv Sx220
    have LS222 := LS220.other W222 hxa220 hta220
    refine W.g_dup (pc1 := 208) P222.q d21_207 rfl rfl ?_
    refine W.g_iconst (pc1 := 209) (v := (1 : Int32)) P222.q d21_208 (by decide) rfl ?_
    refine W.g_aloadN (pc1 := 210) P222.q d21_209 rfl rfl rfl ?_
    refine W.g_iconst (pc1 := 211) (v := (1 : Int32)) P222.q d21_210 (by decide) rfl ?_
    refine W.g_iloadN (pc1 := 212) P222.q d21_211 rfl rfl ?_
    refine W.g_iloadN (pc1 := 213) P222.q d21_212 rfl rfl ?_
    show W.Go p.tables e below _ (T222.setTop (mkF m 213 #[.val (.int q), .val (.int c1), .val (.ref lx)] [(.int c1), (.int q), (.int (Int32.ofNat 1)), (.ref lx), (.int (1 : Int32)), (.ref x220), (.ref x220), (.ref x219), (.ref x219)]))
    refine P222.callS (pc1 := 216) (wd hw (k := 15) rfl) (wd hw (k := 16) rfl) (wd hw (k := 3) rfl) (wd hw (k := 17) rfl) (by decide) (W.MetN.pay (W := 5) (c_chx l Z a0 hw lx lt lk 1 19 (by decide) own_f_cv (by decide) q c1 hc1 h222 LS222 (P222.extZ EZ all0) zc fm US) P222 (wd hw (k := 17) rfl) (wd hw (k := 3) rfl) (by decide) (by decide)) (argsL := [(.ref lx), (.int (Int32.ofNat 1)), (.int q), (.int c1)]) (st0 := [(.int (1 : Int32)), (.ref x220), (.ref x220), (.ref x219), (.ref x219)]) (lenOf pd_Ljava_lang_StringIIC_R_C rfl) rfl rfl (Nat.le_of_eq rfl) (by rw [hml]; rfl) (by decide) (by decide) (QBy.ok P222.chv) d21_213 rfl ?_
    intro v223 T223 h223 L223 q223 P223
    obtain ⟨rfl, rfl, r223, rfl, hr223⟩ := q223
    show W.Go p.tables e below _ (T223.setTop (mkF m 216 #[.val (.int q), .val (.int c1), .val (.ref lx)] [(.int r223), (.int (1 : Int32)), (.ref x220), (.ref x220), (.ref x219), (.ref x219)]))
    refine P223.stCg (pc1 := 217) (x := r223) G222 (i := 1) (by decide) (Or.inr (by rw [g220]; exact P219.sz)) (W.Arg.safe P223.al G222 (by decide)) d21_216 rfl ?_
    intro T224 h224 P224 W224 G224
    have Ex224 := Ex222.wr W224
    have Fv224 := Fv222.other W224 (Or.inl hne220)
    have Fc224 := Fc222.other W224 (Or.inl hne220)
    have Sx224 := Safe.wr W224 (W.Arg.safe P223.al G222 (by decide)) P223.chv Sx222
    have LS224 := LS222.other W224 hxa220 hta220
    refine W.g_dup (pc1 := 218) P224.q d21_217 rfl rfl ?_
    refine W.g_iconst (pc1 := 219) (v := (2 : Int32)) P224.q d21_218 (by decide) rfl ?_
    refine W.g_aloadN (pc1 := 220) P224.q d21_219 rfl rfl rfl ?_
    refine W.g_iconst (pc1 := 221) (v := (2 : Int32)) P224.q d21_220 (by decide) rfl ?_
    refine W.g_iloadN (pc1 := 222) P224.q d21_221 rfl rfl ?_
    refine W.g_iloadN (pc1 := 223) P224.q d21_222 rfl rfl ?_
    show W.Go p.tables e below _ (T224.setTop (mkF m 223 #[.val (.int q), .val (.int c1), .val (.ref lx)] [(.int c1), (.int q), (.int (Int32.ofNat 2)), (.ref lx), (.int (2 : Int32)), (.ref x220), (.ref x220), (.ref x219), (.ref x219)]))
    refine P224.callS (pc1 := 226) (wd hw (k := 15) rfl) (wd hw (k := 16) rfl) (wd hw (k := 3) rfl) (wd hw (k := 17) rfl) (by decide) (W.MetN.pay (W := 5) (c_chx l Z a0 hw lx lt lk 2 19 (by decide) own_f_cv (by decide) q c1 hc1 h224 LS224 (P224.extZ EZ all0) zc fm US) P224 (wd hw (k := 17) rfl) (wd hw (k := 3) rfl) (by decide) (by decide)) (argsL := [(.ref lx), (.int (Int32.ofNat 2)), (.int q), (.int c1)]) (st0 := [(.int (2 : Int32)), (.ref x220), (.ref x220), (.ref x219), (.ref x219)]) (lenOf pd_Ljava_lang_StringIIC_R_C rfl) rfl rfl (Nat.le_of_eq rfl) (by rw [hml]; rfl) (by decide) (by decide) (QBy.ok P224.chv) d21_223 rfl ?_
    intro v225 T225 h225 L225 q225 P225
    obtain ⟨rfl, rfl, r225, rfl, hr225⟩ := q225
    show W.Go p.tables e below _ (T225.setTop (mkF m 226 #[.val (.int q), .val (.int c1), .val (.ref lx)] [(.int r225), (.int (2 : Int32)), (.ref x220), (.ref x220), (.ref x219), (.ref x219)]))
    refine P225.stCg (pc1 := 227) (x := r225) G224 (i := 2) (by decide) (Or.inr (by rw [g220]; exact P219.sz)) (W.Arg.safe P225.al G224 (by decide)) d21_226 rfl ?_
    intro T226 h226 P226 W226 G226
    have Ex226 := Ex224.wr W226
    have Fv226 := Fv224.other W226 (Or.inl hne220)
    have Fc226 := Fc224.other W226 (Or.inl hne220)
    have Sx226 := Safe.wr W226 (W.Arg.safe P225.al G224 (by decide)) P225.chv Sx224
    have LS226 := LS224.other W226 hxa220 hta220
    refine W.g_dup (pc1 := 228) P226.q d21_227 rfl rfl ?_
    refine W.g_iconst (pc1 := 229) (v := (3 : Int32)) P226.q d21_228 (by decide) rfl ?_
    refine W.g_aloadN (pc1 := 230) P226.q d21_229 rfl rfl rfl ?_
    refine W.g_iconst (pc1 := 231) (v := (3 : Int32)) P226.q d21_230 (by decide) rfl ?_
    refine W.g_iloadN (pc1 := 232) P226.q d21_231 rfl rfl ?_
    refine W.g_iloadN (pc1 := 233) P226.q d21_232 rfl rfl ?_
    show W.Go p.tables e below _ (T226.setTop (mkF m 233 #[.val (.int q), .val (.int c1), .val (.ref lx)] [(.int c1), (.int q), (.int (Int32.ofNat 3)), (.ref lx), (.int (3 : Int32)), (.ref x220), (.ref x220), (.ref x219), (.ref x219)]))
    refine P226.callS (pc1 := 236) (wd hw (k := 15) rfl) (wd hw (k := 16) rfl) (wd hw (k := 3) rfl) (wd hw (k := 17) rfl) (by decide) (W.MetN.pay (W := 5) (c_chx l Z a0 hw lx lt lk 3 19 (by decide) own_f_cv (by decide) q c1 hc1 h226 LS226 (P226.extZ EZ all0) zc fm US) P226 (wd hw (k := 17) rfl) (wd hw (k := 3) rfl) (by decide) (by decide)) (argsL := [(.ref lx), (.int (Int32.ofNat 3)), (.int q), (.int c1)]) (st0 := [(.int (3 : Int32)), (.ref x220), (.ref x220), (.ref x219), (.ref x219)]) (lenOf pd_Ljava_lang_StringIIC_R_C rfl) rfl rfl (Nat.le_of_eq rfl) (by rw [hml]; rfl) (by decide) (by decide) (QBy.ok P226.chv) d21_233 rfl ?_
    intro v227 T227 h227 L227 q227 P227
    obtain ⟨rfl, rfl, r227, rfl, hr227⟩ := q227
    show W.Go p.tables e below _ (T227.setTop (mkF m 236 #[.val (.int q), .val (.int c1), .val (.ref lx)] [(.int r227), (.int (3 : Int32)), (.ref x220), (.ref x220), (.ref x219), (.ref x219)]))
    refine P227.stCg (pc1 := 237) (x := r227) G226 (i := 3) (by decide) (Or.inr (by rw [g220]; exact P219.sz)) (W.Arg.safe P227.al G226 (by decide)) d21_236 rfl ?_
    intro T228 h228 P228 W228 G228
    have Ex228 := Ex226.wr W228
    have Fv228 := Fv226.other W228 (Or.inl hne220)
    have Fc228 := Fc226.other W228 (Or.inl hne220)
    have Sx228 := Safe.wr W228 (W.Arg.safe P227.al G226 (by decide)) P227.chv Sx226
    have LS228 := LS226.other W228 hxa220 hta220
    refine W.g_dup (pc1 := 238) P228.q d21_237 rfl rfl ?_
    refine W.g_iconst (pc1 := 239) (v := (4 : Int32)) P228.q d21_238 (by decide) rfl ?_
    refine W.g_aloadN (pc1 := 240) P228.q d21_239 rfl rfl rfl ?_
    refine W.g_iconst (pc1 := 241) (v := (4 : Int32)) P228.q d21_240 (by decide) rfl ?_
    refine W.g_iloadN (pc1 := 242) P228.q d21_241 rfl rfl ?_
    refine W.g_iloadN (pc1 := 243) P228.q d21_242 rfl rfl ?_
    show W.Go p.tables e below _ (T228.setTop (mkF m 243 #[.val (.int q), .val (.int c1), .val (.ref lx)] [(.int c1), (.int q), (.int (Int32.ofNat 4)), (.ref lx), (.int (4 : Int32)), (.ref x220), (.ref x220), (.ref x219), (.ref x219)]))
    refine P228.callS (pc1 := 246) (wd hw (k := 15) rfl) (wd hw (k := 16) rfl) (wd hw (k := 3) rfl) (wd hw (k := 17) rfl) (by decide) (W.MetN.pay (W := 5) (c_chx l Z a0 hw lx lt lk 4 19 (by decide) own_f_cv (by decide) q c1 hc1 h228 LS228 (P228.extZ EZ all0) zc fm US) P228 (wd hw (k := 17) rfl) (wd hw (k := 3) rfl) (by decide) (by decide)) (argsL := [(.ref lx), (.int (Int32.ofNat 4)), (.int q), (.int c1)]) (st0 := [(.int (4 : Int32)), (.ref x220), (.ref x220), (.ref x219), (.ref x219)]) (lenOf pd_Ljava_lang_StringIIC_R_C rfl) rfl rfl (Nat.le_of_eq rfl) (by rw [hml]; rfl) (by decide) (by decide) (QBy.ok P228.chv) d21_243 rfl ?_
    intro v229 T229 h229 L229 q229 P229
    obtain ⟨rfl, rfl, r229, rfl, hr229⟩ := q229
    show W.Go p.tables e below _ (T229.setTop (mkF m 246 #[.val (.int q), .val (.int c1), .val (.ref lx)] [(.int r229), (.int (4 : Int32)), (.ref x220), (.ref x220), (.ref x219), (.ref x219)]))
    refine P229.stCg (pc1 := 247) (x := r229) G228 (i := 4) (by decide) (Or.inr (by rw [g220]; exact P219.sz)) (W.Arg.safe P229.al G228 (by decide)) d21_246 rfl ?_
    intro T230 h230 P230 W230 G230
    have Ex230 := Ex228.wr W230
    have Fv230 := Fv228.other W230 (Or.inl hne220)
    have Fc230 := Fc228.other W230 (Or.inl hne220)
    have Sx230 := Safe.wr W230 (W.Arg.safe P229.al G228 (by decide)) P229.chv Sx228
    have LS230 := LS228.other W230 hxa220 hta220
    refine W.g_dup (pc1 := 248) P230.q d21_247 rfl rfl ?_
    refine W.g_iconst (pc1 := 249) (v := (5 : Int32)) P230.q d21_248 (by decide) rfl ?_
    refine W.g_aloadN (pc1 := 250) P230.q d21_249 rfl rfl rfl ?_
    refine W.g_iconst (pc1 := 251) (v := (5 : Int32)) P230.q d21_250 (by decide) rfl ?_
    refine W.g_iloadN (pc1 := 252) P230.q d21_251 rfl rfl ?_
    refine W.g_iloadN (pc1 := 253) P230.q d21_252 rfl rfl ?_
    show W.Go p.tables e below _ (T230.setTop (mkF m 253 #[.val (.int q), .val (.int c1), .val (.ref lx)] [(.int c1), (.int q), (.int (Int32.ofNat 5)), (.ref lx), (.int (5 : Int32)), (.ref x220), (.ref x220), (.ref x219), (.ref x219)]))
    refine P230.callS (pc1 := 256) (wd hw (k := 15) rfl) (wd hw (k := 16) rfl) (wd hw (k := 3) rfl) (wd hw (k := 17) rfl) (by decide) (W.MetN.pay (W := 5) (c_chx l Z a0 hw lx lt lk 5 19 (by decide) own_f_cv (by decide) q c1 hc1 h230 LS230 (P230.extZ EZ all0) zc fm US) P230 (wd hw (k := 17) rfl) (wd hw (k := 3) rfl) (by decide) (by decide)) (argsL := [(.ref lx), (.int (Int32.ofNat 5)), (.int q), (.int c1)]) (st0 := [(.int (5 : Int32)), (.ref x220), (.ref x220), (.ref x219), (.ref x219)]) (lenOf pd_Ljava_lang_StringIIC_R_C rfl) rfl rfl (Nat.le_of_eq rfl) (by rw [hml]; rfl) (by decide) (by decide) (QBy.ok P230.chv) d21_253 rfl ?_
    intro v231 T231 h231 L231 q231 P231
    obtain ⟨rfl, rfl, r231, rfl, hr231⟩ := q231
    show W.Go p.tables e below _ (T231.setTop (mkF m 256 #[.val (.int q), .val (.int c1), .val (.ref lx)] [(.int r231), (.int (5 : Int32)), (.ref x220), (.ref x220), (.ref x219), (.ref x219)]))
    refine P231.stCg (pc1 := 257) (x := r231) G230 (i := 5) (by decide) (Or.inr (by rw [g220]; exact P219.sz)) (W.Arg.safe P231.al G230 (by decide)) d21_256 rfl ?_
    intro T232 h232 P232 W232 G232
    have Ex232 := Ex230.wr W232
    have Fv232 := Fv230.other W232 (Or.inl hne220)
    have Fc232 := Fc230.other W232 (Or.inl hne220)
    have Sx232 := Safe.wr W232 (W.Arg.safe P231.al G230 (by decide)) P231.chv Sx230
    have LS232 := LS230.other W232 hxa220 hta220
    refine W.g_dup (pc1 := 258) P232.q d21_257 rfl rfl ?_
    refine W.g_bipush (pc1 := 260) (v := (6 : Int32)) P232.q d21_258 (by decide) rfl ?_
    refine W.g_aloadN (pc1 := 261) P232.q d21_260 rfl rfl rfl ?_
    refine W.g_bipush (pc1 := 263) (v := (6 : Int32)) P232.q d21_261 (by decide) rfl ?_
    refine W.g_iloadN (pc1 := 264) P232.q d21_263 rfl rfl ?_
    refine W.g_iloadN (pc1 := 265) P232.q d21_264 rfl rfl ?_
    show W.Go p.tables e below _ (T232.setTop (mkF m 265 #[.val (.int q), .val (.int c1), .val (.ref lx)] [(.int c1), (.int q), (.int (Int32.ofNat 6)), (.ref lx), (.int (6 : Int32)), (.ref x220), (.ref x220), (.ref x219), (.ref x219)]))
    refine P232.callS (pc1 := 268) (wd hw (k := 15) rfl) (wd hw (k := 16) rfl) (wd hw (k := 3) rfl) (wd hw (k := 17) rfl) (by decide) (W.MetN.pay (W := 5) (c_chx l Z a0 hw lx lt lk 6 19 (by decide) own_f_cv (by decide) q c1 hc1 h232 LS232 (P232.extZ EZ all0) zc fm US) P232 (wd hw (k := 17) rfl) (wd hw (k := 3) rfl) (by decide) (by decide)) (argsL := [(.ref lx), (.int (Int32.ofNat 6)), (.int q), (.int c1)]) (st0 := [(.int (6 : Int32)), (.ref x220), (.ref x220), (.ref x219), (.ref x219)]) (lenOf pd_Ljava_lang_StringIIC_R_C rfl) rfl rfl (Nat.le_of_eq rfl) (by rw [hml]; rfl) (by decide) (by decide) (QBy.ok P232.chv) d21_265 rfl ?_
    intro v233 T233 h233 L233 q233 P233
    obtain ⟨rfl, rfl, r233, rfl, hr233⟩ := q233
    show W.Go p.tables e below _ (T233.setTop (mkF m 268 #[.val (.int q), .val (.int c1), .val (.ref lx)] [(.int r233), (.int (6 : Int32)), (.ref x220), (.ref x220), (.ref x219), (.ref x219)]))
    refine P233.stCg (pc1 := 269) (x := r233) G232 (i := 6) (by decide) (Or.inr (by rw [g220]; exact P219.sz)) (W.Arg.safe P233.al G232 (by decide)) d21_268 rfl ?_
    intro T234 h234 P234 W234 G234
    have Ex234 := Ex232.wr W234
    have Fv234 := Fv232.other W234 (Or.inl hne220)
    have Fc234 := Fc232.other W234 (Or.inl hne220)
    have Sx234 := Safe.wr W234 (W.Arg.safe P233.al G232 (by decide)) P233.chv Sx232
    have LS234 := LS232.other W234 hxa220 hta220
    refine W.g_dup (pc1 := 270) P234.q d21_269 rfl rfl ?_
    refine W.g_bipush (pc1 := 272) (v := (7 : Int32)) P234.q d21_270 (by decide) rfl ?_
    refine W.g_aloadN (pc1 := 273) P234.q d21_272 rfl rfl rfl ?_
    refine W.g_bipush (pc1 := 275) (v := (7 : Int32)) P234.q d21_273 (by decide) rfl ?_
    refine W.g_iloadN (pc1 := 276) P234.q d21_275 rfl rfl ?_
    refine W.g_iloadN (pc1 := 277) P234.q d21_276 rfl rfl ?_
    show W.Go p.tables e below _ (T234.setTop (mkF m 277 #[.val (.int q), .val (.int c1), .val (.ref lx)] [(.int c1), (.int q), (.int (Int32.ofNat 7)), (.ref lx), (.int (7 : Int32)), (.ref x220), (.ref x220), (.ref x219), (.ref x219)]))
    refine P234.callS (pc1 := 280) (wd hw (k := 15) rfl) (wd hw (k := 16) rfl) (wd hw (k := 3) rfl) (wd hw (k := 17) rfl) (by decide) (W.MetN.pay (W := 5) (c_chx l Z a0 hw lx lt lk 7 19 (by decide) own_f_cv (by decide) q c1 hc1 h234 LS234 (P234.extZ EZ all0) zc fm US) P234 (wd hw (k := 17) rfl) (wd hw (k := 3) rfl) (by decide) (by decide)) (argsL := [(.ref lx), (.int (Int32.ofNat 7)), (.int q), (.int c1)]) (st0 := [(.int (7 : Int32)), (.ref x220), (.ref x220), (.ref x219), (.ref x219)]) (lenOf pd_Ljava_lang_StringIIC_R_C rfl) rfl rfl (Nat.le_of_eq rfl) (by rw [hml]; rfl) (by decide) (by decide) (QBy.ok P234.chv) d21_277 rfl ?_
    intro v235 T235 h235 L235 q235 P235
    obtain ⟨rfl, rfl, r235, rfl, hr235⟩ := q235
    show W.Go p.tables e below _ (T235.setTop (mkF m 280 #[.val (.int q), .val (.int c1), .val (.ref lx)] [(.int r235), (.int (7 : Int32)), (.ref x220), (.ref x220), (.ref x219), (.ref x219)]))
    refine P235.stCg (pc1 := 281) (x := r235) G234 (i := 7) (by decide) (Or.inr (by rw [g220]; exact P219.sz)) (W.Arg.safe P235.al G234 (by decide)) d21_280 rfl ?_
    intro T236 h236 P236 W236 G236
    have Ex236 := Ex234.wr W236
    have Fv236 := Fv234.other W236 (Or.inl hne220)
    have Fc236 := Fc234.other W236 (Or.inl hne220)
    have Sx236 := Safe.wr W236 (W.Arg.safe P235.al G234 (by decide)) P235.chv Sx234
    have LS236 := LS234.other W236 hxa220 hta220
    refine W.g_dup (pc1 := 282) P236.q d21_281 rfl rfl ?_
    refine W.g_bipush (pc1 := 284) (v := (8 : Int32)) P236.q d21_282 (by decide) rfl ?_
    refine W.g_aloadN (pc1 := 285) P236.q d21_284 rfl rfl rfl ?_
    refine W.g_bipush (pc1 := 287) (v := (8 : Int32)) P236.q d21_285 (by decide) rfl ?_
    refine W.g_iloadN (pc1 := 288) P236.q d21_287 rfl rfl ?_
    refine W.g_iloadN (pc1 := 289) P236.q d21_288 rfl rfl ?_
    show W.Go p.tables e below _ (T236.setTop (mkF m 289 #[.val (.int q), .val (.int c1), .val (.ref lx)] [(.int c1), (.int q), (.int (Int32.ofNat 8)), (.ref lx), (.int (8 : Int32)), (.ref x220), (.ref x220), (.ref x219), (.ref x219)]))
    refine P236.callS (pc1 := 292) (wd hw (k := 15) rfl) (wd hw (k := 16) rfl) (wd hw (k := 3) rfl) (wd hw (k := 17) rfl) (by decide) (W.MetN.pay (W := 5) (c_chx l Z a0 hw lx lt lk 8 19 (by decide) own_f_cv (by decide) q c1 hc1 h236 LS236 (P236.extZ EZ all0) zc fm US) P236 (wd hw (k := 17) rfl) (wd hw (k := 3) rfl) (by decide) (by decide)) (argsL := [(.ref lx), (.int (Int32.ofNat 8)), (.int q), (.int c1)]) (st0 := [(.int (8 : Int32)), (.ref x220), (.ref x220), (.ref x219), (.ref x219)]) (lenOf pd_Ljava_lang_StringIIC_R_C rfl) rfl rfl (Nat.le_of_eq rfl) (by rw [hml]; rfl) (by decide) (by decide) (QBy.ok P236.chv) d21_289 rfl ?_
    intro v237 T237 h237 L237 q237 P237
    obtain ⟨rfl, rfl, r237, rfl, hr237⟩ := q237
    show W.Go p.tables e below _ (T237.setTop (mkF m 292 #[.val (.int q), .val (.int c1), .val (.ref lx)] [(.int r237), (.int (8 : Int32)), (.ref x220), (.ref x220), (.ref x219), (.ref x219)]))
    refine P237.stCg (pc1 := 293) (x := r237) G236 (i := 8) (by decide) (Or.inr (by rw [g220]; exact P219.sz)) (W.Arg.safe P237.al G236 (by decide)) d21_292 rfl ?_
    intro T238 h238 P238 W238 G238
    have Ex238 := Ex236.wr W238
    have Fv238 := Fv236.other W238 (Or.inl hne220)
    have Fc238 := Fc236.other W238 (Or.inl hne220)
    have Sx238 := Safe.wr W238 (W.Arg.safe P237.al G236 (by decide)) P237.chv Sx236
    have LS238 := LS236.other W238 hxa220 hta220
    refine W.g_dup (pc1 := 294) P238.q d21_293 rfl rfl ?_
    refine W.g_bipush (pc1 := 296) (v := (9 : Int32)) P238.q d21_294 (by decide) rfl ?_
    refine W.g_aloadN (pc1 := 297) P238.q d21_296 rfl rfl rfl ?_
    refine W.g_bipush (pc1 := 299) (v := (9 : Int32)) P238.q d21_297 (by decide) rfl ?_
    refine W.g_iloadN (pc1 := 300) P238.q d21_299 rfl rfl ?_
    refine W.g_iloadN (pc1 := 301) P238.q d21_300 rfl rfl ?_
    show W.Go p.tables e below _ (T238.setTop (mkF m 301 #[.val (.int q), .val (.int c1), .val (.ref lx)] [(.int c1), (.int q), (.int (Int32.ofNat 9)), (.ref lx), (.int (9 : Int32)), (.ref x220), (.ref x220), (.ref x219), (.ref x219)]))
    refine P238.callS (pc1 := 304) (wd hw (k := 15) rfl) (wd hw (k := 16) rfl) (wd hw (k := 3) rfl) (wd hw (k := 17) rfl) (by decide) (W.MetN.pay (W := 5) (c_chx l Z a0 hw lx lt lk 9 19 (by decide) own_f_cv (by decide) q c1 hc1 h238 LS238 (P238.extZ EZ all0) zc fm US) P238 (wd hw (k := 17) rfl) (wd hw (k := 3) rfl) (by decide) (by decide)) (argsL := [(.ref lx), (.int (Int32.ofNat 9)), (.int q), (.int c1)]) (st0 := [(.int (9 : Int32)), (.ref x220), (.ref x220), (.ref x219), (.ref x219)]) (lenOf pd_Ljava_lang_StringIIC_R_C rfl) rfl rfl (Nat.le_of_eq rfl) (by rw [hml]; rfl) (by decide) (by decide) (QBy.ok P238.chv) d21_301 rfl ?_
    intro v239 T239 h239 L239 q239 P239
    obtain ⟨rfl, rfl, r239, rfl, hr239⟩ := q239
    show W.Go p.tables e below _ (T239.setTop (mkF m 304 #[.val (.int q), .val (.int c1), .val (.ref lx)] [(.int r239), (.int (9 : Int32)), (.ref x220), (.ref x220), (.ref x219), (.ref x219)]))
    refine P239.stCg (pc1 := 305) (x := r239) G238 (i := 9) (by decide) (Or.inr (by rw [g220]; exact P219.sz)) (W.Arg.safe P239.al G238 (by decide)) d21_304 rfl ?_
    intro T240 h240 P240 W240 G240
    have Ex240 := Ex238.wr W240
    have Fv240 := Fv238.other W240 (Or.inl hne220)
    have Fc240 := Fc238.other W240 (Or.inl hne220)
    have Sx240 := Safe.wr W240 (W.Arg.safe P239.al G238 (by decide)) P239.chv Sx238
    have LS240 := LS238.other W240 hxa220 hta220
    refine W.g_dup (pc1 := 306) P240.q d21_305 rfl rfl ?_
    refine W.g_bipush (pc1 := 308) (v := (10 : Int32)) P240.q d21_306 (by decide) rfl ?_
    refine W.g_aloadN (pc1 := 309) P240.q d21_308 rfl rfl rfl ?_
    refine W.g_bipush (pc1 := 311) (v := (10 : Int32)) P240.q d21_309 (by decide) rfl ?_
    refine W.g_iloadN (pc1 := 312) P240.q d21_311 rfl rfl ?_
    refine W.g_iloadN (pc1 := 313) P240.q d21_312 rfl rfl ?_
    show W.Go p.tables e below _ (T240.setTop (mkF m 313 #[.val (.int q), .val (.int c1), .val (.ref lx)] [(.int c1), (.int q), (.int (Int32.ofNat 10)), (.ref lx), (.int (10 : Int32)), (.ref x220), (.ref x220), (.ref x219), (.ref x219)]))
    refine P240.callS (pc1 := 316) (wd hw (k := 15) rfl) (wd hw (k := 16) rfl) (wd hw (k := 3) rfl) (wd hw (k := 17) rfl) (by decide) (W.MetN.pay (W := 5) (c_chx l Z a0 hw lx lt lk 10 19 (by decide) own_f_cv (by decide) q c1 hc1 h240 LS240 (P240.extZ EZ all0) zc fm US) P240 (wd hw (k := 17) rfl) (wd hw (k := 3) rfl) (by decide) (by decide)) (argsL := [(.ref lx), (.int (Int32.ofNat 10)), (.int q), (.int c1)]) (st0 := [(.int (10 : Int32)), (.ref x220), (.ref x220), (.ref x219), (.ref x219)]) (lenOf pd_Ljava_lang_StringIIC_R_C rfl) rfl rfl (Nat.le_of_eq rfl) (by rw [hml]; rfl) (by decide) (by decide) (QBy.ok P240.chv) d21_313 rfl ?_
    intro v241 T241 h241 L241 q241 P241
    obtain ⟨rfl, rfl, r241, rfl, hr241⟩ := q241
    show W.Go p.tables e below _ (T241.setTop (mkF m 316 #[.val (.int q), .val (.int c1), .val (.ref lx)] [(.int r241), (.int (10 : Int32)), (.ref x220), (.ref x220), (.ref x219), (.ref x219)]))
    refine P241.stCg (pc1 := 317) (x := r241) G240 (i := 10) (by decide) (Or.inr (by rw [g220]; exact P219.sz)) (W.Arg.safe P241.al G240 (by decide)) d21_316 rfl ?_
    intro T242 h242 P242 W242 G242
    have Ex242 := Ex240.wr W242
    have Fv242 := Fv240.other W242 (Or.inl hne220)
    have Fc242 := Fc240.other W242 (Or.inl hne220)
    have Sx242 := Safe.wr W242 (W.Arg.safe P241.al G240 (by decide)) P241.chv Sx240
    have LS242 := LS240.other W242 hxa220 hta220
    refine W.g_dup (pc1 := 318) P242.q d21_317 rfl rfl ?_
    refine W.g_bipush (pc1 := 320) (v := (11 : Int32)) P242.q d21_318 (by decide) rfl ?_
    refine W.g_aloadN (pc1 := 321) P242.q d21_320 rfl rfl rfl ?_
    refine W.g_bipush (pc1 := 323) (v := (11 : Int32)) P242.q d21_321 (by decide) rfl ?_
    refine W.g_iloadN (pc1 := 324) P242.q d21_323 rfl rfl ?_
    refine W.g_iloadN (pc1 := 325) P242.q d21_324 rfl rfl ?_
    show W.Go p.tables e below _ (T242.setTop (mkF m 325 #[.val (.int q), .val (.int c1), .val (.ref lx)] [(.int c1), (.int q), (.int (Int32.ofNat 11)), (.ref lx), (.int (11 : Int32)), (.ref x220), (.ref x220), (.ref x219), (.ref x219)]))
    refine P242.callS (pc1 := 328) (wd hw (k := 15) rfl) (wd hw (k := 16) rfl) (wd hw (k := 3) rfl) (wd hw (k := 17) rfl) (by decide) (W.MetN.pay (W := 5) (c_chx l Z a0 hw lx lt lk 11 19 (by decide) own_f_cv (by decide) q c1 hc1 h242 LS242 (P242.extZ EZ all0) zc fm US) P242 (wd hw (k := 17) rfl) (wd hw (k := 3) rfl) (by decide) (by decide)) (argsL := [(.ref lx), (.int (Int32.ofNat 11)), (.int q), (.int c1)]) (st0 := [(.int (11 : Int32)), (.ref x220), (.ref x220), (.ref x219), (.ref x219)]) (lenOf pd_Ljava_lang_StringIIC_R_C rfl) rfl rfl (Nat.le_of_eq rfl) (by rw [hml]; rfl) (by decide) (by decide) (QBy.ok P242.chv) d21_325 rfl ?_
    intro v243 T243 h243 L243 q243 P243
    obtain ⟨rfl, rfl, r243, rfl, hr243⟩ := q243
    show W.Go p.tables e below _ (T243.setTop (mkF m 328 #[.val (.int q), .val (.int c1), .val (.ref lx)] [(.int r243), (.int (11 : Int32)), (.ref x220), (.ref x220), (.ref x219), (.ref x219)]))
    refine P243.stCg (pc1 := 329) (x := r243) G242 (i := 11) (by decide) (Or.inr (by rw [g220]; exact P219.sz)) (W.Arg.safe P243.al G242 (by decide)) d21_328 rfl ?_
    intro T244 h244 P244 W244 G244
    have Ex244 := Ex242.wr W244
    have Fv244 := Fv242.other W244 (Or.inl hne220)
    have Fc244 := Fc242.other W244 (Or.inl hne220)
    have Sx244 := Safe.wr W244 (W.Arg.safe P243.al G242 (by decide)) P243.chv Sx242
    have LS244 := LS242.other W244 hxa220 hta220
    refine W.g_dup (pc1 := 330) P244.q d21_329 rfl rfl ?_
    refine W.g_bipush (pc1 := 332) (v := (12 : Int32)) P244.q d21_330 (by decide) rfl ?_
    refine W.g_aloadN (pc1 := 333) P244.q d21_332 rfl rfl rfl ?_
    refine W.g_bipush (pc1 := 335) (v := (12 : Int32)) P244.q d21_333 (by decide) rfl ?_
    refine W.g_iloadN (pc1 := 336) P244.q d21_335 rfl rfl ?_
    refine W.g_iloadN (pc1 := 337) P244.q d21_336 rfl rfl ?_
    show W.Go p.tables e below _ (T244.setTop (mkF m 337 #[.val (.int q), .val (.int c1), .val (.ref lx)] [(.int c1), (.int q), (.int (Int32.ofNat 12)), (.ref lx), (.int (12 : Int32)), (.ref x220), (.ref x220), (.ref x219), (.ref x219)]))
    refine P244.callS (pc1 := 340) (wd hw (k := 15) rfl) (wd hw (k := 16) rfl) (wd hw (k := 3) rfl) (wd hw (k := 17) rfl) (by decide) (W.MetN.pay (W := 5) (c_chx l Z a0 hw lx lt lk 12 19 (by decide) own_f_cv (by decide) q c1 hc1 h244 LS244 (P244.extZ EZ all0) zc fm US) P244 (wd hw (k := 17) rfl) (wd hw (k := 3) rfl) (by decide) (by decide)) (argsL := [(.ref lx), (.int (Int32.ofNat 12)), (.int q), (.int c1)]) (st0 := [(.int (12 : Int32)), (.ref x220), (.ref x220), (.ref x219), (.ref x219)]) (lenOf pd_Ljava_lang_StringIIC_R_C rfl) rfl rfl (Nat.le_of_eq rfl) (by rw [hml]; rfl) (by decide) (by decide) (QBy.ok P244.chv) d21_337 rfl ?_
    intro v245 T245 h245 L245 q245 P245
    obtain ⟨rfl, rfl, r245, rfl, hr245⟩ := q245
    show W.Go p.tables e below _ (T245.setTop (mkF m 340 #[.val (.int q), .val (.int c1), .val (.ref lx)] [(.int r245), (.int (12 : Int32)), (.ref x220), (.ref x220), (.ref x219), (.ref x219)]))
    refine P245.stCg (pc1 := 341) (x := r245) G244 (i := 12) (by decide) (Or.inr (by rw [g220]; exact P219.sz)) (W.Arg.safe P245.al G244 (by decide)) d21_340 rfl ?_
    intro T246 h246 P246 W246 G246
    have Ex246 := Ex244.wr W246
    have Fv246 := Fv244.other W246 (Or.inl hne220)
    have Fc246 := Fc244.other W246 (Or.inl hne220)
    have Sx246 := Safe.wr W246 (W.Arg.safe P245.al G244 (by decide)) P245.chv Sx244
    have LS246 := LS244.other W246 hxa220 hta220
    refine W.g_dup (pc1 := 342) P246.q d21_341 rfl rfl ?_
    refine W.g_bipush (pc1 := 344) (v := (13 : Int32)) P246.q d21_342 (by decide) rfl ?_
    refine W.g_aloadN (pc1 := 345) P246.q d21_344 rfl rfl rfl ?_
    refine W.g_bipush (pc1 := 347) (v := (13 : Int32)) P246.q d21_345 (by decide) rfl ?_
    refine W.g_iloadN (pc1 := 348) P246.q d21_347 rfl rfl ?_
    refine W.g_iloadN (pc1 := 349) P246.q d21_348 rfl rfl ?_
    show W.Go p.tables e below _ (T246.setTop (mkF m 349 #[.val (.int q), .val (.int c1), .val (.ref lx)] [(.int c1), (.int q), (.int (Int32.ofNat 13)), (.ref lx), (.int (13 : Int32)), (.ref x220), (.ref x220), (.ref x219), (.ref x219)]))
    refine P246.callS (pc1 := 352) (wd hw (k := 15) rfl) (wd hw (k := 16) rfl) (wd hw (k := 3) rfl) (wd hw (k := 17) rfl) (by decide) (W.MetN.pay (W := 5) (c_chx l Z a0 hw lx lt lk 13 19 (by decide) own_f_cv (by decide) q c1 hc1 h246 LS246 (P246.extZ EZ all0) zc fm US) P246 (wd hw (k := 17) rfl) (wd hw (k := 3) rfl) (by decide) (by decide)) (argsL := [(.ref lx), (.int (Int32.ofNat 13)), (.int q), (.int c1)]) (st0 := [(.int (13 : Int32)), (.ref x220), (.ref x220), (.ref x219), (.ref x219)]) (lenOf pd_Ljava_lang_StringIIC_R_C rfl) rfl rfl (Nat.le_of_eq rfl) (by rw [hml]; rfl) (by decide) (by decide) (QBy.ok P246.chv) d21_349 rfl ?_
    intro v247 T247 h247 L247 q247 P247
    obtain ⟨rfl, rfl, r247, rfl, hr247⟩ := q247
    show W.Go p.tables e below _ (T247.setTop (mkF m 352 #[.val (.int q), .val (.int c1), .val (.ref lx)] [(.int r247), (.int (13 : Int32)), (.ref x220), (.ref x220), (.ref x219), (.ref x219)]))
    refine P247.stCg (pc1 := 353) (x := r247) G246 (i := 13) (by decide) (Or.inr (by rw [g220]; exact P219.sz)) (W.Arg.safe P247.al G246 (by decide)) d21_352 rfl ?_
    intro T248 h248 P248 W248 G248
    have Ex248 := Ex246.wr W248
    have Fv248 := Fv246.other W248 (Or.inl hne220)
    have Fc248 := Fc246.other W248 (Or.inl hne220)
    have Sx248 := Safe.wr W248 (W.Arg.safe P247.al G246 (by decide)) P247.chv Sx246
    have LS248 := LS246.other W248 hxa220 hta220
    refine W.g_dup (pc1 := 354) P248.q d21_353 rfl rfl ?_
    refine W.g_bipush (pc1 := 356) (v := (14 : Int32)) P248.q d21_354 (by decide) rfl ?_
    refine W.g_aloadN (pc1 := 357) P248.q d21_356 rfl rfl rfl ?_
    refine W.g_bipush (pc1 := 359) (v := (14 : Int32)) P248.q d21_357 (by decide) rfl ?_
    refine W.g_iloadN (pc1 := 360) P248.q d21_359 rfl rfl ?_
    refine W.g_iloadN (pc1 := 361) P248.q d21_360 rfl rfl ?_
    show W.Go p.tables e below _ (T248.setTop (mkF m 361 #[.val (.int q), .val (.int c1), .val (.ref lx)] [(.int c1), (.int q), (.int (Int32.ofNat 14)), (.ref lx), (.int (14 : Int32)), (.ref x220), (.ref x220), (.ref x219), (.ref x219)]))
    refine P248.callS (pc1 := 364) (wd hw (k := 15) rfl) (wd hw (k := 16) rfl) (wd hw (k := 3) rfl) (wd hw (k := 17) rfl) (by decide) (W.MetN.pay (W := 5) (c_chx l Z a0 hw lx lt lk 14 19 (by decide) own_f_cv (by decide) q c1 hc1 h248 LS248 (P248.extZ EZ all0) zc fm US) P248 (wd hw (k := 17) rfl) (wd hw (k := 3) rfl) (by decide) (by decide)) (argsL := [(.ref lx), (.int (Int32.ofNat 14)), (.int q), (.int c1)]) (st0 := [(.int (14 : Int32)), (.ref x220), (.ref x220), (.ref x219), (.ref x219)]) (lenOf pd_Ljava_lang_StringIIC_R_C rfl) rfl rfl (Nat.le_of_eq rfl) (by rw [hml]; rfl) (by decide) (by decide) (QBy.ok P248.chv) d21_361 rfl ?_
    intro v249 T249 h249 L249 q249 P249
    obtain ⟨rfl, rfl, r249, rfl, hr249⟩ := q249
    show W.Go p.tables e below _ (T249.setTop (mkF m 364 #[.val (.int q), .val (.int c1), .val (.ref lx)] [(.int r249), (.int (14 : Int32)), (.ref x220), (.ref x220), (.ref x219), (.ref x219)]))
    refine P249.stCg (pc1 := 365) (x := r249) G248 (i := 14) (by decide) (Or.inr (by rw [g220]; exact P219.sz)) (W.Arg.safe P249.al G248 (by decide)) d21_364 rfl ?_
    intro T250 h250 P250 W250 G250
    have Ex250 := Ex248.wr W250
    have Fv250 := Fv248.other W250 (Or.inl hne220)
    have Fc250 := Fc248.other W250 (Or.inl hne220)
    have Sx250 := Safe.wr W250 (W.Arg.safe P249.al G248 (by decide)) P249.chv Sx248
    have LS250 := LS248.other W250 hxa220 hta220
    refine W.g_dup (pc1 := 366) P250.q d21_365 rfl rfl ?_
    refine W.g_bipush (pc1 := 368) (v := (15 : Int32)) P250.q d21_366 (by decide) rfl ?_
    refine W.g_aloadN (pc1 := 369) P250.q d21_368 rfl rfl rfl ?_
    refine W.g_bipush (pc1 := 371) (v := (15 : Int32)) P250.q d21_369 (by decide) rfl ?_
    refine W.g_iloadN (pc1 := 372) P250.q d21_371 rfl rfl ?_
    refine W.g_iloadN (pc1 := 373) P250.q d21_372 rfl rfl ?_
    show W.Go p.tables e below _ (T250.setTop (mkF m 373 #[.val (.int q), .val (.int c1), .val (.ref lx)] [(.int c1), (.int q), (.int (Int32.ofNat 15)), (.ref lx), (.int (15 : Int32)), (.ref x220), (.ref x220), (.ref x219), (.ref x219)]))
    refine P250.callS (pc1 := 376) (wd hw (k := 15) rfl) (wd hw (k := 16) rfl) (wd hw (k := 3) rfl) (wd hw (k := 17) rfl) (by decide) (W.MetN.pay (W := 5) (c_chx l Z a0 hw lx lt lk 15 19 (by decide) own_f_cv (by decide) q c1 hc1 h250 LS250 (P250.extZ EZ all0) zc fm US) P250 (wd hw (k := 17) rfl) (wd hw (k := 3) rfl) (by decide) (by decide)) (argsL := [(.ref lx), (.int (Int32.ofNat 15)), (.int q), (.int c1)]) (st0 := [(.int (15 : Int32)), (.ref x220), (.ref x220), (.ref x219), (.ref x219)]) (lenOf pd_Ljava_lang_StringIIC_R_C rfl) rfl rfl (Nat.le_of_eq rfl) (by rw [hml]; rfl) (by decide) (by decide) (QBy.ok P250.chv) d21_373 rfl ?_
    intro v251 T251 h251 L251 q251 P251
    obtain ⟨rfl, rfl, r251, rfl, hr251⟩ := q251
    show W.Go p.tables e below _ (T251.setTop (mkF m 376 #[.val (.int q), .val (.int c1), .val (.ref lx)] [(.int r251), (.int (15 : Int32)), (.ref x220), (.ref x220), (.ref x219), (.ref x219)]))
    refine P251.stCg (pc1 := 377) (x := r251) G250 (i := 15) (by decide) (Or.inr (by rw [g220]; exact P219.sz)) (W.Arg.safe P251.al G250 (by decide)) d21_376 rfl ?_
    intro T252 h252 P252 W252 G252
    have Ex252 := Ex250.wr W252
    have Fv252 := Fv250.other W252 (Or.inl hne220)
    have Fc252 := Fc250.other W252 (Or.inl hne220)
    have Sx252 := Safe.wr W252 (W.Arg.safe P251.al G250 (by decide)) P251.chv Sx250
    have LS252 := LS250.other W252 hxa220 hta220
    refine W.g_dup (pc1 := 378) P252.q d21_377 rfl rfl ?_
    refine W.g_bipush (pc1 := 380) (v := (16 : Int32)) P252.q d21_378 (by decide) rfl ?_
    refine W.g_aloadN (pc1 := 381) P252.q d21_380 rfl rfl rfl ?_
    refine W.g_bipush (pc1 := 383) (v := (16 : Int32)) P252.q d21_381 (by decide) rfl ?_
    refine W.g_iloadN (pc1 := 384) P252.q d21_383 rfl rfl ?_
    refine W.g_iloadN (pc1 := 385) P252.q d21_384 rfl rfl ?_
    show W.Go p.tables e below _ (T252.setTop (mkF m 385 #[.val (.int q), .val (.int c1), .val (.ref lx)] [(.int c1), (.int q), (.int (Int32.ofNat 16)), (.ref lx), (.int (16 : Int32)), (.ref x220), (.ref x220), (.ref x219), (.ref x219)]))
    refine P252.callS (pc1 := 388) (wd hw (k := 15) rfl) (wd hw (k := 16) rfl) (wd hw (k := 3) rfl) (wd hw (k := 17) rfl) (by decide) (W.MetN.pay (W := 5) (c_chx l Z a0 hw lx lt lk 16 19 (by decide) own_f_cv (by decide) q c1 hc1 h252 LS252 (P252.extZ EZ all0) zc fm US) P252 (wd hw (k := 17) rfl) (wd hw (k := 3) rfl) (by decide) (by decide)) (argsL := [(.ref lx), (.int (Int32.ofNat 16)), (.int q), (.int c1)]) (st0 := [(.int (16 : Int32)), (.ref x220), (.ref x220), (.ref x219), (.ref x219)]) (lenOf pd_Ljava_lang_StringIIC_R_C rfl) rfl rfl (Nat.le_of_eq rfl) (by rw [hml]; rfl) (by decide) (by decide) (QBy.ok P252.chv) d21_385 rfl ?_
    intro v253 T253 h253 L253 q253 P253
    obtain ⟨rfl, rfl, r253, rfl, hr253⟩ := q253
    show W.Go p.tables e below _ (T253.setTop (mkF m 388 #[.val (.int q), .val (.int c1), .val (.ref lx)] [(.int r253), (.int (16 : Int32)), (.ref x220), (.ref x220), (.ref x219), (.ref x219)]))
    refine P253.stCg (pc1 := 389) (x := r253) G252 (i := 16) (by decide) (Or.inr (by rw [g220]; exact P219.sz)) (W.Arg.safe P253.al G252 (by decide)) d21_388 rfl ?_
    intro T254 h254 P254 W254 G254
    have Ex254 := Ex252.wr W254
    have Fv254 := Fv252.other W254 (Or.inl hne220)
    have Fc254 := Fc252.other W254 (Or.inl hne220)
    have Sx254 := Safe.wr W254 (W.Arg.safe P253.al G252 (by decide)) P253.chv Sx252
    have LS254 := LS252.other W254 hxa220 hta220
    refine W.g_dup (pc1 := 390) P254.q d21_389 rfl rfl ?_
    refine W.g_bipush (pc1 := 392) (v := (17 : Int32)) P254.q d21_390 (by decide) rfl ?_
    refine W.g_aloadN (pc1 := 393) P254.q d21_392 rfl rfl rfl ?_
    refine W.g_bipush (pc1 := 395) (v := (17 : Int32)) P254.q d21_393 (by decide) rfl ?_
    refine W.g_iloadN (pc1 := 396) P254.q d21_395 rfl rfl ?_
    refine W.g_iloadN (pc1 := 397) P254.q d21_396 rfl rfl ?_
    show W.Go p.tables e below _ (T254.setTop (mkF m 397 #[.val (.int q), .val (.int c1), .val (.ref lx)] [(.int c1), (.int q), (.int (Int32.ofNat 17)), (.ref lx), (.int (17 : Int32)), (.ref x220), (.ref x220), (.ref x219), (.ref x219)]))
    refine P254.callS (pc1 := 400) (wd hw (k := 15) rfl) (wd hw (k := 16) rfl) (wd hw (k := 3) rfl) (wd hw (k := 17) rfl) (by decide) (W.MetN.pay (W := 5) (c_chx l Z a0 hw lx lt lk 17 19 (by decide) own_f_cv (by decide) q c1 hc1 h254 LS254 (P254.extZ EZ all0) zc fm US) P254 (wd hw (k := 17) rfl) (wd hw (k := 3) rfl) (by decide) (by decide)) (argsL := [(.ref lx), (.int (Int32.ofNat 17)), (.int q), (.int c1)]) (st0 := [(.int (17 : Int32)), (.ref x220), (.ref x220), (.ref x219), (.ref x219)]) (lenOf pd_Ljava_lang_StringIIC_R_C rfl) rfl rfl (Nat.le_of_eq rfl) (by rw [hml]; rfl) (by decide) (by decide) (QBy.ok P254.chv) d21_397 rfl ?_
    intro v255 T255 h255 L255 q255 P255
    obtain ⟨rfl, rfl, r255, rfl, hr255⟩ := q255
    show W.Go p.tables e below _ (T255.setTop (mkF m 400 #[.val (.int q), .val (.int c1), .val (.ref lx)] [(.int r255), (.int (17 : Int32)), (.ref x220), (.ref x220), (.ref x219), (.ref x219)]))
    refine P255.stCg (pc1 := 401) (x := r255) G254 (i := 17) (by decide) (Or.inr (by rw [g220]; exact P219.sz)) (W.Arg.safe P255.al G254 (by decide)) d21_400 rfl ?_
    intro T256 h256 P256 W256 G256
    have Ex256 := Ex254.wr W256
    have Fv256 := Fv254.other W256 (Or.inl hne220)
    have Fc256 := Fc254.other W256 (Or.inl hne220)
    have Sx256 := Safe.wr W256 (W.Arg.safe P255.al G254 (by decide)) P255.chv Sx254
    have LS256 := LS254.other W256 hxa220 hta220
    refine W.g_dup (pc1 := 402) P256.q d21_401 rfl rfl ?_
    refine W.g_bipush (pc1 := 404) (v := (18 : Int32)) P256.q d21_402 (by decide) rfl ?_
    refine W.g_aloadN (pc1 := 405) P256.q d21_404 rfl rfl rfl ?_
    refine W.g_bipush (pc1 := 407) (v := (18 : Int32)) P256.q d21_405 (by decide) rfl ?_
    refine W.g_iloadN (pc1 := 408) P256.q d21_407 rfl rfl ?_
    refine W.g_iloadN (pc1 := 409) P256.q d21_408 rfl rfl ?_
    show W.Go p.tables e below _ (T256.setTop (mkF m 409 #[.val (.int q), .val (.int c1), .val (.ref lx)] [(.int c1), (.int q), (.int (Int32.ofNat 18)), (.ref lx), (.int (18 : Int32)), (.ref x220), (.ref x220), (.ref x219), (.ref x219)]))
    refine P256.callS (pc1 := 412) (wd hw (k := 15) rfl) (wd hw (k := 16) rfl) (wd hw (k := 3) rfl) (wd hw (k := 17) rfl) (by decide) (W.MetN.pay (W := 5) (c_chx l Z a0 hw lx lt lk 18 19 (by decide) own_f_cv (by decide) q c1 hc1 h256 LS256 (P256.extZ EZ all0) zc fm US) P256 (wd hw (k := 17) rfl) (wd hw (k := 3) rfl) (by decide) (by decide)) (argsL := [(.ref lx), (.int (Int32.ofNat 18)), (.int q), (.int c1)]) (st0 := [(.int (18 : Int32)), (.ref x220), (.ref x220), (.ref x219), (.ref x219)]) (lenOf pd_Ljava_lang_StringIIC_R_C rfl) rfl rfl (Nat.le_of_eq rfl) (by rw [hml]; rfl) (by decide) (by decide) (QBy.ok P256.chv) d21_409 rfl ?_
    intro v257 T257 h257 L257 q257 P257
    obtain ⟨rfl, rfl, r257, rfl, hr257⟩ := q257
    show W.Go p.tables e below _ (T257.setTop (mkF m 412 #[.val (.int q), .val (.int c1), .val (.ref lx)] [(.int r257), (.int (18 : Int32)), (.ref x220), (.ref x220), (.ref x219), (.ref x219)]))
    refine P257.stCg (pc1 := 413) (x := r257) G256 (i := 18) (by decide) (Or.inr (by rw [g220]; exact P219.sz)) (W.Arg.safe P257.al G256 (by decide)) d21_412 rfl ?_
    intro T258 h258 P258 W258 G258
    have Ex258 := Ex256.wr W258
    have Fv258 := Fv256.other W258 (Or.inl hne220)
    have Fc258 := Fc256.other W258 (Or.inl hne220)
    have Sx258 := Safe.wr W258 (W.Arg.safe P257.al G256 (by decide)) P257.chv Sx256
    have LS258 := LS256.other W258 hxa220 hta220
    have VL258 : Arv Z h258 x220 k220 .char 19 (([r221, r223, r225, r227, r229, r231, r233, r235, r237, r239, r241, r243, r245, r247, r249, r251, r253, r255, r257] : List Int32).map Value.int) (.int 0) := W.Arg.list G258 rfl (fun i hi => match i, hi with | 0, _ => own_narc (hr221).ch | 1, _ => own_narc (hr223).ch | 2, _ => own_narc (hr225).ch | 3, _ => own_narc (hr227).ch | 4, _ => own_narc (hr229).ch | 5, _ => own_narc (hr231).ch | 6, _ => own_narc (hr233).ch | 7, _ => own_narc (hr235).ch | 8, _ => own_narc (hr237).ch | 9, _ => own_narc (hr239).ch | 10, _ => own_narc (hr241).ch | 11, _ => own_narc (hr243).ch | 12, _ => own_narc (hr245).ch | 13, _ => own_narc (hr247).ch | 14, _ => own_narc (hr249).ch | 15, _ => own_narc (hr251).ch | 16, _ => own_narc (hr253).ch | 17, _ => own_narc (hr255).ch | 18, _ => own_narc (hr257).ch | k + 19, hk => absurd hk (Nat.not_lt.mpr (Nat.le_add_left _ _)))
    have hp258 : ∀ c ∈ ([r221, r223, r225, r227, r229, r231, r233, r235, r237, r239, r241, r243, r245, r247, r249, r251, r253, r255, r257] : List Int32), ¬ c < 0 ∧ ¬ (255 : Int32) < c := (List.forall_mem_cons.mpr ⟨hr221, (List.forall_mem_cons.mpr ⟨hr223, (List.forall_mem_cons.mpr ⟨hr225, (List.forall_mem_cons.mpr ⟨hr227, (List.forall_mem_cons.mpr ⟨hr229, (List.forall_mem_cons.mpr ⟨hr231, (List.forall_mem_cons.mpr ⟨hr233, (List.forall_mem_cons.mpr ⟨hr235, (List.forall_mem_cons.mpr ⟨hr237, (List.forall_mem_cons.mpr ⟨hr239, (List.forall_mem_cons.mpr ⟨hr241, (List.forall_mem_cons.mpr ⟨hr243, (List.forall_mem_cons.mpr ⟨hr245, (List.forall_mem_cons.mpr ⟨hr247, (List.forall_mem_cons.mpr ⟨hr249, (List.forall_mem_cons.mpr ⟨hr251, (List.forall_mem_cons.mpr ⟨hr253, (List.forall_mem_cons.mpr ⟨hr255, (List.forall_mem_cons.mpr ⟨hr257, (fun c hc => absurd hc (List.not_mem_nil))⟩)⟩)⟩)⟩)⟩)⟩)⟩)⟩)⟩)⟩)⟩)⟩)⟩)⟩)⟩)⟩)⟩)⟩)⟩)
    refine P258.callN (pc1 := 416) rfl (wd hw (k := 43) rfl) (wd hw (k := 44) rfl) (wd hw (k := 45) rfl) (by decide) (StrChars.Road.backV (W := 1) P258.hz hws (kI := 4) (wd hw (k := 7) rfl) (cs := [r221, r223, r225, r227, r229, r231, r233, r235, r237, r239, r241, r243, r245, r247, r249, r251, r253, r255, r257]) (bs := ([r221, r223, r225, r227, r229, r231, r233, r235, r237, r239, r241, r243, r245, r247, r249, r251, r253, r255, r257]).map (fun c => c.toInt8.toInt32)) (n := 19) (n0 := h0.size) (by rw [g219]; exact P1.sz) P258.sz Ex258 Fv258 Fc258 VL258 (US.2.1.ext (P258.extZ EZ all0)) US.1 rfl rfl (by decide) (by decide) hp258 rfl (by decide) (by decide)) (argsL := [(.ref x220)]) (st0 := [(.ref x219)]) (lenOf pd_AC_R_V rfl) rfl rfl (Nat.le_of_eq rfl) (by rw [hml]; rfl) (by decide) (by decide) (fun _ _ _ q => ⟨W.Frw.of_fr q.2.1 (Nat.le_refl _), CHr.keep q.2.2.1 (sfS Sx258 sf0) P258.chv⟩) d21_413 rfl ?_
    intro v259 T259 h259 L259 q259 P259
    obtain ⟨rfl, f259, K259, A259, C259, t259, k259, b259, c259, d259, F259, V259⟩ := q259
    show W.Go p.tables e below _ (T259.setTop (mkF m 416 #[.val (.int q), .val (.int c1), .val (.ref lx)] [(.ref x219)]))
    have S259 : W.Str Z h259 x219 [r221, r223, r225, r227, r229, r231, r233, r235, r237, r239, r241, r243, r245, r247, r249, r251, r253, r255, r257] := ⟨t259, k259, _, _, _, A259, F259, C259, V259, StrChars.Road.codOf (cs := [r221, r223, r225, r227, r229, r231, r233, r235, r237, r239, r241, r243, r245, r247, r249, r251, r253, r255, r257]) (n := 19) rfl (fun c hc => (hp258 c hc).2), fun c hc => ⟨(hp258 c hc).1, own_up (hp258 c hc).2⟩, Nat.le_of_ble_eq_true rfl⟩
    exact P259.retAW hEL hlk hret rfl rfl rfl d21_416 (by decide) (by decide) ⟨x219, [r221, r223, r225, r227, r229, r231, r233, r235, r237, r239, r241, r243, r245, r247, r249, r251, r253, r255, r257], rfl, P259.fr, P259.ext0, S259⟩
  · refine P1.newO (pc1 := 12) (wd hw (k := 13) rfl) (wd hw (k := 7) rfl) (wd hw (k := 6) rfl) (by decide) (by decide) d21_9 rfl ?_
    intro T260 h260 x260 g260 P260 E260 A260 D260 U260
    refine W.g_dup (pc1 := 13) P260.q d21_12 rfl rfl ?_
    refine W.g_bipush (pc1 := 15) (v := (18 : Int32)) P260.q d21_13 (by decide) rfl ?_
    have Fv260 : Fld Z h260 x260 "java/lang/String" "value" "[B" .null := D260 (Or.inr (wd hw (k := 9) rfl)) (ty := .array .byte) (by decide)
    have Fc260 : Fld Z h260 x260 "java/lang/String" "coder" "B" (.int 0) := D260 (Or.inr (wd hw (k := 10) rfl)) (ty := .byte) (by decide)
    have Sx260 := Safe.ext (EL := ownEL) E260 P1.chv (Safe.new (Nat.le_of_eq g260.symm))
    refine P260.newP (pc1 := 17) (cap := 18) (wd hw (k := 14) rfl) (by decide) (by decide) (by decide) (by decide) (by decide) d21_15 rfl ?_
    intro T261 h261 x261 k261 g261 P261 E261 V261
    have hne261 : x260 ≠ x261 := Nat.ne_of_lt (by rw [g261]; exact A260.lt)
    have Ex261 := A260.ext E261
    have Fv261 := Fv260.ext E261
    have Fc261 := Fc260.ext E261
    have Sx261 := Safe.ext E261 P260.chv Sx260
    have G261 : W.Arg Z h261 x261 k261 .char 18 (fun _ => 0) := W.Arg.new (by decide) V261
    have LS261 := (LS.ext E260).ext E261
    have hxa261 : lx ≠ x261 := Nat.ne_of_lt (by rw [g261]; exact (LS.ext E260).1.lt)
    have hta261 : lt ≠ x261 := Nat.ne_of_lt (by rw [g261]; exact (LS.ext E260).2.2.2.1.lt)
    refine W.g_dup (pc1 := 18) P261.q d21_17 rfl rfl ?_
    refine W.g_iconst (pc1 := 19) (v := (0 : Int32)) P261.q d21_18 (by decide) rfl ?_
    refine W.g_aloadN (pc1 := 20) P261.q d21_19 rfl rfl rfl ?_
    refine W.g_iconst (pc1 := 21) (v := (0 : Int32)) P261.q d21_20 (by decide) rfl ?_
    show W.Go p.tables e below _ (T261.setTop (mkF m 21 #[.val (.int q), .val (.int c1), .val (.ref lx)] [(.int (Int32.ofNat 0)), (.ref lx), (.int (0 : Int32)), (.ref x261), (.ref x261), (.ref x260), (.ref x260)]))
    refine P261.callV (pc1 := 24) LS261.1 (wd hw (k := 18) rfl) (wd hw (k := 19) rfl) (wd hw (k := 21) rfl) (wd hw (k := 20) rfl) (notFace_of_selects (args := #[]) (mvT P261.hz (wd hw (k := 21) rfl))) (by decide) (W.MetN.pay (W := 5) (c_ch l Z a0 hw lx lt lk 0 19 (by decide) own_f_cv (by decide) h261 LS261 (P261.extZ EZ all0) zc fm US) P261 (wd hw (k := 22) rfl) (wd hw (k := 6) rfl) (by decide) (by decide)) (argsL := [(.int (Int32.ofNat 0))]) (st0 := [(.int (0 : Int32)), (.ref x261), (.ref x261), (.ref x260), (.ref x260)]) (lenOf pd_I_R_C rfl) rfl rfl (Nat.le_of_eq rfl) (by rw [hml]; rfl) (by decide) (by decide) (W.Pure.ok P261.chv) d21_21 rfl ?_
    intro v262 T262 h262 L262 q262 P262
    obtain ⟨rfl, rfl, rfl⟩ := q262
    show W.Go p.tables e below _ (T262.setTop (mkF m 24 #[.val (.int q), .val (.int c1), .val (.ref lx)] [(.int (own_f_cv 0)), (.int (0 : Int32)), (.ref x261), (.ref x261), (.ref x260), (.ref x260)]))
    refine P262.stCg (pc1 := 25) (x := (own_f_cv 0)) G261 (i := 0) (by decide) (Or.inr (by rw [g261]; exact P260.sz)) (W.Arg.safe P262.al G261 (by decide)) d21_24 rfl ?_
    intro T263 h263 P263 W263 G263
    have Ex263 := Ex261.wr W263
    have Fv263 := Fv261.other W263 (Or.inl hne261)
    have Fc263 := Fc261.other W263 (Or.inl hne261)
    have Sx263 := Safe.wr W263 (W.Arg.safe P262.al G261 (by decide)) P262.chv Sx261
    have LS263 := LS261.other W263 hxa261 hta261
    refine W.g_dup (pc1 := 26) P263.q d21_25 rfl rfl ?_
    refine W.g_iconst (pc1 := 27) (v := (1 : Int32)) P263.q d21_26 (by decide) rfl ?_
    refine W.g_aloadN (pc1 := 28) P263.q d21_27 rfl rfl rfl ?_
    refine W.g_iconst (pc1 := 29) (v := (1 : Int32)) P263.q d21_28 (by decide) rfl ?_
    show W.Go p.tables e below _ (T263.setTop (mkF m 29 #[.val (.int q), .val (.int c1), .val (.ref lx)] [(.int (Int32.ofNat 1)), (.ref lx), (.int (1 : Int32)), (.ref x261), (.ref x261), (.ref x260), (.ref x260)]))
    refine P263.callV (pc1 := 32) LS263.1 (wd hw (k := 18) rfl) (wd hw (k := 19) rfl) (wd hw (k := 21) rfl) (wd hw (k := 20) rfl) (notFace_of_selects (args := #[]) (mvT P263.hz (wd hw (k := 21) rfl))) (by decide) (W.MetN.pay (W := 5) (c_ch l Z a0 hw lx lt lk 1 19 (by decide) own_f_cv (by decide) h263 LS263 (P263.extZ EZ all0) zc fm US) P263 (wd hw (k := 22) rfl) (wd hw (k := 6) rfl) (by decide) (by decide)) (argsL := [(.int (Int32.ofNat 1))]) (st0 := [(.int (1 : Int32)), (.ref x261), (.ref x261), (.ref x260), (.ref x260)]) (lenOf pd_I_R_C rfl) rfl rfl (Nat.le_of_eq rfl) (by rw [hml]; rfl) (by decide) (by decide) (W.Pure.ok P263.chv) d21_29 rfl ?_
    intro v264 T264 h264 L264 q264 P264
    obtain ⟨rfl, rfl, rfl⟩ := q264
    show W.Go p.tables e below _ (T264.setTop (mkF m 32 #[.val (.int q), .val (.int c1), .val (.ref lx)] [(.int (own_f_cv 1)), (.int (1 : Int32)), (.ref x261), (.ref x261), (.ref x260), (.ref x260)]))
    refine P264.stCg (pc1 := 33) (x := (own_f_cv 1)) G263 (i := 1) (by decide) (Or.inr (by rw [g261]; exact P260.sz)) (W.Arg.safe P264.al G263 (by decide)) d21_32 rfl ?_
    intro T265 h265 P265 W265 G265
    have Ex265 := Ex263.wr W265
    have Fv265 := Fv263.other W265 (Or.inl hne261)
    have Fc265 := Fc263.other W265 (Or.inl hne261)
    have Sx265 := Safe.wr W265 (W.Arg.safe P264.al G263 (by decide)) P264.chv Sx263
    have LS265 := LS263.other W265 hxa261 hta261
    refine W.g_dup (pc1 := 34) P265.q d21_33 rfl rfl ?_
    refine W.g_iconst (pc1 := 35) (v := (2 : Int32)) P265.q d21_34 (by decide) rfl ?_
    refine W.g_aloadN (pc1 := 36) P265.q d21_35 rfl rfl rfl ?_
    refine W.g_iconst (pc1 := 37) (v := (2 : Int32)) P265.q d21_36 (by decide) rfl ?_
    show W.Go p.tables e below _ (T265.setTop (mkF m 37 #[.val (.int q), .val (.int c1), .val (.ref lx)] [(.int (Int32.ofNat 2)), (.ref lx), (.int (2 : Int32)), (.ref x261), (.ref x261), (.ref x260), (.ref x260)]))
    refine P265.callV (pc1 := 40) LS265.1 (wd hw (k := 18) rfl) (wd hw (k := 19) rfl) (wd hw (k := 21) rfl) (wd hw (k := 20) rfl) (notFace_of_selects (args := #[]) (mvT P265.hz (wd hw (k := 21) rfl))) (by decide) (W.MetN.pay (W := 5) (c_ch l Z a0 hw lx lt lk 2 19 (by decide) own_f_cv (by decide) h265 LS265 (P265.extZ EZ all0) zc fm US) P265 (wd hw (k := 22) rfl) (wd hw (k := 6) rfl) (by decide) (by decide)) (argsL := [(.int (Int32.ofNat 2))]) (st0 := [(.int (2 : Int32)), (.ref x261), (.ref x261), (.ref x260), (.ref x260)]) (lenOf pd_I_R_C rfl) rfl rfl (Nat.le_of_eq rfl) (by rw [hml]; rfl) (by decide) (by decide) (W.Pure.ok P265.chv) d21_37 rfl ?_
    intro v266 T266 h266 L266 q266 P266
    obtain ⟨rfl, rfl, rfl⟩ := q266
    show W.Go p.tables e below _ (T266.setTop (mkF m 40 #[.val (.int q), .val (.int c1), .val (.ref lx)] [(.int (own_f_cv 2)), (.int (2 : Int32)), (.ref x261), (.ref x261), (.ref x260), (.ref x260)]))
    refine P266.stCg (pc1 := 41) (x := (own_f_cv 2)) G265 (i := 2) (by decide) (Or.inr (by rw [g261]; exact P260.sz)) (W.Arg.safe P266.al G265 (by decide)) d21_40 rfl ?_
    intro T267 h267 P267 W267 G267
    have Ex267 := Ex265.wr W267
    have Fv267 := Fv265.other W267 (Or.inl hne261)
    have Fc267 := Fc265.other W267 (Or.inl hne261)
    have Sx267 := Safe.wr W267 (W.Arg.safe P266.al G265 (by decide)) P266.chv Sx265
    have LS267 := LS265.other W267 hxa261 hta261
    refine W.g_dup (pc1 := 42) P267.q d21_41 rfl rfl ?_
    refine W.g_iconst (pc1 := 43) (v := (3 : Int32)) P267.q d21_42 (by decide) rfl ?_
    refine W.g_aloadN (pc1 := 44) P267.q d21_43 rfl rfl rfl ?_
    refine W.g_iconst (pc1 := 45) (v := (3 : Int32)) P267.q d21_44 (by decide) rfl ?_
    show W.Go p.tables e below _ (T267.setTop (mkF m 45 #[.val (.int q), .val (.int c1), .val (.ref lx)] [(.int (Int32.ofNat 3)), (.ref lx), (.int (3 : Int32)), (.ref x261), (.ref x261), (.ref x260), (.ref x260)]))
    refine P267.callV (pc1 := 48) LS267.1 (wd hw (k := 18) rfl) (wd hw (k := 19) rfl) (wd hw (k := 21) rfl) (wd hw (k := 20) rfl) (notFace_of_selects (args := #[]) (mvT P267.hz (wd hw (k := 21) rfl))) (by decide) (W.MetN.pay (W := 5) (c_ch l Z a0 hw lx lt lk 3 19 (by decide) own_f_cv (by decide) h267 LS267 (P267.extZ EZ all0) zc fm US) P267 (wd hw (k := 22) rfl) (wd hw (k := 6) rfl) (by decide) (by decide)) (argsL := [(.int (Int32.ofNat 3))]) (st0 := [(.int (3 : Int32)), (.ref x261), (.ref x261), (.ref x260), (.ref x260)]) (lenOf pd_I_R_C rfl) rfl rfl (Nat.le_of_eq rfl) (by rw [hml]; rfl) (by decide) (by decide) (W.Pure.ok P267.chv) d21_45 rfl ?_
    intro v268 T268 h268 L268 q268 P268
    obtain ⟨rfl, rfl, rfl⟩ := q268
    show W.Go p.tables e below _ (T268.setTop (mkF m 48 #[.val (.int q), .val (.int c1), .val (.ref lx)] [(.int (own_f_cv 3)), (.int (3 : Int32)), (.ref x261), (.ref x261), (.ref x260), (.ref x260)]))
    refine P268.stCg (pc1 := 49) (x := (own_f_cv 3)) G267 (i := 3) (by decide) (Or.inr (by rw [g261]; exact P260.sz)) (W.Arg.safe P268.al G267 (by decide)) d21_48 rfl ?_
    intro T269 h269 P269 W269 G269
    have Ex269 := Ex267.wr W269
    have Fv269 := Fv267.other W269 (Or.inl hne261)
    have Fc269 := Fc267.other W269 (Or.inl hne261)
    have Sx269 := Safe.wr W269 (W.Arg.safe P268.al G267 (by decide)) P268.chv Sx267
    have LS269 := LS267.other W269 hxa261 hta261
    refine W.g_dup (pc1 := 50) P269.q d21_49 rfl rfl ?_
    refine W.g_iconst (pc1 := 51) (v := (4 : Int32)) P269.q d21_50 (by decide) rfl ?_
    refine W.g_aloadN (pc1 := 52) P269.q d21_51 rfl rfl rfl ?_
    refine W.g_iconst (pc1 := 53) (v := (4 : Int32)) P269.q d21_52 (by decide) rfl ?_
    show W.Go p.tables e below _ (T269.setTop (mkF m 53 #[.val (.int q), .val (.int c1), .val (.ref lx)] [(.int (Int32.ofNat 4)), (.ref lx), (.int (4 : Int32)), (.ref x261), (.ref x261), (.ref x260), (.ref x260)]))
    refine P269.callV (pc1 := 56) LS269.1 (wd hw (k := 18) rfl) (wd hw (k := 19) rfl) (wd hw (k := 21) rfl) (wd hw (k := 20) rfl) (notFace_of_selects (args := #[]) (mvT P269.hz (wd hw (k := 21) rfl))) (by decide) (W.MetN.pay (W := 5) (c_ch l Z a0 hw lx lt lk 4 19 (by decide) own_f_cv (by decide) h269 LS269 (P269.extZ EZ all0) zc fm US) P269 (wd hw (k := 22) rfl) (wd hw (k := 6) rfl) (by decide) (by decide)) (argsL := [(.int (Int32.ofNat 4))]) (st0 := [(.int (4 : Int32)), (.ref x261), (.ref x261), (.ref x260), (.ref x260)]) (lenOf pd_I_R_C rfl) rfl rfl (Nat.le_of_eq rfl) (by rw [hml]; rfl) (by decide) (by decide) (W.Pure.ok P269.chv) d21_53 rfl ?_
    intro v270 T270 h270 L270 q270 P270
    obtain ⟨rfl, rfl, rfl⟩ := q270
    show W.Go p.tables e below _ (T270.setTop (mkF m 56 #[.val (.int q), .val (.int c1), .val (.ref lx)] [(.int (own_f_cv 4)), (.int (4 : Int32)), (.ref x261), (.ref x261), (.ref x260), (.ref x260)]))
    refine P270.stCg (pc1 := 57) (x := (own_f_cv 4)) G269 (i := 4) (by decide) (Or.inr (by rw [g261]; exact P260.sz)) (W.Arg.safe P270.al G269 (by decide)) d21_56 rfl ?_
    intro T271 h271 P271 W271 G271
    have Ex271 := Ex269.wr W271
    have Fv271 := Fv269.other W271 (Or.inl hne261)
    have Fc271 := Fc269.other W271 (Or.inl hne261)
    have Sx271 := Safe.wr W271 (W.Arg.safe P270.al G269 (by decide)) P270.chv Sx269
    have LS271 := LS269.other W271 hxa261 hta261
    refine W.g_dup (pc1 := 58) P271.q d21_57 rfl rfl ?_
    refine W.g_iconst (pc1 := 59) (v := (5 : Int32)) P271.q d21_58 (by decide) rfl ?_
    refine W.g_aloadN (pc1 := 60) P271.q d21_59 rfl rfl rfl ?_
    refine W.g_iconst (pc1 := 61) (v := (5 : Int32)) P271.q d21_60 (by decide) rfl ?_
    show W.Go p.tables e below _ (T271.setTop (mkF m 61 #[.val (.int q), .val (.int c1), .val (.ref lx)] [(.int (Int32.ofNat 5)), (.ref lx), (.int (5 : Int32)), (.ref x261), (.ref x261), (.ref x260), (.ref x260)]))
    refine P271.callV (pc1 := 64) LS271.1 (wd hw (k := 18) rfl) (wd hw (k := 19) rfl) (wd hw (k := 21) rfl) (wd hw (k := 20) rfl) (notFace_of_selects (args := #[]) (mvT P271.hz (wd hw (k := 21) rfl))) (by decide) (W.MetN.pay (W := 5) (c_ch l Z a0 hw lx lt lk 5 19 (by decide) own_f_cv (by decide) h271 LS271 (P271.extZ EZ all0) zc fm US) P271 (wd hw (k := 22) rfl) (wd hw (k := 6) rfl) (by decide) (by decide)) (argsL := [(.int (Int32.ofNat 5))]) (st0 := [(.int (5 : Int32)), (.ref x261), (.ref x261), (.ref x260), (.ref x260)]) (lenOf pd_I_R_C rfl) rfl rfl (Nat.le_of_eq rfl) (by rw [hml]; rfl) (by decide) (by decide) (W.Pure.ok P271.chv) d21_61 rfl ?_
    intro v272 T272 h272 L272 q272 P272
    obtain ⟨rfl, rfl, rfl⟩ := q272
    show W.Go p.tables e below _ (T272.setTop (mkF m 64 #[.val (.int q), .val (.int c1), .val (.ref lx)] [(.int (own_f_cv 5)), (.int (5 : Int32)), (.ref x261), (.ref x261), (.ref x260), (.ref x260)]))
    refine P272.stCg (pc1 := 65) (x := (own_f_cv 5)) G271 (i := 5) (by decide) (Or.inr (by rw [g261]; exact P260.sz)) (W.Arg.safe P272.al G271 (by decide)) d21_64 rfl ?_
    intro T273 h273 P273 W273 G273
    have Ex273 := Ex271.wr W273
    have Fv273 := Fv271.other W273 (Or.inl hne261)
    have Fc273 := Fc271.other W273 (Or.inl hne261)
    have Sx273 := Safe.wr W273 (W.Arg.safe P272.al G271 (by decide)) P272.chv Sx271
    have LS273 := LS271.other W273 hxa261 hta261
    refine W.g_dup (pc1 := 66) P273.q d21_65 rfl rfl ?_
    refine W.g_bipush (pc1 := 68) (v := (6 : Int32)) P273.q d21_66 (by decide) rfl ?_
    refine W.g_aloadN (pc1 := 69) P273.q d21_68 rfl rfl rfl ?_
    refine W.g_bipush (pc1 := 71) (v := (6 : Int32)) P273.q d21_69 (by decide) rfl ?_
    show W.Go p.tables e below _ (T273.setTop (mkF m 71 #[.val (.int q), .val (.int c1), .val (.ref lx)] [(.int (Int32.ofNat 6)), (.ref lx), (.int (6 : Int32)), (.ref x261), (.ref x261), (.ref x260), (.ref x260)]))
    refine P273.callV (pc1 := 74) LS273.1 (wd hw (k := 18) rfl) (wd hw (k := 19) rfl) (wd hw (k := 21) rfl) (wd hw (k := 20) rfl) (notFace_of_selects (args := #[]) (mvT P273.hz (wd hw (k := 21) rfl))) (by decide) (W.MetN.pay (W := 5) (c_ch l Z a0 hw lx lt lk 6 19 (by decide) own_f_cv (by decide) h273 LS273 (P273.extZ EZ all0) zc fm US) P273 (wd hw (k := 22) rfl) (wd hw (k := 6) rfl) (by decide) (by decide)) (argsL := [(.int (Int32.ofNat 6))]) (st0 := [(.int (6 : Int32)), (.ref x261), (.ref x261), (.ref x260), (.ref x260)]) (lenOf pd_I_R_C rfl) rfl rfl (Nat.le_of_eq rfl) (by rw [hml]; rfl) (by decide) (by decide) (W.Pure.ok P273.chv) d21_71 rfl ?_
    intro v274 T274 h274 L274 q274 P274
    obtain ⟨rfl, rfl, rfl⟩ := q274
    show W.Go p.tables e below _ (T274.setTop (mkF m 74 #[.val (.int q), .val (.int c1), .val (.ref lx)] [(.int (own_f_cv 6)), (.int (6 : Int32)), (.ref x261), (.ref x261), (.ref x260), (.ref x260)]))
    refine P274.stCg (pc1 := 75) (x := (own_f_cv 6)) G273 (i := 6) (by decide) (Or.inr (by rw [g261]; exact P260.sz)) (W.Arg.safe P274.al G273 (by decide)) d21_74 rfl ?_
    intro T275 h275 P275 W275 G275
    have Ex275 := Ex273.wr W275
    have Fv275 := Fv273.other W275 (Or.inl hne261)
    have Fc275 := Fc273.other W275 (Or.inl hne261)
    have Sx275 := Safe.wr W275 (W.Arg.safe P274.al G273 (by decide)) P274.chv Sx273
    have LS275 := LS273.other W275 hxa261 hta261
    refine W.g_dup (pc1 := 76) P275.q d21_75 rfl rfl ?_
    refine W.g_bipush (pc1 := 78) (v := (7 : Int32)) P275.q d21_76 (by decide) rfl ?_
    refine W.g_aloadN (pc1 := 79) P275.q d21_78 rfl rfl rfl ?_
    refine W.g_bipush (pc1 := 81) (v := (7 : Int32)) P275.q d21_79 (by decide) rfl ?_
    show W.Go p.tables e below _ (T275.setTop (mkF m 81 #[.val (.int q), .val (.int c1), .val (.ref lx)] [(.int (Int32.ofNat 7)), (.ref lx), (.int (7 : Int32)), (.ref x261), (.ref x261), (.ref x260), (.ref x260)]))
    refine P275.callV (pc1 := 84) LS275.1 (wd hw (k := 18) rfl) (wd hw (k := 19) rfl) (wd hw (k := 21) rfl) (wd hw (k := 20) rfl) (notFace_of_selects (args := #[]) (mvT P275.hz (wd hw (k := 21) rfl))) (by decide) (W.MetN.pay (W := 5) (c_ch l Z a0 hw lx lt lk 7 19 (by decide) own_f_cv (by decide) h275 LS275 (P275.extZ EZ all0) zc fm US) P275 (wd hw (k := 22) rfl) (wd hw (k := 6) rfl) (by decide) (by decide)) (argsL := [(.int (Int32.ofNat 7))]) (st0 := [(.int (7 : Int32)), (.ref x261), (.ref x261), (.ref x260), (.ref x260)]) (lenOf pd_I_R_C rfl) rfl rfl (Nat.le_of_eq rfl) (by rw [hml]; rfl) (by decide) (by decide) (W.Pure.ok P275.chv) d21_81 rfl ?_
    intro v276 T276 h276 L276 q276 P276
    obtain ⟨rfl, rfl, rfl⟩ := q276
    show W.Go p.tables e below _ (T276.setTop (mkF m 84 #[.val (.int q), .val (.int c1), .val (.ref lx)] [(.int (own_f_cv 7)), (.int (7 : Int32)), (.ref x261), (.ref x261), (.ref x260), (.ref x260)]))
    refine P276.stCg (pc1 := 85) (x := (own_f_cv 7)) G275 (i := 7) (by decide) (Or.inr (by rw [g261]; exact P260.sz)) (W.Arg.safe P276.al G275 (by decide)) d21_84 rfl ?_
    intro T277 h277 P277 W277 G277
    have Ex277 := Ex275.wr W277
    have Fv277 := Fv275.other W277 (Or.inl hne261)
    have Fc277 := Fc275.other W277 (Or.inl hne261)
    have Sx277 := Safe.wr W277 (W.Arg.safe P276.al G275 (by decide)) P276.chv Sx275
    have LS277 := LS275.other W277 hxa261 hta261
    refine W.g_dup (pc1 := 86) P277.q d21_85 rfl rfl ?_
    refine W.g_bipush (pc1 := 88) (v := (8 : Int32)) P277.q d21_86 (by decide) rfl ?_
    refine W.g_aloadN (pc1 := 89) P277.q d21_88 rfl rfl rfl ?_
    refine W.g_bipush (pc1 := 91) (v := (8 : Int32)) P277.q d21_89 (by decide) rfl ?_
    show W.Go p.tables e below _ (T277.setTop (mkF m 91 #[.val (.int q), .val (.int c1), .val (.ref lx)] [(.int (Int32.ofNat 8)), (.ref lx), (.int (8 : Int32)), (.ref x261), (.ref x261), (.ref x260), (.ref x260)]))
    refine P277.callV (pc1 := 94) LS277.1 (wd hw (k := 18) rfl) (wd hw (k := 19) rfl) (wd hw (k := 21) rfl) (wd hw (k := 20) rfl) (notFace_of_selects (args := #[]) (mvT P277.hz (wd hw (k := 21) rfl))) (by decide) (W.MetN.pay (W := 5) (c_ch l Z a0 hw lx lt lk 8 19 (by decide) own_f_cv (by decide) h277 LS277 (P277.extZ EZ all0) zc fm US) P277 (wd hw (k := 22) rfl) (wd hw (k := 6) rfl) (by decide) (by decide)) (argsL := [(.int (Int32.ofNat 8))]) (st0 := [(.int (8 : Int32)), (.ref x261), (.ref x261), (.ref x260), (.ref x260)]) (lenOf pd_I_R_C rfl) rfl rfl (Nat.le_of_eq rfl) (by rw [hml]; rfl) (by decide) (by decide) (W.Pure.ok P277.chv) d21_91 rfl ?_
    intro v278 T278 h278 L278 q278 P278
    obtain ⟨rfl, rfl, rfl⟩ := q278
    show W.Go p.tables e below _ (T278.setTop (mkF m 94 #[.val (.int q), .val (.int c1), .val (.ref lx)] [(.int (own_f_cv 8)), (.int (8 : Int32)), (.ref x261), (.ref x261), (.ref x260), (.ref x260)]))
    refine P278.stCg (pc1 := 95) (x := (own_f_cv 8)) G277 (i := 8) (by decide) (Or.inr (by rw [g261]; exact P260.sz)) (W.Arg.safe P278.al G277 (by decide)) d21_94 rfl ?_
    intro T279 h279 P279 W279 G279
    have Ex279 := Ex277.wr W279
    have Fv279 := Fv277.other W279 (Or.inl hne261)
    have Fc279 := Fc277.other W279 (Or.inl hne261)
    have Sx279 := Safe.wr W279 (W.Arg.safe P278.al G277 (by decide)) P278.chv Sx277
    have LS279 := LS277.other W279 hxa261 hta261
    refine W.g_dup (pc1 := 96) P279.q d21_95 rfl rfl ?_
    refine W.g_bipush (pc1 := 98) (v := (9 : Int32)) P279.q d21_96 (by decide) rfl ?_
    refine W.g_aloadN (pc1 := 99) P279.q d21_98 rfl rfl rfl ?_
    refine W.g_bipush (pc1 := 101) (v := (9 : Int32)) P279.q d21_99 (by decide) rfl ?_
    show W.Go p.tables e below _ (T279.setTop (mkF m 101 #[.val (.int q), .val (.int c1), .val (.ref lx)] [(.int (Int32.ofNat 9)), (.ref lx), (.int (9 : Int32)), (.ref x261), (.ref x261), (.ref x260), (.ref x260)]))
    refine P279.callV (pc1 := 104) LS279.1 (wd hw (k := 18) rfl) (wd hw (k := 19) rfl) (wd hw (k := 21) rfl) (wd hw (k := 20) rfl) (notFace_of_selects (args := #[]) (mvT P279.hz (wd hw (k := 21) rfl))) (by decide) (W.MetN.pay (W := 5) (c_ch l Z a0 hw lx lt lk 9 19 (by decide) own_f_cv (by decide) h279 LS279 (P279.extZ EZ all0) zc fm US) P279 (wd hw (k := 22) rfl) (wd hw (k := 6) rfl) (by decide) (by decide)) (argsL := [(.int (Int32.ofNat 9))]) (st0 := [(.int (9 : Int32)), (.ref x261), (.ref x261), (.ref x260), (.ref x260)]) (lenOf pd_I_R_C rfl) rfl rfl (Nat.le_of_eq rfl) (by rw [hml]; rfl) (by decide) (by decide) (W.Pure.ok P279.chv) d21_101 rfl ?_
    intro v280 T280 h280 L280 q280 P280
    obtain ⟨rfl, rfl, rfl⟩ := q280
    show W.Go p.tables e below _ (T280.setTop (mkF m 104 #[.val (.int q), .val (.int c1), .val (.ref lx)] [(.int (own_f_cv 9)), (.int (9 : Int32)), (.ref x261), (.ref x261), (.ref x260), (.ref x260)]))
    refine P280.stCg (pc1 := 105) (x := (own_f_cv 9)) G279 (i := 9) (by decide) (Or.inr (by rw [g261]; exact P260.sz)) (W.Arg.safe P280.al G279 (by decide)) d21_104 rfl ?_
    intro T281 h281 P281 W281 G281
    have Ex281 := Ex279.wr W281
    have Fv281 := Fv279.other W281 (Or.inl hne261)
    have Fc281 := Fc279.other W281 (Or.inl hne261)
    have Sx281 := Safe.wr W281 (W.Arg.safe P280.al G279 (by decide)) P280.chv Sx279
    have LS281 := LS279.other W281 hxa261 hta261
    refine W.g_dup (pc1 := 106) P281.q d21_105 rfl rfl ?_
    refine W.g_bipush (pc1 := 108) (v := (10 : Int32)) P281.q d21_106 (by decide) rfl ?_
    refine W.g_aloadN (pc1 := 109) P281.q d21_108 rfl rfl rfl ?_
    refine W.g_bipush (pc1 := 111) (v := (10 : Int32)) P281.q d21_109 (by decide) rfl ?_
    show W.Go p.tables e below _ (T281.setTop (mkF m 111 #[.val (.int q), .val (.int c1), .val (.ref lx)] [(.int (Int32.ofNat 10)), (.ref lx), (.int (10 : Int32)), (.ref x261), (.ref x261), (.ref x260), (.ref x260)]))
    refine P281.callV (pc1 := 114) LS281.1 (wd hw (k := 18) rfl) (wd hw (k := 19) rfl) (wd hw (k := 21) rfl) (wd hw (k := 20) rfl) (notFace_of_selects (args := #[]) (mvT P281.hz (wd hw (k := 21) rfl))) (by decide) (W.MetN.pay (W := 5) (c_ch l Z a0 hw lx lt lk 10 19 (by decide) own_f_cv (by decide) h281 LS281 (P281.extZ EZ all0) zc fm US) P281 (wd hw (k := 22) rfl) (wd hw (k := 6) rfl) (by decide) (by decide)) (argsL := [(.int (Int32.ofNat 10))]) (st0 := [(.int (10 : Int32)), (.ref x261), (.ref x261), (.ref x260), (.ref x260)]) (lenOf pd_I_R_C rfl) rfl rfl (Nat.le_of_eq rfl) (by rw [hml]; rfl) (by decide) (by decide) (W.Pure.ok P281.chv) d21_111 rfl ?_
    intro v282 T282 h282 L282 q282 P282
    obtain ⟨rfl, rfl, rfl⟩ := q282
    show W.Go p.tables e below _ (T282.setTop (mkF m 114 #[.val (.int q), .val (.int c1), .val (.ref lx)] [(.int (own_f_cv 10)), (.int (10 : Int32)), (.ref x261), (.ref x261), (.ref x260), (.ref x260)]))
    refine P282.stCg (pc1 := 115) (x := (own_f_cv 10)) G281 (i := 10) (by decide) (Or.inr (by rw [g261]; exact P260.sz)) (W.Arg.safe P282.al G281 (by decide)) d21_114 rfl ?_
    intro T283 h283 P283 W283 G283
    have Ex283 := Ex281.wr W283
    have Fv283 := Fv281.other W283 (Or.inl hne261)
    have Fc283 := Fc281.other W283 (Or.inl hne261)
    have Sx283 := Safe.wr W283 (W.Arg.safe P282.al G281 (by decide)) P282.chv Sx281
    have LS283 := LS281.other W283 hxa261 hta261
    refine W.g_dup (pc1 := 116) P283.q d21_115 rfl rfl ?_
    refine W.g_bipush (pc1 := 118) (v := (11 : Int32)) P283.q d21_116 (by decide) rfl ?_
    refine W.g_aloadN (pc1 := 119) P283.q d21_118 rfl rfl rfl ?_
    refine W.g_bipush (pc1 := 121) (v := (11 : Int32)) P283.q d21_119 (by decide) rfl ?_
    show W.Go p.tables e below _ (T283.setTop (mkF m 121 #[.val (.int q), .val (.int c1), .val (.ref lx)] [(.int (Int32.ofNat 11)), (.ref lx), (.int (11 : Int32)), (.ref x261), (.ref x261), (.ref x260), (.ref x260)]))
    refine P283.callV (pc1 := 124) LS283.1 (wd hw (k := 18) rfl) (wd hw (k := 19) rfl) (wd hw (k := 21) rfl) (wd hw (k := 20) rfl) (notFace_of_selects (args := #[]) (mvT P283.hz (wd hw (k := 21) rfl))) (by decide) (W.MetN.pay (W := 5) (c_ch l Z a0 hw lx lt lk 11 19 (by decide) own_f_cv (by decide) h283 LS283 (P283.extZ EZ all0) zc fm US) P283 (wd hw (k := 22) rfl) (wd hw (k := 6) rfl) (by decide) (by decide)) (argsL := [(.int (Int32.ofNat 11))]) (st0 := [(.int (11 : Int32)), (.ref x261), (.ref x261), (.ref x260), (.ref x260)]) (lenOf pd_I_R_C rfl) rfl rfl (Nat.le_of_eq rfl) (by rw [hml]; rfl) (by decide) (by decide) (W.Pure.ok P283.chv) d21_121 rfl ?_
    intro v284 T284 h284 L284 q284 P284
    obtain ⟨rfl, rfl, rfl⟩ := q284
    show W.Go p.tables e below _ (T284.setTop (mkF m 124 #[.val (.int q), .val (.int c1), .val (.ref lx)] [(.int (own_f_cv 11)), (.int (11 : Int32)), (.ref x261), (.ref x261), (.ref x260), (.ref x260)]))
    refine P284.stCg (pc1 := 125) (x := (own_f_cv 11)) G283 (i := 11) (by decide) (Or.inr (by rw [g261]; exact P260.sz)) (W.Arg.safe P284.al G283 (by decide)) d21_124 rfl ?_
    intro T285 h285 P285 W285 G285
    have Ex285 := Ex283.wr W285
    have Fv285 := Fv283.other W285 (Or.inl hne261)
    have Fc285 := Fc283.other W285 (Or.inl hne261)
    have Sx285 := Safe.wr W285 (W.Arg.safe P284.al G283 (by decide)) P284.chv Sx283
    have LS285 := LS283.other W285 hxa261 hta261
    refine W.g_dup (pc1 := 126) P285.q d21_125 rfl rfl ?_
    refine W.g_bipush (pc1 := 128) (v := (12 : Int32)) P285.q d21_126 (by decide) rfl ?_
    refine W.g_aloadN (pc1 := 129) P285.q d21_128 rfl rfl rfl ?_
    refine W.g_bipush (pc1 := 131) (v := (12 : Int32)) P285.q d21_129 (by decide) rfl ?_
    show W.Go p.tables e below _ (T285.setTop (mkF m 131 #[.val (.int q), .val (.int c1), .val (.ref lx)] [(.int (Int32.ofNat 12)), (.ref lx), (.int (12 : Int32)), (.ref x261), (.ref x261), (.ref x260), (.ref x260)]))
    refine P285.callV (pc1 := 134) LS285.1 (wd hw (k := 18) rfl) (wd hw (k := 19) rfl) (wd hw (k := 21) rfl) (wd hw (k := 20) rfl) (notFace_of_selects (args := #[]) (mvT P285.hz (wd hw (k := 21) rfl))) (by decide) (W.MetN.pay (W := 5) (c_ch l Z a0 hw lx lt lk 12 19 (by decide) own_f_cv (by decide) h285 LS285 (P285.extZ EZ all0) zc fm US) P285 (wd hw (k := 22) rfl) (wd hw (k := 6) rfl) (by decide) (by decide)) (argsL := [(.int (Int32.ofNat 12))]) (st0 := [(.int (12 : Int32)), (.ref x261), (.ref x261), (.ref x260), (.ref x260)]) (lenOf pd_I_R_C rfl) rfl rfl (Nat.le_of_eq rfl) (by rw [hml]; rfl) (by decide) (by decide) (W.Pure.ok P285.chv) d21_131 rfl ?_
    intro v286 T286 h286 L286 q286 P286
    obtain ⟨rfl, rfl, rfl⟩ := q286
    show W.Go p.tables e below _ (T286.setTop (mkF m 134 #[.val (.int q), .val (.int c1), .val (.ref lx)] [(.int (own_f_cv 12)), (.int (12 : Int32)), (.ref x261), (.ref x261), (.ref x260), (.ref x260)]))
    refine P286.stCg (pc1 := 135) (x := (own_f_cv 12)) G285 (i := 12) (by decide) (Or.inr (by rw [g261]; exact P260.sz)) (W.Arg.safe P286.al G285 (by decide)) d21_134 rfl ?_
    intro T287 h287 P287 W287 G287
    have Ex287 := Ex285.wr W287
    have Fv287 := Fv285.other W287 (Or.inl hne261)
    have Fc287 := Fc285.other W287 (Or.inl hne261)
    have Sx287 := Safe.wr W287 (W.Arg.safe P286.al G285 (by decide)) P286.chv Sx285
    have LS287 := LS285.other W287 hxa261 hta261
    refine W.g_dup (pc1 := 136) P287.q d21_135 rfl rfl ?_
    refine W.g_bipush (pc1 := 138) (v := (13 : Int32)) P287.q d21_136 (by decide) rfl ?_
    refine W.g_aloadN (pc1 := 139) P287.q d21_138 rfl rfl rfl ?_
    refine W.g_bipush (pc1 := 141) (v := (13 : Int32)) P287.q d21_139 (by decide) rfl ?_
    show W.Go p.tables e below _ (T287.setTop (mkF m 141 #[.val (.int q), .val (.int c1), .val (.ref lx)] [(.int (Int32.ofNat 13)), (.ref lx), (.int (13 : Int32)), (.ref x261), (.ref x261), (.ref x260), (.ref x260)]))
    refine P287.callV (pc1 := 144) LS287.1 (wd hw (k := 18) rfl) (wd hw (k := 19) rfl) (wd hw (k := 21) rfl) (wd hw (k := 20) rfl) (notFace_of_selects (args := #[]) (mvT P287.hz (wd hw (k := 21) rfl))) (by decide) (W.MetN.pay (W := 5) (c_ch l Z a0 hw lx lt lk 13 19 (by decide) own_f_cv (by decide) h287 LS287 (P287.extZ EZ all0) zc fm US) P287 (wd hw (k := 22) rfl) (wd hw (k := 6) rfl) (by decide) (by decide)) (argsL := [(.int (Int32.ofNat 13))]) (st0 := [(.int (13 : Int32)), (.ref x261), (.ref x261), (.ref x260), (.ref x260)]) (lenOf pd_I_R_C rfl) rfl rfl (Nat.le_of_eq rfl) (by rw [hml]; rfl) (by decide) (by decide) (W.Pure.ok P287.chv) d21_141 rfl ?_
    intro v288 T288 h288 L288 q288 P288
    obtain ⟨rfl, rfl, rfl⟩ := q288
    show W.Go p.tables e below _ (T288.setTop (mkF m 144 #[.val (.int q), .val (.int c1), .val (.ref lx)] [(.int (own_f_cv 13)), (.int (13 : Int32)), (.ref x261), (.ref x261), (.ref x260), (.ref x260)]))
    refine P288.stCg (pc1 := 145) (x := (own_f_cv 13)) G287 (i := 13) (by decide) (Or.inr (by rw [g261]; exact P260.sz)) (W.Arg.safe P288.al G287 (by decide)) d21_144 rfl ?_
    intro T289 h289 P289 W289 G289
    have Ex289 := Ex287.wr W289
    have Fv289 := Fv287.other W289 (Or.inl hne261)
    have Fc289 := Fc287.other W289 (Or.inl hne261)
    have Sx289 := Safe.wr W289 (W.Arg.safe P288.al G287 (by decide)) P288.chv Sx287
    have LS289 := LS287.other W289 hxa261 hta261
    refine W.g_dup (pc1 := 146) P289.q d21_145 rfl rfl ?_
    refine W.g_bipush (pc1 := 148) (v := (14 : Int32)) P289.q d21_146 (by decide) rfl ?_
    refine W.g_aloadN (pc1 := 149) P289.q d21_148 rfl rfl rfl ?_
    refine W.g_bipush (pc1 := 151) (v := (14 : Int32)) P289.q d21_149 (by decide) rfl ?_
    show W.Go p.tables e below _ (T289.setTop (mkF m 151 #[.val (.int q), .val (.int c1), .val (.ref lx)] [(.int (Int32.ofNat 14)), (.ref lx), (.int (14 : Int32)), (.ref x261), (.ref x261), (.ref x260), (.ref x260)]))
    refine P289.callV (pc1 := 154) LS289.1 (wd hw (k := 18) rfl) (wd hw (k := 19) rfl) (wd hw (k := 21) rfl) (wd hw (k := 20) rfl) (notFace_of_selects (args := #[]) (mvT P289.hz (wd hw (k := 21) rfl))) (by decide) (W.MetN.pay (W := 5) (c_ch l Z a0 hw lx lt lk 14 19 (by decide) own_f_cv (by decide) h289 LS289 (P289.extZ EZ all0) zc fm US) P289 (wd hw (k := 22) rfl) (wd hw (k := 6) rfl) (by decide) (by decide)) (argsL := [(.int (Int32.ofNat 14))]) (st0 := [(.int (14 : Int32)), (.ref x261), (.ref x261), (.ref x260), (.ref x260)]) (lenOf pd_I_R_C rfl) rfl rfl (Nat.le_of_eq rfl) (by rw [hml]; rfl) (by decide) (by decide) (W.Pure.ok P289.chv) d21_151 rfl ?_
    intro v290 T290 h290 L290 q290 P290
    obtain ⟨rfl, rfl, rfl⟩ := q290
    show W.Go p.tables e below _ (T290.setTop (mkF m 154 #[.val (.int q), .val (.int c1), .val (.ref lx)] [(.int (own_f_cv 14)), (.int (14 : Int32)), (.ref x261), (.ref x261), (.ref x260), (.ref x260)]))
    refine P290.stCg (pc1 := 155) (x := (own_f_cv 14)) G289 (i := 14) (by decide) (Or.inr (by rw [g261]; exact P260.sz)) (W.Arg.safe P290.al G289 (by decide)) d21_154 rfl ?_
    intro T291 h291 P291 W291 G291
    have Ex291 := Ex289.wr W291
    have Fv291 := Fv289.other W291 (Or.inl hne261)
    have Fc291 := Fc289.other W291 (Or.inl hne261)
    have Sx291 := Safe.wr W291 (W.Arg.safe P290.al G289 (by decide)) P290.chv Sx289
    have LS291 := LS289.other W291 hxa261 hta261
    refine W.g_dup (pc1 := 156) P291.q d21_155 rfl rfl ?_
    refine W.g_bipush (pc1 := 158) (v := (15 : Int32)) P291.q d21_156 (by decide) rfl ?_
    refine W.g_aloadN (pc1 := 159) P291.q d21_158 rfl rfl rfl ?_
    refine W.g_bipush (pc1 := 161) (v := (15 : Int32)) P291.q d21_159 (by decide) rfl ?_
    show W.Go p.tables e below _ (T291.setTop (mkF m 161 #[.val (.int q), .val (.int c1), .val (.ref lx)] [(.int (Int32.ofNat 15)), (.ref lx), (.int (15 : Int32)), (.ref x261), (.ref x261), (.ref x260), (.ref x260)]))
    refine P291.callV (pc1 := 164) LS291.1 (wd hw (k := 18) rfl) (wd hw (k := 19) rfl) (wd hw (k := 21) rfl) (wd hw (k := 20) rfl) (notFace_of_selects (args := #[]) (mvT P291.hz (wd hw (k := 21) rfl))) (by decide) (W.MetN.pay (W := 5) (c_ch l Z a0 hw lx lt lk 15 19 (by decide) own_f_cv (by decide) h291 LS291 (P291.extZ EZ all0) zc fm US) P291 (wd hw (k := 22) rfl) (wd hw (k := 6) rfl) (by decide) (by decide)) (argsL := [(.int (Int32.ofNat 15))]) (st0 := [(.int (15 : Int32)), (.ref x261), (.ref x261), (.ref x260), (.ref x260)]) (lenOf pd_I_R_C rfl) rfl rfl (Nat.le_of_eq rfl) (by rw [hml]; rfl) (by decide) (by decide) (W.Pure.ok P291.chv) d21_161 rfl ?_
    intro v292 T292 h292 L292 q292 P292
    obtain ⟨rfl, rfl, rfl⟩ := q292
    show W.Go p.tables e below _ (T292.setTop (mkF m 164 #[.val (.int q), .val (.int c1), .val (.ref lx)] [(.int (own_f_cv 15)), (.int (15 : Int32)), (.ref x261), (.ref x261), (.ref x260), (.ref x260)]))
    refine P292.stCg (pc1 := 165) (x := (own_f_cv 15)) G291 (i := 15) (by decide) (Or.inr (by rw [g261]; exact P260.sz)) (W.Arg.safe P292.al G291 (by decide)) d21_164 rfl ?_
    intro T293 h293 P293 W293 G293
    have Ex293 := Ex291.wr W293
    have Fv293 := Fv291.other W293 (Or.inl hne261)
    have Fc293 := Fc291.other W293 (Or.inl hne261)
    have Sx293 := Safe.wr W293 (W.Arg.safe P292.al G291 (by decide)) P292.chv Sx291
    have LS293 := LS291.other W293 hxa261 hta261
    refine W.g_dup (pc1 := 166) P293.q d21_165 rfl rfl ?_
    refine W.g_bipush (pc1 := 168) (v := (16 : Int32)) P293.q d21_166 (by decide) rfl ?_
    refine W.g_aloadN (pc1 := 169) P293.q d21_168 rfl rfl rfl ?_
    refine W.g_bipush (pc1 := 171) (v := (16 : Int32)) P293.q d21_169 (by decide) rfl ?_
    show W.Go p.tables e below _ (T293.setTop (mkF m 171 #[.val (.int q), .val (.int c1), .val (.ref lx)] [(.int (Int32.ofNat 16)), (.ref lx), (.int (16 : Int32)), (.ref x261), (.ref x261), (.ref x260), (.ref x260)]))
    refine P293.callV (pc1 := 174) LS293.1 (wd hw (k := 18) rfl) (wd hw (k := 19) rfl) (wd hw (k := 21) rfl) (wd hw (k := 20) rfl) (notFace_of_selects (args := #[]) (mvT P293.hz (wd hw (k := 21) rfl))) (by decide) (W.MetN.pay (W := 5) (c_ch l Z a0 hw lx lt lk 16 19 (by decide) own_f_cv (by decide) h293 LS293 (P293.extZ EZ all0) zc fm US) P293 (wd hw (k := 22) rfl) (wd hw (k := 6) rfl) (by decide) (by decide)) (argsL := [(.int (Int32.ofNat 16))]) (st0 := [(.int (16 : Int32)), (.ref x261), (.ref x261), (.ref x260), (.ref x260)]) (lenOf pd_I_R_C rfl) rfl rfl (Nat.le_of_eq rfl) (by rw [hml]; rfl) (by decide) (by decide) (W.Pure.ok P293.chv) d21_171 rfl ?_
    intro v294 T294 h294 L294 q294 P294
    obtain ⟨rfl, rfl, rfl⟩ := q294
    show W.Go p.tables e below _ (T294.setTop (mkF m 174 #[.val (.int q), .val (.int c1), .val (.ref lx)] [(.int (own_f_cv 16)), (.int (16 : Int32)), (.ref x261), (.ref x261), (.ref x260), (.ref x260)]))
    refine P294.stCg (pc1 := 175) (x := (own_f_cv 16)) G293 (i := 16) (by decide) (Or.inr (by rw [g261]; exact P260.sz)) (W.Arg.safe P294.al G293 (by decide)) d21_174 rfl ?_
    intro T295 h295 P295 W295 G295
    have Ex295 := Ex293.wr W295
    have Fv295 := Fv293.other W295 (Or.inl hne261)
    have Fc295 := Fc293.other W295 (Or.inl hne261)
    have Sx295 := Safe.wr W295 (W.Arg.safe P294.al G293 (by decide)) P294.chv Sx293
    have LS295 := LS293.other W295 hxa261 hta261
    refine W.g_dup (pc1 := 176) P295.q d21_175 rfl rfl ?_
    refine W.g_bipush (pc1 := 178) (v := (17 : Int32)) P295.q d21_176 (by decide) rfl ?_
    refine W.g_aloadN (pc1 := 179) P295.q d21_178 rfl rfl rfl ?_
    refine W.g_bipush (pc1 := 181) (v := (17 : Int32)) P295.q d21_179 (by decide) rfl ?_
    show W.Go p.tables e below _ (T295.setTop (mkF m 181 #[.val (.int q), .val (.int c1), .val (.ref lx)] [(.int (Int32.ofNat 17)), (.ref lx), (.int (17 : Int32)), (.ref x261), (.ref x261), (.ref x260), (.ref x260)]))
    refine P295.callV (pc1 := 184) LS295.1 (wd hw (k := 18) rfl) (wd hw (k := 19) rfl) (wd hw (k := 21) rfl) (wd hw (k := 20) rfl) (notFace_of_selects (args := #[]) (mvT P295.hz (wd hw (k := 21) rfl))) (by decide) (W.MetN.pay (W := 5) (c_ch l Z a0 hw lx lt lk 17 19 (by decide) own_f_cv (by decide) h295 LS295 (P295.extZ EZ all0) zc fm US) P295 (wd hw (k := 22) rfl) (wd hw (k := 6) rfl) (by decide) (by decide)) (argsL := [(.int (Int32.ofNat 17))]) (st0 := [(.int (17 : Int32)), (.ref x261), (.ref x261), (.ref x260), (.ref x260)]) (lenOf pd_I_R_C rfl) rfl rfl (Nat.le_of_eq rfl) (by rw [hml]; rfl) (by decide) (by decide) (W.Pure.ok P295.chv) d21_181 rfl ?_
    intro v296 T296 h296 L296 q296 P296
    obtain ⟨rfl, rfl, rfl⟩ := q296
    show W.Go p.tables e below _ (T296.setTop (mkF m 184 #[.val (.int q), .val (.int c1), .val (.ref lx)] [(.int (own_f_cv 17)), (.int (17 : Int32)), (.ref x261), (.ref x261), (.ref x260), (.ref x260)]))
    refine P296.stCg (pc1 := 185) (x := (own_f_cv 17)) G295 (i := 17) (by decide) (Or.inr (by rw [g261]; exact P260.sz)) (W.Arg.safe P296.al G295 (by decide)) d21_184 rfl ?_
    intro T297 h297 P297 W297 G297
    have Ex297 := Ex295.wr W297
    have Fv297 := Fv295.other W297 (Or.inl hne261)
    have Fc297 := Fc295.other W297 (Or.inl hne261)
    have Sx297 := Safe.wr W297 (W.Arg.safe P296.al G295 (by decide)) P296.chv Sx295
    have LS297 := LS295.other W297 hxa261 hta261
    have VL297 : Arv Z h297 x261 k261 .char 18 (([(own_f_cv 0), (own_f_cv 1), (own_f_cv 2), (own_f_cv 3), (own_f_cv 4), (own_f_cv 5), (own_f_cv 6), (own_f_cv 7), (own_f_cv 8), (own_f_cv 9), (own_f_cv 10), (own_f_cv 11), (own_f_cv 12), (own_f_cv 13), (own_f_cv 14), (own_f_cv 15), (own_f_cv 16), (own_f_cv 17)] : List Int32).map Value.int) (.int 0) := W.Arg.list G297 rfl (fun i hi => match i, hi with | 0, _ => own_narc ((own_b_cv 0 (by decide))).ch | 1, _ => own_narc ((own_b_cv 1 (by decide))).ch | 2, _ => own_narc ((own_b_cv 2 (by decide))).ch | 3, _ => own_narc ((own_b_cv 3 (by decide))).ch | 4, _ => own_narc ((own_b_cv 4 (by decide))).ch | 5, _ => own_narc ((own_b_cv 5 (by decide))).ch | 6, _ => own_narc ((own_b_cv 6 (by decide))).ch | 7, _ => own_narc ((own_b_cv 7 (by decide))).ch | 8, _ => own_narc ((own_b_cv 8 (by decide))).ch | 9, _ => own_narc ((own_b_cv 9 (by decide))).ch | 10, _ => own_narc ((own_b_cv 10 (by decide))).ch | 11, _ => own_narc ((own_b_cv 11 (by decide))).ch | 12, _ => own_narc ((own_b_cv 12 (by decide))).ch | 13, _ => own_narc ((own_b_cv 13 (by decide))).ch | 14, _ => own_narc ((own_b_cv 14 (by decide))).ch | 15, _ => own_narc ((own_b_cv 15 (by decide))).ch | 16, _ => own_narc ((own_b_cv 16 (by decide))).ch | 17, _ => own_narc ((own_b_cv 17 (by decide))).ch | k + 18, hk => absurd hk (Nat.not_lt.mpr (Nat.le_add_left _ _)))
    have hp297 : ∀ c ∈ ([(own_f_cv 0), (own_f_cv 1), (own_f_cv 2), (own_f_cv 3), (own_f_cv 4), (own_f_cv 5), (own_f_cv 6), (own_f_cv 7), (own_f_cv 8), (own_f_cv 9), (own_f_cv 10), (own_f_cv 11), (own_f_cv 12), (own_f_cv 13), (own_f_cv 14), (own_f_cv 15), (own_f_cv 16), (own_f_cv 17)] : List Int32), ¬ c < 0 ∧ ¬ (255 : Int32) < c := (List.forall_mem_cons.mpr ⟨(own_b_cv 0 (by decide)), (List.forall_mem_cons.mpr ⟨(own_b_cv 1 (by decide)), (List.forall_mem_cons.mpr ⟨(own_b_cv 2 (by decide)), (List.forall_mem_cons.mpr ⟨(own_b_cv 3 (by decide)), (List.forall_mem_cons.mpr ⟨(own_b_cv 4 (by decide)), (List.forall_mem_cons.mpr ⟨(own_b_cv 5 (by decide)), (List.forall_mem_cons.mpr ⟨(own_b_cv 6 (by decide)), (List.forall_mem_cons.mpr ⟨(own_b_cv 7 (by decide)), (List.forall_mem_cons.mpr ⟨(own_b_cv 8 (by decide)), (List.forall_mem_cons.mpr ⟨(own_b_cv 9 (by decide)), (List.forall_mem_cons.mpr ⟨(own_b_cv 10 (by decide)), (List.forall_mem_cons.mpr ⟨(own_b_cv 11 (by decide)), (List.forall_mem_cons.mpr ⟨(own_b_cv 12 (by decide)), (List.forall_mem_cons.mpr ⟨(own_b_cv 13 (by decide)), (List.forall_mem_cons.mpr ⟨(own_b_cv 14 (by decide)), (List.forall_mem_cons.mpr ⟨(own_b_cv 15 (by decide)), (List.forall_mem_cons.mpr ⟨(own_b_cv 16 (by decide)), (List.forall_mem_cons.mpr ⟨(own_b_cv 17 (by decide)), (fun c hc => absurd hc (List.not_mem_nil))⟩)⟩)⟩)⟩)⟩)⟩)⟩)⟩)⟩)⟩)⟩)⟩)⟩)⟩)⟩)⟩)⟩)⟩)
    refine P297.callN (pc1 := 188) rfl (wd hw (k := 43) rfl) (wd hw (k := 44) rfl) (wd hw (k := 45) rfl) (by decide) (StrChars.Road.backV (W := 1) P297.hz hws (kI := 4) (wd hw (k := 7) rfl) (cs := [(own_f_cv 0), (own_f_cv 1), (own_f_cv 2), (own_f_cv 3), (own_f_cv 4), (own_f_cv 5), (own_f_cv 6), (own_f_cv 7), (own_f_cv 8), (own_f_cv 9), (own_f_cv 10), (own_f_cv 11), (own_f_cv 12), (own_f_cv 13), (own_f_cv 14), (own_f_cv 15), (own_f_cv 16), (own_f_cv 17)]) (bs := ([(own_f_cv 0), (own_f_cv 1), (own_f_cv 2), (own_f_cv 3), (own_f_cv 4), (own_f_cv 5), (own_f_cv 6), (own_f_cv 7), (own_f_cv 8), (own_f_cv 9), (own_f_cv 10), (own_f_cv 11), (own_f_cv 12), (own_f_cv 13), (own_f_cv 14), (own_f_cv 15), (own_f_cv 16), (own_f_cv 17)]).map (fun c => c.toInt8.toInt32)) (n := 18) (n0 := h0.size) (by rw [g260]; exact P1.sz) P297.sz Ex297 Fv297 Fc297 VL297 (US.2.1.ext (P297.extZ EZ all0)) US.1 rfl rfl (by decide) (by decide) hp297 rfl (by decide) (by decide)) (argsL := [(.ref x261)]) (st0 := [(.ref x260)]) (lenOf pd_AC_R_V rfl) rfl rfl (Nat.le_of_eq rfl) (by rw [hml]; rfl) (by decide) (by decide) (fun _ _ _ q => ⟨W.Frw.of_fr q.2.1 (Nat.le_refl _), CHr.keep q.2.2.1 (sfS Sx297 sf0) P297.chv⟩) d21_185 rfl ?_
    intro v298 T298 h298 L298 q298 P298
    obtain ⟨rfl, f298, K298, A298, C298, t298, k298, b298, c298, d298, F298, V298⟩ := q298
    show W.Go p.tables e below _ (T298.setTop (mkF m 188 #[.val (.int q), .val (.int c1), .val (.ref lx)] [(.ref x260)]))
    have S298 : W.Str Z h298 x260 [(own_f_cv 0), (own_f_cv 1), (own_f_cv 2), (own_f_cv 3), (own_f_cv 4), (own_f_cv 5), (own_f_cv 6), (own_f_cv 7), (own_f_cv 8), (own_f_cv 9), (own_f_cv 10), (own_f_cv 11), (own_f_cv 12), (own_f_cv 13), (own_f_cv 14), (own_f_cv 15), (own_f_cv 16), (own_f_cv 17)] := ⟨t298, k298, _, _, _, A298, F298, C298, V298, StrChars.Road.codOf (cs := [(own_f_cv 0), (own_f_cv 1), (own_f_cv 2), (own_f_cv 3), (own_f_cv 4), (own_f_cv 5), (own_f_cv 6), (own_f_cv 7), (own_f_cv 8), (own_f_cv 9), (own_f_cv 10), (own_f_cv 11), (own_f_cv 12), (own_f_cv 13), (own_f_cv 14), (own_f_cv 15), (own_f_cv 16), (own_f_cv 17)]) (n := 18) rfl (fun c hc => (hp297 c hc).2), fun c hc => ⟨(hp297 c hc).1, own_up (hp297 c hc).2⟩, Nat.le_of_ble_eq_true rfl⟩
    exact P298.retAW hEL hlk hret rfl rfl rfl d21_188 (by decide) (by decide) ⟨x260, [(own_f_cv 0), (own_f_cv 1), (own_f_cv 2), (own_f_cv 3), (own_f_cv 4), (own_f_cv 5), (own_f_cv 6), (own_f_cv 7), (own_f_cv 8), (own_f_cv 9), (own_f_cv 10), (own_f_cv 11), (own_f_cv 12), (own_f_cv 13), (own_f_cv 14), (own_f_cv 15), (own_f_cv 16), (own_f_cv 17)], rfl, P298.fr, P298.ext0, S298⟩
theorem c_mk (l : Launch) (Z : State) (a0 : Array Value) (hw : ∀ d ∈ tables_1, d.before a0 Z = true) (wS : ∀ a ∈ Bundle.stringAtoms, a.before a0 Z = true) (hEL : EW Z a0 ownEL) (k : Int32) (hk : k = 0 ∨ k = 1 ∨ k = 2 ∨ k = 3 ∨ k = 4 ∨ k = 5) (c0 : Int32) (b0 : By c0) (c1 : Int32) (b1 : By c1) (c2 : Int32) (b2 : By c2) (c3 : Int32) (b3 : By c3) (c4 : Int32) (b4 : By c4) (h0 : Heap) (EZ : Ext Z.heap h0) (zc : Int32) (fm : Value) (US : UST Z zc fm) : W.MetW l Z ownEL (⟨"com/example/numerary/numerary/ScoringOfCodePinLaw", "mk", "(ICCCCC)Ljava/lang/String;"⟩ : MethodName) method_6_code 6 ((Option.some (Jvm.ClassFile.FieldType.object "java/lang/String"))) [] rmMk #[.int k, .int c0, .int c1, .int c2, .int c3, .int c4] [] h0 (QM Z h0) := by
  rcases hk with rfl | rfl | rfl | rfl | rfl | rfl
  · exact c_mk0 l Z a0 hw wS hEL c0 b0 c1 b1 c2 b2 c3 b3 c4 b4 h0 EZ zc fm US
  · exact c_mk1 l Z a0 hw wS hEL c0 b0 c1 b1 c2 b2 c3 b3 c4 b4 h0 EZ zc fm US
  · exact c_mk2 l Z a0 hw wS hEL c0 b0 c1 b1 c2 b2 c3 b3 c4 b4 h0 EZ zc fm US
  · exact c_mk3 l Z a0 hw wS hEL c0 b0 c1 b1 c2 b2 c3 b3 c4 b4 h0 EZ zc fm US
  · exact c_mk4 l Z a0 hw wS hEL c0 b0 c1 b1 c2 b2 c3 b3 c4 b4 h0 EZ zc fm US
  · exact c_mk5 l Z a0 hw wS hEL c0 b0 c1 b1 c2 b2 c3 b3 c4 b4 h0 EZ zc fm US
set_option maxRecDepth 65536 in
set_option maxHeartbeats 40000000 in
theorem c_eqNull (l : Launch) (Z : State) (a0 : Array Value) (hw : ∀ d ∈ tables_1, d.before a0 Z = true) (x : Addr) (h0 : Heap) : W.MetN l Z (⟨"java/lang/String", "equals", "(Ljava/lang/Object;)Z"⟩ : MethodName) jdk_42_method_66_code 3 ((Option.some Jvm.ClassFile.FieldType.boolean)) [] ({ frames := 0, cells := 0, slots := 0, locals := 0 } : Room) #[.ref x, .null]  h0 (W.Pure (some (.int 0)) h0) := by
  refine W.MetN.mk (ls0 := #[.val (.ref x), .val .null, .unset]) [] (plainFor_of_name pn_java_lang_String) (fun m => by first | (simp [entryFrame, mkF, argsToLocals, Value.category]; done) | rfl) ?_
  intro p e s m below meth c s₁ hml hret hnm hlk P0
  show W.Go p.tables e below _ (s₁.setTop (mkF m 0 #[.val (.ref x), .val .null, .unset] []))
  refine W.g_aloadN (pc1 := 1) P0.q d16_0 rfl rfl rfl ?_
  refine W.g_aloadN (pc1 := 2) P0.q d16_1 rfl rfl rfl ?_
  refine W.g_acmpY (pc1 := 7) P0.q d16_2 (by decide) rfl rfl rfl rfl ?_
  refine W.g_aloadN (pc1 := 8) P0.q d16_7 rfl rfl rfl ?_
  refine P0.instNull (pc1 := 11) d16_8 rfl ?_
  refine W.g_ifY (pc1 := 54) P0.q d16_11 (by decide) rfl (by decide) ?_
  refine W.g_iconst (pc1 := 55) (v := (0 : Int32)) P0.q d16_54 (by decide) rfl ?_
  exact P0.retVN hlk hret (Or.inl rfl) d16_55 (by decide) (by decide) ⟨rfl, rfl, rfl⟩
def own_L0 : List Int32 := [112, 114, 111, 112, 111, 114, 116, 105, 111, 110]
theorem own_p0 : ∀ c ∈ own_L0, ¬ c < 0 ∧ ¬ (255 : Int32) < c := (List.forall_mem_cons.mpr ⟨⟨by decide, by decide⟩, (List.forall_mem_cons.mpr ⟨⟨by decide, by decide⟩, (List.forall_mem_cons.mpr ⟨⟨by decide, by decide⟩, (List.forall_mem_cons.mpr ⟨⟨by decide, by decide⟩, (List.forall_mem_cons.mpr ⟨⟨by decide, by decide⟩, (List.forall_mem_cons.mpr ⟨⟨by decide, by decide⟩, (List.forall_mem_cons.mpr ⟨⟨by decide, by decide⟩, (List.forall_mem_cons.mpr ⟨⟨by decide, by decide⟩, (List.forall_mem_cons.mpr ⟨⟨by decide, by decide⟩, (List.forall_mem_cons.mpr ⟨⟨by decide, by decide⟩, (fun c hc => absurd hc (List.not_mem_nil))⟩)⟩)⟩)⟩)⟩)⟩)⟩)⟩)⟩)⟩)
def own_L1 : List Int32 := [114, 97, 116, 105, 111]
theorem own_p1 : ∀ c ∈ own_L1, ¬ c < 0 ∧ ¬ (255 : Int32) < c := (List.forall_mem_cons.mpr ⟨⟨by decide, by decide⟩, (List.forall_mem_cons.mpr ⟨⟨by decide, by decide⟩, (List.forall_mem_cons.mpr ⟨⟨by decide, by decide⟩, (List.forall_mem_cons.mpr ⟨⟨by decide, by decide⟩, (List.forall_mem_cons.mpr ⟨⟨by decide, by decide⟩, (fun c hc => absurd hc (List.not_mem_nil))⟩)⟩)⟩)⟩)⟩)
def own_L2 : List Int32 := [99, 111, 110, 116, 105, 110, 117, 111, 117, 115, 45, 118, 97, 114, 105, 97, 98, 108, 101]
theorem own_p2 : ∀ c ∈ own_L2, ¬ c < 0 ∧ ¬ (255 : Int32) < c := (List.forall_mem_cons.mpr ⟨⟨by decide, by decide⟩, (List.forall_mem_cons.mpr ⟨⟨by decide, by decide⟩, (List.forall_mem_cons.mpr ⟨⟨by decide, by decide⟩, (List.forall_mem_cons.mpr ⟨⟨by decide, by decide⟩, (List.forall_mem_cons.mpr ⟨⟨by decide, by decide⟩, (List.forall_mem_cons.mpr ⟨⟨by decide, by decide⟩, (List.forall_mem_cons.mpr ⟨⟨by decide, by decide⟩, (List.forall_mem_cons.mpr ⟨⟨by decide, by decide⟩, (List.forall_mem_cons.mpr ⟨⟨by decide, by decide⟩, (List.forall_mem_cons.mpr ⟨⟨by decide, by decide⟩, (List.forall_mem_cons.mpr ⟨⟨by decide, by decide⟩, (List.forall_mem_cons.mpr ⟨⟨by decide, by decide⟩, (List.forall_mem_cons.mpr ⟨⟨by decide, by decide⟩, (List.forall_mem_cons.mpr ⟨⟨by decide, by decide⟩, (List.forall_mem_cons.mpr ⟨⟨by decide, by decide⟩, (List.forall_mem_cons.mpr ⟨⟨by decide, by decide⟩, (List.forall_mem_cons.mpr ⟨⟨by decide, by decide⟩, (List.forall_mem_cons.mpr ⟨⟨by decide, by decide⟩, (List.forall_mem_cons.mpr ⟨⟨by decide, by decide⟩, (fun c hc => absurd hc (List.not_mem_nil))⟩)⟩)⟩)⟩)⟩)⟩)⟩)⟩)⟩)⟩)⟩)⟩)⟩)⟩)⟩)⟩)⟩)⟩)⟩)
def En (Z : State) (h : Heap) (va p0 p1 p2 p3 c0 c1 c2 : Addr) (kv : ClassId) : Prop := Sta Z h "com/example/numerary/numerary/Scoring" "$VALUES" "[Lcom/example/numerary/numerary/Scoring;" (.ref va) ∧ Exa Z h va "[Lcom/example/numerary/numerary/Scoring;" ∧ Arv Z h va kv (.object "com/example/numerary/numerary/Scoring") 4 [.ref p0, .ref p1, .ref p2, .ref p3] .null ∧ Sta Z h "com/example/numerary/numerary/Scoring" "PROPORTION" "Lcom/example/numerary/numerary/Scoring;" (.ref p0) ∧ Sta Z h "com/example/numerary/numerary/Scoring" "RATIO" "Lcom/example/numerary/numerary/Scoring;" (.ref p1) ∧ Sta Z h "com/example/numerary/numerary/Scoring" "CONTINUOUS_VARIABLE" "Lcom/example/numerary/numerary/Scoring;" (.ref p2) ∧ Sta Z h "com/example/numerary/numerary/Scoring" "OTHER" "Lcom/example/numerary/numerary/Scoring;" (.ref p3) ∧ Fld Z h p0 "com/example/numerary/numerary/Scoring" "code" "Ljava/lang/String;" (.ref c0) ∧ Fld Z h p1 "com/example/numerary/numerary/Scoring" "code" "Ljava/lang/String;" (.ref c1) ∧ Fld Z h p2 "com/example/numerary/numerary/Scoring" "code" "Ljava/lang/String;" (.ref c2) ∧ Fld Z h p3 "com/example/numerary/numerary/Scoring" "code" "Ljava/lang/String;" .null ∧ W.Str Z h c0 own_L0 ∧ W.Str Z h c1 own_L1 ∧ W.Str Z h c2 own_L2
theorem En.ext {Z : State} {h h' : Heap} {va p0 p1 p2 p3 c0 c1 c2 : Addr} {kv : ClassId} (S : En Z h va p0 p1 p2 p3 c0 c1 c2 kv) (E : Ext h h') : En Z h' va p0 p1 p2 p3 c0 c1 c2 kv := ⟨(S.1).ext E, (S.2.1).ext E, (S.2.2.1).ext E, (S.2.2.2.1).ext E, (S.2.2.2.2.1).ext E, (S.2.2.2.2.2.1).ext E, (S.2.2.2.2.2.2.1).ext E, (S.2.2.2.2.2.2.2.1).ext E, (S.2.2.2.2.2.2.2.2.1).ext E, (S.2.2.2.2.2.2.2.2.2.1).ext E, (S.2.2.2.2.2.2.2.2.2.2.1).ext E, (S.2.2.2.2.2.2.2.2.2.2.2.1).ext E, (S.2.2.2.2.2.2.2.2.2.2.2.2.1).ext E, (S.2.2.2.2.2.2.2.2.2.2.2.2.2).ext E⟩
def own_sel (cs : List Int32) (p0 p1 p2 p3 : Addr) : Addr := if cs = own_L0 then p0 else if cs = own_L1 then p1 else if cs = own_L2 then p2 else p3
def QV (Z : State) (p0 p1 p2 p3 : Addr) (h0 : Heap) (v : Option Value) (h : Heap) (L : List Loc) : Prop := ∃ a k, v = some (.ref a) ∧ W.Frw [] h0.size L ∧ Ext h0 h ∧ Arv Z h a k (.object "com/example/numerary/numerary/Scoring") 4 [.ref p0, .ref p1, .ref p2, .ref p3] .null
def QS (p : Addr) (h0 : Heap) (v : Option Value) (h : Heap) (L : List Loc) : Prop := v = some (.ref p) ∧ W.Frw [] h0.size L ∧ Ext h0 h
set_option maxRecDepth 65536 in
set_option maxHeartbeats 40000000 in
theorem c_values (l : Launch) (Z : State) (a0 : Array Value) (hw : ∀ d ∈ tables_1, d.before a0 Z = true) (va p0 p1 p2 p3 c0 c1 c2 : Addr) (kv : ClassId) (h0 : Heap) (S : En Z h0 va p0 p1 p2 p3 c0 c1 c2 kv) (EZ : Ext Z.heap h0)  : W.MetN l Z (⟨"com/example/numerary/numerary/Scoring", "values", "()[Lcom/example/numerary/numerary/Scoring;"⟩ : MethodName) prog_6_method_1_code 0 ((Option.some (Jvm.ClassFile.FieldType.array (Jvm.ClassFile.FieldType.object "com/example/numerary/numerary/Scoring")))) [] ({ frames := 1, cells := 1, slots := 4, locals := 14 } : Room) #[]  h0 (QV Z p0 p1 p2 p3 h0) := by
  refine W.MetN.mk (ls0 := #[]) [] (plainFor_of_name pn_com_example_numerary_numerary_Scoring) (fun m => by first | (simp [entryFrame, mkF, argsToLocals, Value.category]; done) | rfl) ?_
  intro p e s m below meth c s₁ hml hret hnm hlk P0
  show W.Go p.tables e below _ (s₁.setTop (mkF m 0 #[] []))
  refine P0.getS (pc1 := 3) (wd hw (k := 70) rfl) Via.refl S.1 d15_0 rfl ?_
  intro T299 P299
  refine P299.cloneR (pc1 := 6) (cap := 4) (W := 0) (wd hw (k := 72) rfl) (wd hw (k := 73) rfl) (wd hw (k := 77) rfl) (wd hw (k := 75) rfl) (wd hw (k := 76) rfl) (wd hw (k := 78) rfl) (S.2.2.1) (S.2.1) (by rw [hml]; rfl) (by decide) (Nat.le_of_eq rfl) (by decide) (by decide) (by decide) (by decide) d15_3 rfl ?_
  intro T5 h5 x5 g5 P5 E5 V5 A5
  refine P5.castY (pc1 := 9) (wd hw (k := 84) rfl) (Ins.of_exa A5 (wd hw (k := 85) rfl)) d15_6 rfl ?_
  intro T6 P6
  exact P6.retAN hlk hret rfl rfl rfl d15_9 (by decide) (by decide) ⟨x5, kv, rfl, P6.fr, P6.ext0, V5⟩
set_option maxRecDepth 65536 in
set_option maxHeartbeats 40000000 in
theorem c_ofCode (l : Launch) (Z : State) (a0 : Array Value) (hw : ∀ d ∈ tables_1, d.before a0 Z = true) (x : Addr) (cs : List Int32) (va p0 p1 p2 p3 c0 c1 c2 : Addr) (kv : ClassId) (h0 : Heap) (S : En Z h0 va p0 p1 p2 p3 c0 c1 c2 kv) (EZ : Ext Z.heap h0) (S0 : W.Str Z h0 x cs) (zc : Int32) (fm : Value) (US : UST Z zc fm) : W.MetN l Z (⟨"com/example/numerary/numerary/Scoring", "ofCode", "(Ljava/lang/String;)Lcom/example/numerary/numerary/Scoring;"⟩ : MethodName) prog_6_method_4_code 5 ((Option.some (Jvm.ClassFile.FieldType.object "com/example/numerary/numerary/Scoring"))) [] ({ frames := 3, cells := 1, slots := 4, locals := 60 } : Room) #[.ref x]  h0 (QS (own_sel cs p0 p1 p2 p3) h0) := by
  refine W.MetN.mk (ls0 := #[.val (.ref x), .unset, .unset, .unset, .unset]) [] (plainFor_of_name pn_com_example_numerary_numerary_Scoring) (fun m => by first | (simp [entryFrame, mkF, argsToLocals, Value.category]; done) | rfl) ?_
  intro p e s m below meth c s₁ hml hret hnm hlk P0
  show W.Go p.tables e below _ (s₁.setTop (mkF m 0 #[.val (.ref x), .unset, .unset, .unset, .unset] []))
  have hwq : ∀ d ∈ StrChars.Road.wordsEq, d.before a0 Z = true := fun d hd => hw d (own_wordsEq d hd)
  refine P0.callS (pc1 := 3) (wd hw (k := 67) rfl) (wd hw (k := 68) rfl) (wd hw (k := 65) rfl) (wd hw (k := 69) rfl) (by decide) (W.MetN.pay (W := 0) (c_values l Z a0 hw va p0 p1 p2 p3 c0 c1 c2 kv h0 S EZ) P0 (wd hw (k := 69) rfl) (wd hw (k := 65) rfl) (by decide) (by decide)) (argsL := []) (st0 := []) (lenOf pd__R_ALcom_example_numerary_numerary_Scoring rfl) rfl rfl (Nat.le_of_eq rfl) (by rw [hml]; rfl) (by decide) (by decide) (fun _ _ _ q => by obtain ⟨_, _, _, q2, q3, _⟩ := q; exact ⟨q2.up P0.sz all0, CHr.ext q3 P0.chv⟩) d14_0 rfl ?_
  intro v300 T300 h300 L300 q300 P300
  obtain ⟨a300, k300, rfl, f300, E300, V300⟩ := q300
  show W.Go p.tables e below _ (T300.setTop (mkF m 3 #[.val (.ref x), .unset, .unset, .unset, .unset] [(.ref a300)]))
  have S1 := S.ext E300
  have X1 := S0.ext E300
  refine W.g_astoreN (pc1 := 4) (ls2 := #[.val (.ref x), .val (.ref a300), .unset, .unset, .unset]) P300.q d14_3 rfl rfl rfl ?_
  refine W.g_aloadN (pc1 := 5) P300.q d14_4 rfl rfl rfl ?_
  refine P300.len (pc1 := 6) V300 d14_5 rfl ?_
  refine W.g_istoreN (pc1 := 7) (ls2 := #[.val (.ref x), .val (.ref a300), .val (.int (4 : Int32)), .unset, .unset]) P300.q d14_6 rfl rfl ?_
  refine W.g_iconst (pc1 := 8) (v := (0 : Int32)) P300.q d14_7 (by decide) rfl ?_
  refine W.g_istoreN (pc1 := 9) (ls2 := #[.val (.ref x), .val (.ref a300), .val (.int (4 : Int32)), .val (.int (0 : Int32)), .unset]) P300.q d14_8 rfl rfl ?_
  refine W.g_iloadN (pc1 := 10) P300.q d14_9 rfl rfl ?_
  refine W.g_iloadN (pc1 := 11) P300.q d14_10 rfl rfl ?_
  refine W.g_cmpN (pc2 := 14) P300.q d14_11 rfl (by decide) ?_
  refine W.g_aloadN (pc1 := 15) P300.q d14_14 rfl rfl rfl ?_
  refine W.g_iloadN (pc1 := 16) P300.q d14_15 rfl rfl ?_
  refine P300.ldR (pc1 := 17) (v := .ref p0) V300 rfl (by decide) (by decide) rfl d14_16 rfl ?_
  refine W.g_astore (pc1 := 19) (ls2 := #[.val (.ref x), .val (.ref a300), .val (.int (4 : Int32)), .val (.int (0 : Int32)), .val (.ref p0)]) P300.q d14_17 rfl rfl rfl ?_
  refine W.g_aloadN (pc1 := 20) P300.q d14_19 rfl rfl rfl ?_
  refine W.g_aload (pc1 := 22) P300.q d14_20 rfl rfl rfl ?_
  refine P300.getF (host := "") (pc1 := 25) (Or.inl (wd hw (k := 86) rfl)) Via.refl (S1.2.2.2.2.2.2.2.1) d14_22 rfl ?_
  intro T301 P301
  refine P301.callV (pc1 := 28) (X1).exa (wd hw (k := 88) rfl) (wd hw (k := 89) rfl) (wd hw (k := 91) rfl) (wd hw (k := 90) rfl) (notFace_of_selects (args := #[]) (mvT P301.hz (wd hw (k := 91) rfl))) (by decide) (W.Str.eqPay (k := 0) P301.hz hwq (wd hw (k := 7) rfl) (X1) (S1.2.2.2.2.2.2.2.2.2.2.2.1) (US.2.1.ext (P301.extZ EZ all0)) US.1 (by decide) (by decide)) (argsL := [(.ref c0)]) (st0 := []) (lenOf pd_Ljava_lang_Object_R_Z rfl) rfl rfl (Nat.le_of_eq rfl) (by rw [hml]; rfl) (by decide) (by decide) (W.QEq.ok P301.chv) d14_25 rfl ?_
  intro v302 T302 h302 L302 q302 P302
  obtain ⟨hq302, rfl, rfl⟩ := q302
  rcases hq302 with ⟨rfl, cq302⟩ | ⟨rfl, cq302⟩
  · show W.Go p.tables e below _ (T302.setTop (mkF m 28 #[.val (.ref x), .val (.ref a300), .val (.int (4 : Int32)), .val (.int (0 : Int32)), .val (.ref p0)] [(.int (1 : Int32))]))
    refine W.g_ifN (pc2 := 31) P302.q d14_28 rfl (by decide) ?_
    refine W.g_aload (pc1 := 33) P302.q d14_31 rfl rfl rfl ?_
    exact P302.retAN hlk hret rfl rfl rfl d14_33 (by decide) (by decide) ⟨by rw [own_sel, if_pos cq302], P302.fr, P302.ext0⟩
  · show W.Go p.tables e below _ (T302.setTop (mkF m 28 #[.val (.ref x), .val (.ref a300), .val (.int (4 : Int32)), .val (.int (0 : Int32)), .val (.ref p0)] [(.int (0 : Int32))]))
    refine W.g_ifY (pc1 := 34) P302.q d14_28 (by decide) rfl (by decide) ?_
    refine W.g_iinc (pc1 := 37) (ls2 := #[.val (.ref x), .val (.ref a300), .val (.int (4 : Int32)), .val (.int ((0 : Int32) + Int32.ofInt 1)), .val (.ref p0)]) P302.q d14_34 rfl rfl rfl ?_
    show W.Go p.tables e below _ (T302.setTop (mkF m 37 #[.val (.ref x), .val (.ref a300), .val (.int (4 : Int32)), .val (.int (1 : Int32)), .val (.ref p0)] []))
    refine W.g_goto (pc1 := 9) P302.q d14_37 (by decide) rfl ?_
    refine W.g_iloadN (pc1 := 10) P302.q d14_9 rfl rfl ?_
    refine W.g_iloadN (pc1 := 11) P302.q d14_10 rfl rfl ?_
    refine W.g_cmpN (pc2 := 14) P302.q d14_11 rfl (by decide) ?_
    refine W.g_aloadN (pc1 := 15) P302.q d14_14 rfl rfl rfl ?_
    refine W.g_iloadN (pc1 := 16) P302.q d14_15 rfl rfl ?_
    refine P302.ldR (pc1 := 17) (v := .ref p1) V300 rfl (by decide) (by decide) rfl d14_16 rfl ?_
    refine W.g_astore (pc1 := 19) (ls2 := #[.val (.ref x), .val (.ref a300), .val (.int (4 : Int32)), .val (.int (1 : Int32)), .val (.ref p1)]) P302.q d14_17 rfl rfl rfl ?_
    refine W.g_aloadN (pc1 := 20) P302.q d14_19 rfl rfl rfl ?_
    refine W.g_aload (pc1 := 22) P302.q d14_20 rfl rfl rfl ?_
    refine P302.getF (host := "") (pc1 := 25) (Or.inl (wd hw (k := 86) rfl)) Via.refl (S1.2.2.2.2.2.2.2.2.1) d14_22 rfl ?_
    intro T303 P303
    refine P303.callV (pc1 := 28) (X1).exa (wd hw (k := 88) rfl) (wd hw (k := 89) rfl) (wd hw (k := 91) rfl) (wd hw (k := 90) rfl) (notFace_of_selects (args := #[]) (mvT P303.hz (wd hw (k := 91) rfl))) (by decide) (W.Str.eqPay (k := 0) P303.hz hwq (wd hw (k := 7) rfl) (X1) (S1.2.2.2.2.2.2.2.2.2.2.2.2.1) (US.2.1.ext (P303.extZ EZ all0)) US.1 (by decide) (by decide)) (argsL := [(.ref c1)]) (st0 := []) (lenOf pd_Ljava_lang_Object_R_Z rfl) rfl rfl (Nat.le_of_eq rfl) (by rw [hml]; rfl) (by decide) (by decide) (W.QEq.ok P303.chv) d14_25 rfl ?_
    intro v304 T304 h304 L304 q304 P304
    obtain ⟨hq304, rfl, rfl⟩ := q304
    rcases hq304 with ⟨rfl, cq304⟩ | ⟨rfl, cq304⟩
    · show W.Go p.tables e below _ (T304.setTop (mkF m 28 #[.val (.ref x), .val (.ref a300), .val (.int (4 : Int32)), .val (.int (1 : Int32)), .val (.ref p1)] [(.int (1 : Int32))]))
      refine W.g_ifN (pc2 := 31) P304.q d14_28 rfl (by decide) ?_
      refine W.g_aload (pc1 := 33) P304.q d14_31 rfl rfl rfl ?_
      exact P304.retAN hlk hret rfl rfl rfl d14_33 (by decide) (by decide) ⟨by rw [own_sel, if_neg cq302, if_pos cq304], P304.fr, P304.ext0⟩
    · show W.Go p.tables e below _ (T304.setTop (mkF m 28 #[.val (.ref x), .val (.ref a300), .val (.int (4 : Int32)), .val (.int (1 : Int32)), .val (.ref p1)] [(.int (0 : Int32))]))
      refine W.g_ifY (pc1 := 34) P304.q d14_28 (by decide) rfl (by decide) ?_
      refine W.g_iinc (pc1 := 37) (ls2 := #[.val (.ref x), .val (.ref a300), .val (.int (4 : Int32)), .val (.int ((1 : Int32) + Int32.ofInt 1)), .val (.ref p1)]) P304.q d14_34 rfl rfl rfl ?_
      show W.Go p.tables e below _ (T304.setTop (mkF m 37 #[.val (.ref x), .val (.ref a300), .val (.int (4 : Int32)), .val (.int (2 : Int32)), .val (.ref p1)] []))
      refine W.g_goto (pc1 := 9) P304.q d14_37 (by decide) rfl ?_
      refine W.g_iloadN (pc1 := 10) P304.q d14_9 rfl rfl ?_
      refine W.g_iloadN (pc1 := 11) P304.q d14_10 rfl rfl ?_
      refine W.g_cmpN (pc2 := 14) P304.q d14_11 rfl (by decide) ?_
      refine W.g_aloadN (pc1 := 15) P304.q d14_14 rfl rfl rfl ?_
      refine W.g_iloadN (pc1 := 16) P304.q d14_15 rfl rfl ?_
      refine P304.ldR (pc1 := 17) (v := .ref p2) V300 rfl (by decide) (by decide) rfl d14_16 rfl ?_
      refine W.g_astore (pc1 := 19) (ls2 := #[.val (.ref x), .val (.ref a300), .val (.int (4 : Int32)), .val (.int (2 : Int32)), .val (.ref p2)]) P304.q d14_17 rfl rfl rfl ?_
      refine W.g_aloadN (pc1 := 20) P304.q d14_19 rfl rfl rfl ?_
      refine W.g_aload (pc1 := 22) P304.q d14_20 rfl rfl rfl ?_
      refine P304.getF (host := "") (pc1 := 25) (Or.inl (wd hw (k := 86) rfl)) Via.refl (S1.2.2.2.2.2.2.2.2.2.1) d14_22 rfl ?_
      intro T305 P305
      refine P305.callV (pc1 := 28) (X1).exa (wd hw (k := 88) rfl) (wd hw (k := 89) rfl) (wd hw (k := 91) rfl) (wd hw (k := 90) rfl) (notFace_of_selects (args := #[]) (mvT P305.hz (wd hw (k := 91) rfl))) (by decide) (W.Str.eqPay (k := 0) P305.hz hwq (wd hw (k := 7) rfl) (X1) (S1.2.2.2.2.2.2.2.2.2.2.2.2.2) (US.2.1.ext (P305.extZ EZ all0)) US.1 (by decide) (by decide)) (argsL := [(.ref c2)]) (st0 := []) (lenOf pd_Ljava_lang_Object_R_Z rfl) rfl rfl (Nat.le_of_eq rfl) (by rw [hml]; rfl) (by decide) (by decide) (W.QEq.ok P305.chv) d14_25 rfl ?_
      intro v306 T306 h306 L306 q306 P306
      obtain ⟨hq306, rfl, rfl⟩ := q306
      rcases hq306 with ⟨rfl, cq306⟩ | ⟨rfl, cq306⟩
      · show W.Go p.tables e below _ (T306.setTop (mkF m 28 #[.val (.ref x), .val (.ref a300), .val (.int (4 : Int32)), .val (.int (2 : Int32)), .val (.ref p2)] [(.int (1 : Int32))]))
        refine W.g_ifN (pc2 := 31) P306.q d14_28 rfl (by decide) ?_
        refine W.g_aload (pc1 := 33) P306.q d14_31 rfl rfl rfl ?_
        exact P306.retAN hlk hret rfl rfl rfl d14_33 (by decide) (by decide) ⟨by rw [own_sel, if_neg cq302, if_neg cq304, if_pos cq306], P306.fr, P306.ext0⟩
      · show W.Go p.tables e below _ (T306.setTop (mkF m 28 #[.val (.ref x), .val (.ref a300), .val (.int (4 : Int32)), .val (.int (2 : Int32)), .val (.ref p2)] [(.int (0 : Int32))]))
        refine W.g_ifY (pc1 := 34) P306.q d14_28 (by decide) rfl (by decide) ?_
        refine W.g_iinc (pc1 := 37) (ls2 := #[.val (.ref x), .val (.ref a300), .val (.int (4 : Int32)), .val (.int ((2 : Int32) + Int32.ofInt 1)), .val (.ref p2)]) P306.q d14_34 rfl rfl rfl ?_
        show W.Go p.tables e below _ (T306.setTop (mkF m 37 #[.val (.ref x), .val (.ref a300), .val (.int (4 : Int32)), .val (.int (3 : Int32)), .val (.ref p2)] []))
        refine W.g_goto (pc1 := 9) P306.q d14_37 (by decide) rfl ?_
        refine W.g_iloadN (pc1 := 10) P306.q d14_9 rfl rfl ?_
        refine W.g_iloadN (pc1 := 11) P306.q d14_10 rfl rfl ?_
        refine W.g_cmpN (pc2 := 14) P306.q d14_11 rfl (by decide) ?_
        refine W.g_aloadN (pc1 := 15) P306.q d14_14 rfl rfl rfl ?_
        refine W.g_iloadN (pc1 := 16) P306.q d14_15 rfl rfl ?_
        refine P306.ldR (pc1 := 17) (v := .ref p3) V300 rfl (by decide) (by decide) rfl d14_16 rfl ?_
        refine W.g_astore (pc1 := 19) (ls2 := #[.val (.ref x), .val (.ref a300), .val (.int (4 : Int32)), .val (.int (3 : Int32)), .val (.ref p3)]) P306.q d14_17 rfl rfl rfl ?_
        refine W.g_aloadN (pc1 := 20) P306.q d14_19 rfl rfl rfl ?_
        refine W.g_aload (pc1 := 22) P306.q d14_20 rfl rfl rfl ?_
        refine P306.getF (host := "") (pc1 := 25) (Or.inl (wd hw (k := 86) rfl)) Via.refl (S1.2.2.2.2.2.2.2.2.2.2.1) d14_22 rfl ?_
        intro T307 P307
        refine P307.callV (pc1 := 28) X1.exa (wd hw (k := 88) rfl) (wd hw (k := 89) rfl) (wd hw (k := 91) rfl) (wd hw (k := 90) rfl) (notFace_of_selects (args := #[]) (mvT P307.hz (wd hw (k := 91) rfl))) (by decide) (W.MetN.pay (W := 0) (c_eqNull l Z a0 hw x h300) P307 (wd hw (k := 92) rfl) (wd hw (k := 6) rfl) (by decide) (by decide)) (argsL := [.null]) (st0 := []) (lenOf pd_Ljava_lang_Object_R_Z rfl) rfl rfl (Nat.le_of_eq rfl) (by rw [hml]; rfl) (by decide) (by decide) (W.Pure.ok P307.chv) d14_25 rfl ?_
        intro v308 T308 h308 L308 q308 P308
        obtain ⟨rfl, rfl, rfl⟩ := q308
        show W.Go p.tables e below _ (T308.setTop (mkF m 28 #[.val (.ref x), .val (.ref a300), .val (.int (4 : Int32)), .val (.int (3 : Int32)), .val (.ref p3)] [(.int (0 : Int32))]))
        refine W.g_ifY (pc1 := 34) P308.q d14_28 (by decide) rfl (by decide) ?_
        refine W.g_iinc (pc1 := 37) (ls2 := #[.val (.ref x), .val (.ref a300), .val (.int (4 : Int32)), .val (.int ((3 : Int32) + Int32.ofInt 1)), .val (.ref p3)]) P308.q d14_34 rfl rfl rfl ?_
        show W.Go p.tables e below _ (T308.setTop (mkF m 37 #[.val (.ref x), .val (.ref a300), .val (.int (4 : Int32)), .val (.int (4 : Int32)), .val (.ref p3)] []))
        refine W.g_goto (pc1 := 9) P308.q d14_37 (by decide) rfl ?_
        refine W.g_iloadN (pc1 := 10) P308.q d14_9 rfl rfl ?_
        refine W.g_iloadN (pc1 := 11) P308.q d14_10 rfl rfl ?_
        refine W.g_cmpY (pc1 := 40) P308.q d14_11 (by decide) rfl (by decide) ?_
        refine P308.getS (pc1 := 43) (wd hw (k := 97) rfl) Via.refl (S1.2.2.2.2.2.2.1) d14_40 rfl ?_
        intro T309 P309
        exact P309.retAN hlk hret rfl rfl rfl d14_43 (by decide) (by decide) ⟨by rw [own_sel, if_neg cq302, if_neg cq304, if_neg cq306], P309.fr, P309.ext0⟩
set_option maxRecDepth 65536 in
set_option maxHeartbeats 40000000 in
theorem c_expected (l : Launch) (Z : State) (a0 : Array Value) (hw : ∀ d ∈ tables_1, d.before a0 Z = true) (wS : ∀ a ∈ Bundle.stringAtoms, a.before a0 Z = true) (hEL : EW Z a0 ownEL) (x : Addr) (cs : List Int32) (va p0 p1 p2 p3 c0 c1 c2 : Addr) (kv : ClassId) (h0 : Heap) (S : En Z h0 va p0 p1 p2 p3 c0 c1 c2 kv) (EZ : Ext Z.heap h0) (S0 : W.Str Z h0 x cs) (zc : Int32) (fm : Value) (US : UST Z zc fm) : W.MetW l Z ownEL (⟨"com/example/numerary/numerary/ScoringOfCodePinLaw", "expected", "(Ljava/lang/String;)Lcom/example/numerary/numerary/Scoring;"⟩ : MethodName) method_7_code 1 ((Option.some (Jvm.ClassFile.FieldType.object "com/example/numerary/numerary/Scoring"))) [] ({ frames := 3, cells := 6, slots := 160, locals := 60 } : Room) #[.ref x] [] h0 (QS (own_sel cs p0 p1 p2 p3) h0) := by
  refine W.MetW.mk (ls0 := #[.val (.ref x)]) [] (plainFor_of_name pn_com_example_numerary_numerary_ScoringOfCodePinLaw) (fun m => by first | (simp [entryFrame, mkF, argsToLocals, Value.category]; done) | rfl) ?_
  intro p e s m below meth c s₁ hml hret hnm hlk hss P0
  show W.Go p.tables e below _ (s₁.setTop (mkF m 0 #[.val (.ref x)] []))
  have hwq : ∀ d ∈ StrChars.Road.wordsEq, d.before a0 Z = true := fun d hd => hw d (own_wordsEq d hd)
  refine W.g_aloadN (pc1 := 1) P0.q d18_0 rfl rfl rfl ?_
  refine P0.ldcR (pc1 := 3) (n := 40) (vs := [.int 112, .int 114, .int 111, .int 112, .int 111, .int 114, .int 116, .int 105, .int 111, .int 110]) (z := 10) (wd hw (k := 5) rfl) wS hEL (by decide) ⟨by decide, by decide +kernel⟩ (by decide) (by decide) (by decide) (by decide) (by decide) (by decide) d18_1 rfl ?_
  intro y310 T310 h310 t310 k310 P310 E310 R310 A310 C310 F310 V310 N310 I310
  have Y310 : W.Str Z h310 y310 own_L0 := ⟨t310, k310, _, _, _, A310, F310, C310, V310, StrChars.Road.codOf (cs := own_L0) (n := 10) rfl (fun c hc => (own_p0 c hc).2), fun c hc => ⟨(own_p0 c hc).1, own_up (own_p0 c hc).2⟩, Nat.le_of_ble_eq_true rfl⟩
  have X310 := S0.ext E310
  have S310 := S.ext E310
  refine P310.callV (pc1 := 6) (X310).exa (wd hw (k := 101) rfl) (wd hw (k := 89) rfl) (wd hw (k := 91) rfl) (wd hw (k := 90) rfl) (notFace_of_selects (args := #[]) (mvT P310.hz (wd hw (k := 91) rfl))) (by decide) (W.Str.eqPay (k := 0) P310.hz hwq (wd hw (k := 7) rfl) (X310) (Y310) (US.2.1.ext (P310.extZ EZ all0)) US.1 (by decide) (by decide)) (argsL := [(.ref y310)]) (st0 := []) (lenOf pd_Ljava_lang_Object_R_Z rfl) rfl rfl (Nat.le_of_eq rfl) (by rw [hml]; rfl) (by decide) (by decide) (W.QEq.ok P310.chv) d18_3 rfl ?_
  intro v311 T311 h311 L311 q311 P311
  obtain ⟨hq311, rfl, rfl⟩ := q311
  rcases hq311 with ⟨rfl, cq311⟩ | ⟨rfl, cq311⟩
  · show W.Go p.tables e below _ (T311.setTop (mkF m 6 #[.val (.ref x)] [(.int (1 : Int32))]))
    refine W.g_ifN (pc2 := 9) P311.q d18_6 rfl (by decide) ?_
    refine P311.getS (pc1 := 12) (wd hw (k := 114) rfl) Via.refl (S310.2.2.2.1) d18_9 rfl ?_
    intro T312 P312
    exact P312.retAW hEL hlk hret rfl rfl rfl d18_12 (by decide) (by decide) ⟨by rw [own_sel, if_pos cq311], P312.fr, P312.ext0⟩
  · show W.Go p.tables e below _ (T311.setTop (mkF m 6 #[.val (.ref x)] [(.int (0 : Int32))]))
    refine W.g_ifY (pc1 := 13) P311.q d18_6 (by decide) rfl (by decide) ?_
    refine W.g_aloadN (pc1 := 14) P311.q d18_13 rfl rfl rfl ?_
    refine P311.ldcR (pc1 := 16) (n := 20) (vs := [.int 114, .int 97, .int 116, .int 105, .int 111]) (z := 5) (wd hw (k := 102) rfl) wS hEL (by decide) ⟨by decide, by decide +kernel⟩ (by decide) (by decide) (by decide) (by decide) (by decide) (by decide) d18_14 rfl ?_
    intro y313 T313 h313 t313 k313 P313 E313 R313 A313 C313 F313 V313 N313 I313
    have Y313 : W.Str Z h313 y313 own_L1 := ⟨t313, k313, _, _, _, A313, F313, C313, V313, StrChars.Road.codOf (cs := own_L1) (n := 5) rfl (fun c hc => (own_p1 c hc).2), fun c hc => ⟨(own_p1 c hc).1, own_up (own_p1 c hc).2⟩, Nat.le_of_ble_eq_true rfl⟩
    have X313 := X310.ext E313
    have S313 := S310.ext E313
    refine P313.callV (pc1 := 19) (X313).exa (wd hw (k := 101) rfl) (wd hw (k := 89) rfl) (wd hw (k := 91) rfl) (wd hw (k := 90) rfl) (notFace_of_selects (args := #[]) (mvT P313.hz (wd hw (k := 91) rfl))) (by decide) (W.Str.eqPay (k := 0) P313.hz hwq (wd hw (k := 7) rfl) (X313) (Y313) (US.2.1.ext (P313.extZ EZ all0)) US.1 (by decide) (by decide)) (argsL := [(.ref y313)]) (st0 := []) (lenOf pd_Ljava_lang_Object_R_Z rfl) rfl rfl (Nat.le_of_eq rfl) (by rw [hml]; rfl) (by decide) (by decide) (W.QEq.ok P313.chv) d18_16 rfl ?_
    intro v314 T314 h314 L314 q314 P314
    obtain ⟨hq314, rfl, rfl⟩ := q314
    rcases hq314 with ⟨rfl, cq314⟩ | ⟨rfl, cq314⟩
    · show W.Go p.tables e below _ (T314.setTop (mkF m 19 #[.val (.ref x)] [(.int (1 : Int32))]))
      refine W.g_ifN (pc2 := 22) P314.q d18_19 rfl (by decide) ?_
      refine P314.getS (pc1 := 25) (wd hw (k := 117) rfl) Via.refl (S313.2.2.2.2.1) d18_22 rfl ?_
      intro T315 P315
      exact P315.retAW hEL hlk hret rfl rfl rfl d18_25 (by decide) (by decide) ⟨by rw [own_sel, if_neg cq311, if_pos cq314], P315.fr, P315.ext0⟩
    · show W.Go p.tables e below _ (T314.setTop (mkF m 19 #[.val (.ref x)] [(.int (0 : Int32))]))
      refine W.g_ifY (pc1 := 26) P314.q d18_19 (by decide) rfl (by decide) ?_
      refine W.g_aloadN (pc1 := 27) P314.q d18_26 rfl rfl rfl ?_
      refine P314.ldcR (pc1 := 29) (n := 76) (vs := [.int 99, .int 111, .int 110, .int 116, .int 105, .int 110, .int 117, .int 111, .int 117, .int 115, .int 45, .int 118, .int 97, .int 114, .int 105, .int 97, .int 98, .int 108, .int 101]) (z := 19) (wd hw (k := 103) rfl) wS hEL (by decide) ⟨by decide, by decide +kernel⟩ (by decide) (by decide) (by decide) (by decide) (by decide) (by decide) d18_27 rfl ?_
      intro y316 T316 h316 t316 k316 P316 E316 R316 A316 C316 F316 V316 N316 I316
      have Y316 : W.Str Z h316 y316 own_L2 := ⟨t316, k316, _, _, _, A316, F316, C316, V316, StrChars.Road.codOf (cs := own_L2) (n := 19) rfl (fun c hc => (own_p2 c hc).2), fun c hc => ⟨(own_p2 c hc).1, own_up (own_p2 c hc).2⟩, Nat.le_of_ble_eq_true rfl⟩
      have X316 := X313.ext E316
      have S316 := S313.ext E316
      refine P316.callV (pc1 := 32) (X316).exa (wd hw (k := 101) rfl) (wd hw (k := 89) rfl) (wd hw (k := 91) rfl) (wd hw (k := 90) rfl) (notFace_of_selects (args := #[]) (mvT P316.hz (wd hw (k := 91) rfl))) (by decide) (W.Str.eqPay (k := 0) P316.hz hwq (wd hw (k := 7) rfl) (X316) (Y316) (US.2.1.ext (P316.extZ EZ all0)) US.1 (by decide) (by decide)) (argsL := [(.ref y316)]) (st0 := []) (lenOf pd_Ljava_lang_Object_R_Z rfl) rfl rfl (Nat.le_of_eq rfl) (by rw [hml]; rfl) (by decide) (by decide) (W.QEq.ok P316.chv) d18_29 rfl ?_
      intro v317 T317 h317 L317 q317 P317
      obtain ⟨hq317, rfl, rfl⟩ := q317
      rcases hq317 with ⟨rfl, cq317⟩ | ⟨rfl, cq317⟩
      · show W.Go p.tables e below _ (T317.setTop (mkF m 32 #[.val (.ref x)] [(.int (1 : Int32))]))
        refine W.g_ifN (pc2 := 35) P317.q d18_32 rfl (by decide) ?_
        refine P317.getS (pc1 := 38) (wd hw (k := 116) rfl) Via.refl (S316.2.2.2.2.2.1) d18_35 rfl ?_
        intro T318 P318
        exact P318.retAW hEL hlk hret rfl rfl rfl d18_38 (by decide) (by decide) ⟨by rw [own_sel, if_neg cq311, if_neg cq314, if_pos cq317], P318.fr, P318.ext0⟩
      · show W.Go p.tables e below _ (T317.setTop (mkF m 32 #[.val (.ref x)] [(.int (0 : Int32))]))
        refine W.g_ifY (pc1 := 39) P317.q d18_32 (by decide) rfl (by decide) ?_
        refine P317.getS (pc1 := 42) (wd hw (k := 104) rfl) Via.refl (S316.2.2.2.2.2.2.1) d18_39 rfl ?_
        intro T319 P319
        exact P319.retAW hEL hlk hret rfl rfl rfl d18_42 (by decide) (by decide) ⟨by rw [own_sel, if_neg cq311, if_neg cq314, if_neg cq317], P319.fr, P319.ext0⟩
theorem own_i2c (x : Int32) : By (x &&& 255).toUInt32.toUInt16.toUInt32.toInt32 := by
  have e : (x &&& 255).toUInt32.toUInt16.toUInt32.toInt32 = x &&& 255 := own_nar255 x
  rw [e]; exact own_m255 x
theorem own_six (x : Int32) : let y := x &&& 2147483647; let k := y - y / 6 * 6; k = 0 ∨ k = 1 ∨ k = 2 ∨ k = 3 ∨ k = 4 ∨ k = 5 := by
  intro y k
  have q := c_mask x 2147483647 31 (by decide) (by decide)
  have h0 : 0 ≤ y.toInt := by show 0 ≤ (x &&& 2147483647).toInt; rw [q]; exact Int.emod_nonneg _ (by decide)
  have r : k.toInt = y.toInt % 6 := own_rem y 6 h0 (by decide)
  have r : k.toInt = 0 ∨ k.toInt = 1 ∨ k.toInt = 2 ∨ k.toInt = 3 ∨ k.toInt = 4 ∨ k.toInt = 5 := by omega
  rcases r with r | r | r | r | r | r
  · exact Or.inl (Int32.toInt_inj.mp r)
  · exact Or.inr (Or.inl (Int32.toInt_inj.mp r))
  · exact Or.inr (Or.inr (Or.inl (Int32.toInt_inj.mp r)))
  · exact Or.inr (Or.inr (Or.inr (Or.inl (Int32.toInt_inj.mp r))))
  · exact Or.inr (Or.inr (Or.inr (Or.inr (Or.inl (Int32.toInt_inj.mp r)))))
  · exact Or.inr (Or.inr (Or.inr (Or.inr (Or.inr (Int32.toInt_inj.mp r)))))
def Q1 (n : Nat) (v : Option Value) (h : Heap) (L : List Loc) : Prop := v = some (.int 1) ∧ W.Frw [] n L
set_option maxRecDepth 65536 in
set_option maxHeartbeats 40000000 in
theorem rm1 (l : Launch) (Z : State) (a0 : Array Value) (hw : ∀ d ∈ tables_1, d.before a0 Z = true) (wS : ∀ a ∈ Bundle.stringAtoms, a.before a0 Z = true) (hEL : EW Z a0 ownEL) (j0 j1 j2 j3 j4 j5 : Int32) (va p0 p1 p2 p3 c0 c1 c2 : Addr) (kv : ClassId) (h0 : Heap) (S : En Z h0 va p0 p1 p2 p3 c0 c1 c2 kv) (EZ : Ext Z.heap h0) (zc : Int32) (fm : Value) (US : UST Z zc fm) : W.MetW l Z ownEL x code maxLocals (ret) tables_1 room_1 #[.int j0, .int j1, .int j2, .int j3, .int j4, .int j5] [] h0 (Q1 h0.size) := by
  refine W.MetW.mk (ls0 := #[.val (.int j0), .val (.int j1), .val (.int j2), .val (.int j3), .val (.int j4), .val (.int j5), .unset, .unset, .unset, .unset]) [] (plainFor_of_name pn_com_example_numerary_numerary_ScoringOfCodePinLaw) (fun m => by first | (simp [entryFrame, mkF, argsToLocals, Value.category, maxLocals]; done) | rfl) ?_
  intro p e s m below meth c s₁ hml hret hnm hlk hss P0
  have hml : c.maxLocals = 10 := hml
  show W.Go p.tables e below _ (s₁.setTop (mkF m 0 #[.val (.int j0), .val (.int j1), .val (.int j2), .val (.int j3), .val (.int j4), .val (.int j5), .unset, .unset, .unset, .unset] []))
  refine W.g_iloadN (pc1 := 1) P0.q at_0 rfl rfl ?_
  refine P0.ldcI (pc1 := 3) (wd hw (k := 0) rfl) at_1 rfl ?_
  refine W.g_iand (pc1 := 4) P0.q at_3 rfl ?_
  refine W.g_iconst (pc1 := 5) (v := (4 : Int32)) P0.q at_4 (by decide) rfl ?_
  refine W.g_irem (pc1 := 6) P0.q at_5 (by decide) rfl ?_
  refine W.g_istore (pc1 := 8) (ls2 := #[.val (.int j0), .val (.int j1), .val (.int j2), .val (.int j3), .val (.int j4), .val (.int j5), .val (.int ((j0 &&& (2147483647 : Int32)) - ((j0 &&& (2147483647 : Int32)) / (4 : Int32)) * (4 : Int32))), .unset, .unset, .unset]) P0.q at_6 rfl rfl ?_
  refine W.g_iloadN (pc1 := 9) P0.q at_8 rfl rfl ?_
  refine P0.ldcI (pc1 := 11) (wd hw (k := 0) rfl) at_9 rfl ?_
  refine W.g_iand (pc1 := 12) P0.q at_11 rfl ?_
  refine W.g_istore (pc1 := 14) (ls2 := #[.val (.int j0), .val (.int j1), .val (.int j2), .val (.int j3), .val (.int j4), .val (.int j5), .val (.int ((j0 &&& (2147483647 : Int32)) - ((j0 &&& (2147483647 : Int32)) / (4 : Int32)) * (4 : Int32))), .val (.int (j1 &&& (2147483647 : Int32))), .unset, .unset]) P0.q at_12 rfl rfl ?_
  refine W.g_iloadN (pc1 := 15) P0.q at_14 rfl rfl ?_
  refine W.g_sipush (pc1 := 18) (v := (255 : Int32)) P0.q at_15 (by decide) rfl ?_
  refine W.g_iand (pc1 := 19) P0.q at_18 rfl ?_
  refine W.g_i2c (pc1 := 20) P0.q at_19 rfl ?_
  refine W.g_istore (pc1 := 22) (ls2 := #[.val (.int j0), .val (.int j1), .val (.int j2), .val (.int j3), .val (.int j4), .val (.int j5), .val (.int ((j0 &&& (2147483647 : Int32)) - ((j0 &&& (2147483647 : Int32)) / (4 : Int32)) * (4 : Int32))), .val (.int (j1 &&& (2147483647 : Int32))), .val (.int (j2 &&& (255 : Int32)).toUInt32.toUInt16.toUInt32.toInt32), .unset]) P0.q at_20 rfl rfl ?_
  refine W.g_iload (pc1 := 24) P0.q at_22 rfl rfl ?_
  have J : ∀ (vm : Vm) (T : State) (L : List Loc) (h : Heap) (y : Addr) (cs : List Int32) (PJ : W.Pos p l e room_1 s m #[.int j0, .int j1, .int j2, .int j3, .int j4, .int j5] below meth c code Z ownEL [] h0 x.cls vm T L 12 200 h) (SJ : W.Str Z h y cs), W.Go p.tables e below (W.GW s Z ownEL h0 (Q1 h0.size) room_1) (T.setTop (mkF m 131 #[.val (.int j0), .val (.int j1), .val (.int j2), .val (.int j3), .val (.int j4), .val (.int j5), .val (.int ((j0 &&& (2147483647 : Int32)) - ((j0 &&& (2147483647 : Int32)) / (4 : Int32)) * (4 : Int32))), .val (.int (j1 &&& (2147483647 : Int32))), .val (.int (j2 &&& (255 : Int32)).toUInt32.toUInt16.toUInt32.toInt32), .val (.ref y)] [])) := by
    intro vm T L h y cs PJ SJ
    have S1 := S.ext PJ.ext0
    refine W.g_aload (pc1 := 133) PJ.q at_131 rfl rfl rfl ?_
    refine PJ.callS (pc1 := 136) (wd hw (k := 63) rfl) (wd hw (k := 64) rfl) (wd hw (k := 65) rfl) (wd hw (k := 66) rfl) (by decide) (W.MetN.pay (W := 0) (c_ofCode l Z a0 hw y cs va p0 p1 p2 p3 c0 c1 c2 kv h S1 (PJ.extZ EZ all0) SJ zc fm US) PJ (wd hw (k := 66) rfl) (wd hw (k := 65) rfl) (by decide) (by decide)) (argsL := [(.ref y)]) (st0 := []) (lenOf pd_Ljava_lang_String_R_Lcom_example_numerary_numerary_Scoring rfl) rfl rfl (Nat.le_of_eq rfl) (by rw [hml]; rfl) (by decide) (by decide) (fun _ _ _ q => ⟨q.2.1.up PJ.sz all0, CHr.ext q.2.2 PJ.chv⟩) at_133 rfl ?_
    intro v320 T320 h320 L320 q320 P320
    obtain ⟨rfl, f320, E320⟩ := q320
    show W.Go p.tables e below _ (T320.setTop (mkF m 136 #[.val (.int j0), .val (.int j1), .val (.int j2), .val (.int j3), .val (.int j4), .val (.int j5), .val (.int ((j0 &&& (2147483647 : Int32)) - ((j0 &&& (2147483647 : Int32)) / (4 : Int32)) * (4 : Int32))), .val (.int (j1 &&& (2147483647 : Int32))), .val (.int (j2 &&& (255 : Int32)).toUInt32.toUInt16.toUInt32.toInt32), .val (.ref y)] [(.ref (own_sel cs p0 p1 p2 p3))]))
    have S2 := S1.ext E320
    have SK := SJ.ext E320
    refine W.g_aload (pc1 := 138) P320.q at_136 rfl rfl rfl ?_
    refine P320.callSW (pc1 := 141) (wd hw (k := 98) rfl) (wd hw (k := 99) rfl) (wd hw (k := 3) rfl) (wd hw (k := 100) rfl) (by decide) (W.MetW.pay (W := 1) (c_expected l Z a0 hw wS hEL y cs va p0 p1 p2 p3 c0 c1 c2 kv h320 S2 (P320.extZ EZ all0) SK zc fm US) P320 hEL all0 (wd hw (k := 100) rfl) (wd hw (k := 3) rfl) (by decide) (by decide)) (argsL := [(.ref y)]) (st0 := [(.ref (own_sel cs p0 p1 p2 p3))]) (lenOf pd_Ljava_lang_String_R_Lcom_example_numerary_numerary_Scoring rfl) rfl rfl (Nat.le_of_eq rfl) (by rw [hml]; rfl) (by decide) (by decide) (fun _ _ _ q => q.2.1.up P320.sz all0) at_138 rfl ?_
    intro v321 T321 h321 L321 q321 P321 R321
    obtain ⟨rfl, f321, E321⟩ := q321
    show W.Go p.tables e below _ (T321.setTop (mkF m 141 #[.val (.int j0), .val (.int j1), .val (.int j2), .val (.int j3), .val (.int j4), .val (.int j5), .val (.int ((j0 &&& (2147483647 : Int32)) - ((j0 &&& (2147483647 : Int32)) / (4 : Int32)) * (4 : Int32))), .val (.int (j1 &&& (2147483647 : Int32))), .val (.int (j2 &&& (255 : Int32)).toUInt32.toUInt16.toUInt32.toInt32), .val (.ref y)] [(.ref (own_sel cs p0 p1 p2 p3)), (.ref (own_sel cs p0 p1 p2 p3))]))
    refine W.g_acmpN (pc2 := 144) P321.q at_141 rfl rfl rfl (by simp [Jvm.Free.XT.acmp]) ?_
    refine W.g_iconst (pc1 := 145) (v := (1 : Int32)) P321.q at_144 (by decide) rfl ?_
    refine W.g_goto (pc1 := 149) P321.q at_145 (by decide) rfl ?_
    exact P321.retVW hEL hlk hret (Or.inl rfl) at_149 (by decide) (by decide) ⟨rfl, P321.fr⟩
  refine W.g_if (pc1 := 44) (pc2 := 27) P0.q at_24 (by decide) rfl rfl (fun (hcprop : ¬ ((j0 &&& (2147483647 : Int32)) - ((j0 &&& (2147483647 : Int32)) / (4 : Int32)) * (4 : Int32)) = 0) => ?_) (fun (hcprop : ¬ (¬ ((j0 &&& (2147483647 : Int32)) - ((j0 &&& (2147483647 : Int32)) / (4 : Int32)) * (4 : Int32)) = 0)) => ?_)
  · refine W.g_iload (pc1 := 46) P0.q at_44 rfl rfl ?_
    refine W.g_iconst (pc1 := 47) (v := (1 : Int32)) P0.q at_46 (by decide) rfl ?_
    refine W.g_cmp (pc1 := 67) (pc2 := 50) P0.q at_47 (by decide) rfl rfl (fun (hcratio : ¬ ((j0 &&& (2147483647 : Int32)) - ((j0 &&& (2147483647 : Int32)) / (4 : Int32)) * (4 : Int32)) = (1 : Int32)) => ?_) (fun (hcratio : ¬ (¬ ((j0 &&& (2147483647 : Int32)) - ((j0 &&& (2147483647 : Int32)) / (4 : Int32)) * (4 : Int32)) = (1 : Int32))) => ?_)
    · refine W.g_iload (pc1 := 69) P0.q at_67 rfl rfl ?_
      refine W.g_iconst (pc1 := 70) (v := (2 : Int32)) P0.q at_69 (by decide) rfl ?_
      refine W.g_cmp (pc1 := 90) (pc2 := 73) P0.q at_70 (by decide) rfl rfl (fun (hccv : ¬ ((j0 &&& (2147483647 : Int32)) - ((j0 &&& (2147483647 : Int32)) / (4 : Int32)) * (4 : Int32)) = (2 : Int32)) => ?_) (fun (hccv : ¬ (¬ ((j0 &&& (2147483647 : Int32)) - ((j0 &&& (2147483647 : Int32)) / (4 : Int32)) * (4 : Int32)) = (2 : Int32))) => ?_)
      · refine W.g_iload (pc1 := 92) P0.q at_90 rfl rfl ?_
        refine W.g_bipush (pc1 := 94) (v := (6 : Int32)) P0.q at_92 (by decide) rfl ?_
        refine W.g_irem (pc1 := 95) P0.q at_94 (by decide) rfl ?_
        refine W.g_iload (pc1 := 97) P0.q at_95 rfl rfl ?_
        refine W.g_iloadN (pc1 := 98) P0.q at_97 rfl rfl ?_
        refine W.g_sipush (pc1 := 101) (v := (255 : Int32)) P0.q at_98 (by decide) rfl ?_
        refine W.g_iand (pc1 := 102) P0.q at_101 rfl ?_
        refine W.g_i2c (pc1 := 103) P0.q at_102 rfl ?_
        refine W.g_iload (pc1 := 105) P0.q at_103 rfl rfl ?_
        refine W.g_sipush (pc1 := 108) (v := (255 : Int32)) P0.q at_105 (by decide) rfl ?_
        refine W.g_iand (pc1 := 109) P0.q at_108 rfl ?_
        refine W.g_i2c (pc1 := 110) P0.q at_109 rfl ?_
        refine W.g_iload (pc1 := 112) P0.q at_110 rfl rfl ?_
        refine W.g_sipush (pc1 := 115) (v := (255 : Int32)) P0.q at_112 (by decide) rfl ?_
        refine W.g_iand (pc1 := 116) P0.q at_115 rfl ?_
        refine W.g_i2c (pc1 := 117) P0.q at_116 rfl ?_
        refine W.g_iloadN (pc1 := 118) P0.q at_117 rfl rfl ?_
        refine W.g_bipush (pc1 := 120) (v := (16 : Int32)) P0.q at_118 (by decide) rfl ?_
        refine W.g_iushr (pc1 := 121) P0.q at_120 rfl ?_
        refine W.g_sipush (pc1 := 124) (v := (255 : Int32)) P0.q at_121 (by decide) rfl ?_
        refine W.g_iand (pc1 := 125) P0.q at_124 rfl ?_
        refine W.g_i2c (pc1 := 126) P0.q at_125 rfl ?_
        refine P0.callSW (pc1 := 129) (wd hw (k := 108) rfl) (wd hw (k := 109) rfl) (wd hw (k := 3) rfl) (wd hw (k := 110) rfl) (by decide) (W.MetW.pay (W := 0) (c_mk l Z a0 hw wS hEL ((j1 &&& (2147483647 : Int32)) - ((j1 &&& (2147483647 : Int32)) / (6 : Int32)) * (6 : Int32)) (own_six j1) (j2 &&& (255 : Int32)).toUInt32.toUInt16.toUInt32.toInt32 (own_i2c _) (j3 &&& (255 : Int32)).toUInt32.toUInt16.toUInt32.toInt32 (own_i2c _) (j4 &&& (255 : Int32)).toUInt32.toUInt16.toUInt32.toInt32 (own_i2c _) (j5 &&& (255 : Int32)).toUInt32.toUInt16.toUInt32.toInt32 (own_i2c _) ((Jvm.Free.XT.ushr j0 (16 : Int32)) &&& (255 : Int32)).toUInt32.toUInt16.toUInt32.toInt32 (own_i2c _) h0 (P0.extZ EZ all0) zc fm US) P0 hEL all0 (wd hw (k := 110) rfl) (wd hw (k := 3) rfl) (by decide) (by decide)) (argsL := [(.int ((j1 &&& (2147483647 : Int32)) - ((j1 &&& (2147483647 : Int32)) / (6 : Int32)) * (6 : Int32))), (.int (j2 &&& (255 : Int32)).toUInt32.toUInt16.toUInt32.toInt32), (.int (j3 &&& (255 : Int32)).toUInt32.toUInt16.toUInt32.toInt32), (.int (j4 &&& (255 : Int32)).toUInt32.toUInt16.toUInt32.toInt32), (.int (j5 &&& (255 : Int32)).toUInt32.toUInt16.toUInt32.toInt32), (.int ((Jvm.Free.XT.ushr j0 (16 : Int32)) &&& (255 : Int32)).toUInt32.toUInt16.toUInt32.toInt32)]) (st0 := []) (lenOf pd_ICCCCC_R_Ljava_lang_String rfl) rfl rfl (Nat.le_of_eq rfl) (by rw [hml]; rfl) (by decide) (by decide) (fun _ _ _ q => by obtain ⟨_, _, _, q2, _⟩ := q; exact q2.up P0.sz all0) at_126 rfl ?_
        intro v325 T325 h325 L325 q325 P325 R325
        obtain ⟨y325, d325, rfl, f325, E325, Y325⟩ := q325
        show W.Go p.tables e below _ (T325.setTop (mkF m 129 #[.val (.int j0), .val (.int j1), .val (.int j2), .val (.int j3), .val (.int j4), .val (.int j5), .val (.int ((j0 &&& (2147483647 : Int32)) - ((j0 &&& (2147483647 : Int32)) / (4 : Int32)) * (4 : Int32))), .val (.int (j1 &&& (2147483647 : Int32))), .val (.int (j2 &&& (255 : Int32)).toUInt32.toUInt16.toUInt32.toInt32), .unset] [(.ref y325)]))
        refine W.g_astore (pc1 := 131) (ls2 := #[.val (.int j0), .val (.int j1), .val (.int j2), .val (.int j3), .val (.int j4), .val (.int j5), .val (.int ((j0 &&& (2147483647 : Int32)) - ((j0 &&& (2147483647 : Int32)) / (4 : Int32)) * (4 : Int32))), .val (.int (j1 &&& (2147483647 : Int32))), .val (.int (j2 &&& (255 : Int32)).toUInt32.toUInt16.toUInt32.toInt32), .val (.ref y325)]) P325.q at_129 rfl rfl rfl ?_
        exact J _ T325 _ _ y325 d325 (P325.mono (by decide) (by decide)) Y325
      · refine W.g_iload (pc1 := 75) P0.q at_73 rfl rfl ?_
        refine W.g_bipush (pc1 := 77) (v := (21 : Int32)) P0.q at_75 (by decide) rfl ?_
        refine W.g_irem (pc1 := 78) P0.q at_77 (by decide) rfl ?_
        refine W.g_iconst (pc1 := 79) (v := (1 : Int32)) P0.q at_78 (by decide) rfl ?_
        refine W.g_isub (pc1 := 80) P0.q at_79 rfl ?_
        refine W.g_iload (pc1 := 82) P0.q at_80 rfl rfl ?_
        refine P0.callSW (pc1 := 85) (wd hw (k := 111) rfl) (wd hw (k := 112) rfl) (wd hw (k := 3) rfl) (wd hw (k := 113) rfl) (by decide) (W.MetW.pay (W := 0) (c_cv l Z a0 hw wS hEL (((j1 &&& (2147483647 : Int32)) - ((j1 &&& (2147483647 : Int32)) / (21 : Int32)) * (21 : Int32)) - (1 : Int32)) (j2 &&& (255 : Int32)).toUInt32.toUInt16.toUInt32.toInt32 (own_i2c j2) h0 (P0.extZ EZ all0) zc fm US) P0 hEL all0 (wd hw (k := 113) rfl) (wd hw (k := 3) rfl) (by decide) (by decide)) (argsL := [(.int (((j1 &&& (2147483647 : Int32)) - ((j1 &&& (2147483647 : Int32)) / (21 : Int32)) * (21 : Int32)) - (1 : Int32))), (.int (j2 &&& (255 : Int32)).toUInt32.toUInt16.toUInt32.toInt32)]) (st0 := []) (lenOf pd_IC_R_Ljava_lang_String rfl) rfl rfl (Nat.le_of_eq rfl) (by rw [hml]; rfl) (by decide) (by decide) (fun _ _ _ q => by obtain ⟨_, _, _, q2, _⟩ := q; exact q2.up P0.sz all0) at_82 rfl ?_
        intro v324 T324 h324 L324 q324 P324 R324
        obtain ⟨y324, d324, rfl, f324, E324, Y324⟩ := q324
        show W.Go p.tables e below _ (T324.setTop (mkF m 85 #[.val (.int j0), .val (.int j1), .val (.int j2), .val (.int j3), .val (.int j4), .val (.int j5), .val (.int ((j0 &&& (2147483647 : Int32)) - ((j0 &&& (2147483647 : Int32)) / (4 : Int32)) * (4 : Int32))), .val (.int (j1 &&& (2147483647 : Int32))), .val (.int (j2 &&& (255 : Int32)).toUInt32.toUInt16.toUInt32.toInt32), .unset] [(.ref y324)]))
        refine W.g_astore (pc1 := 87) (ls2 := #[.val (.int j0), .val (.int j1), .val (.int j2), .val (.int j3), .val (.int j4), .val (.int j5), .val (.int ((j0 &&& (2147483647 : Int32)) - ((j0 &&& (2147483647 : Int32)) / (4 : Int32)) * (4 : Int32))), .val (.int (j1 &&& (2147483647 : Int32))), .val (.int (j2 &&& (255 : Int32)).toUInt32.toUInt16.toUInt32.toInt32), .val (.ref y324)]) P324.q at_85 rfl rfl rfl ?_
        refine W.g_goto (pc1 := 131) P324.q at_87 (by decide) rfl ?_
        exact J _ T324 _ _ y324 d324 (P324.mono (by decide) (by decide)) Y324
    · refine W.g_iload (pc1 := 52) P0.q at_50 rfl rfl ?_
      refine W.g_bipush (pc1 := 54) (v := (7 : Int32)) P0.q at_52 (by decide) rfl ?_
      refine W.g_irem (pc1 := 55) P0.q at_54 (by decide) rfl ?_
      refine W.g_iconst (pc1 := 56) (v := (1 : Int32)) P0.q at_55 (by decide) rfl ?_
      refine W.g_isub (pc1 := 57) P0.q at_56 rfl ?_
      refine W.g_iload (pc1 := 59) P0.q at_57 rfl rfl ?_
      refine P0.callSW (pc1 := 62) (wd hw (k := 105) rfl) (wd hw (k := 106) rfl) (wd hw (k := 3) rfl) (wd hw (k := 107) rfl) (by decide) (W.MetW.pay (W := 0) (c_ratio l Z a0 hw wS hEL (((j1 &&& (2147483647 : Int32)) - ((j1 &&& (2147483647 : Int32)) / (7 : Int32)) * (7 : Int32)) - (1 : Int32)) (j2 &&& (255 : Int32)).toUInt32.toUInt16.toUInt32.toInt32 (own_i2c j2) h0 (P0.extZ EZ all0) zc fm US) P0 hEL all0 (wd hw (k := 107) rfl) (wd hw (k := 3) rfl) (by decide) (by decide)) (argsL := [(.int (((j1 &&& (2147483647 : Int32)) - ((j1 &&& (2147483647 : Int32)) / (7 : Int32)) * (7 : Int32)) - (1 : Int32))), (.int (j2 &&& (255 : Int32)).toUInt32.toUInt16.toUInt32.toInt32)]) (st0 := []) (lenOf pd_IC_R_Ljava_lang_String rfl) rfl rfl (Nat.le_of_eq rfl) (by rw [hml]; rfl) (by decide) (by decide) (fun _ _ _ q => by obtain ⟨_, _, _, q2, _⟩ := q; exact q2.up P0.sz all0) at_59 rfl ?_
      intro v323 T323 h323 L323 q323 P323 R323
      obtain ⟨y323, d323, rfl, f323, E323, Y323⟩ := q323
      show W.Go p.tables e below _ (T323.setTop (mkF m 62 #[.val (.int j0), .val (.int j1), .val (.int j2), .val (.int j3), .val (.int j4), .val (.int j5), .val (.int ((j0 &&& (2147483647 : Int32)) - ((j0 &&& (2147483647 : Int32)) / (4 : Int32)) * (4 : Int32))), .val (.int (j1 &&& (2147483647 : Int32))), .val (.int (j2 &&& (255 : Int32)).toUInt32.toUInt16.toUInt32.toInt32), .unset] [(.ref y323)]))
      refine W.g_astore (pc1 := 64) (ls2 := #[.val (.int j0), .val (.int j1), .val (.int j2), .val (.int j3), .val (.int j4), .val (.int j5), .val (.int ((j0 &&& (2147483647 : Int32)) - ((j0 &&& (2147483647 : Int32)) / (4 : Int32)) * (4 : Int32))), .val (.int (j1 &&& (2147483647 : Int32))), .val (.int (j2 &&& (255 : Int32)).toUInt32.toUInt16.toUInt32.toInt32), .val (.ref y323)]) P323.q at_62 rfl rfl rfl ?_
      refine W.g_goto (pc1 := 131) P323.q at_64 (by decide) rfl ?_
      exact J _ T323 _ _ y323 d323 (P323.mono (by decide) (by decide)) Y323
  · refine W.g_iload (pc1 := 29) P0.q at_27 rfl rfl ?_
    refine W.g_bipush (pc1 := 31) (v := (12 : Int32)) P0.q at_29 (by decide) rfl ?_
    refine W.g_irem (pc1 := 32) P0.q at_31 (by decide) rfl ?_
    refine W.g_iconst (pc1 := 33) (v := (1 : Int32)) P0.q at_32 (by decide) rfl ?_
    refine W.g_isub (pc1 := 34) P0.q at_33 rfl ?_
    refine W.g_iload (pc1 := 36) P0.q at_34 rfl rfl ?_
    refine P0.callSW (pc1 := 39) (wd hw (k := 1) rfl) (wd hw (k := 2) rfl) (wd hw (k := 3) rfl) (wd hw (k := 4) rfl) (by decide) (W.MetW.pay (W := 0) (c_prop l Z a0 hw wS hEL (((j1 &&& (2147483647 : Int32)) - ((j1 &&& (2147483647 : Int32)) / (12 : Int32)) * (12 : Int32)) - (1 : Int32)) (j2 &&& (255 : Int32)).toUInt32.toUInt16.toUInt32.toInt32 (own_i2c j2) h0 (P0.extZ EZ all0) zc fm US) P0 hEL all0 (wd hw (k := 4) rfl) (wd hw (k := 3) rfl) (by decide) (by decide)) (argsL := [(.int (((j1 &&& (2147483647 : Int32)) - ((j1 &&& (2147483647 : Int32)) / (12 : Int32)) * (12 : Int32)) - (1 : Int32))), (.int (j2 &&& (255 : Int32)).toUInt32.toUInt16.toUInt32.toInt32)]) (st0 := []) (lenOf pd_IC_R_Ljava_lang_String rfl) rfl rfl (Nat.le_of_eq rfl) (by rw [hml]; rfl) (by decide) (by decide) (fun _ _ _ q => by obtain ⟨_, _, _, q2, _⟩ := q; exact q2.up P0.sz all0) at_36 rfl ?_
    intro v322 T322 h322 L322 q322 P322 R322
    obtain ⟨y322, d322, rfl, f322, E322, Y322⟩ := q322
    show W.Go p.tables e below _ (T322.setTop (mkF m 39 #[.val (.int j0), .val (.int j1), .val (.int j2), .val (.int j3), .val (.int j4), .val (.int j5), .val (.int ((j0 &&& (2147483647 : Int32)) - ((j0 &&& (2147483647 : Int32)) / (4 : Int32)) * (4 : Int32))), .val (.int (j1 &&& (2147483647 : Int32))), .val (.int (j2 &&& (255 : Int32)).toUInt32.toUInt16.toUInt32.toInt32), .unset] [(.ref y322)]))
    refine W.g_astore (pc1 := 41) (ls2 := #[.val (.int j0), .val (.int j1), .val (.int j2), .val (.int j3), .val (.int j4), .val (.int j5), .val (.int ((j0 &&& (2147483647 : Int32)) - ((j0 &&& (2147483647 : Int32)) / (4 : Int32)) * (4 : Int32))), .val (.int (j1 &&& (2147483647 : Int32))), .val (.int (j2 &&& (255 : Int32)).toUInt32.toUInt16.toUInt32.toInt32), .val (.ref y322)]) P322.q at_39 rfl rfl rfl ?_
    refine W.g_goto (pc1 := 131) P322.q at_41 (by decide) rfl ?_
    exact J _ T322 _ _ y322 d322 (P322.mono (by decide) (by decide)) Y322
set_option maxRecDepth 65536 in
set_option maxHeartbeats 40000000 in
theorem comes_1 {Post : Tables → Env → Array Value → State → Outcome → State → Prop} (hpost : ∀ tb e args s v u, (limb_1_1.after args s (.returned v) u = true ∧ limb_1_2.after args s (.returned v) u = true ∧ True) → ReturnedEndW s (.returned v) u (Jvm.fieldLocs frame_1_writes args s ++ Jvm.arrayLocs frame_1_arrays args s ++ Jvm.staticLocs frame_1_statics s) 24 4288 → Post tb e args s (.returned v) u) :
    ArmFor flags0 classFile x code maxLocals ret World_1 tables_1 room_1 Calls_1 rest_1 Pre_1 Post := by
  intro l hfl _ _ p e ha hc hk s m args below hf hA hF happ hP
  obtain ⟨hcalls, hrest, hpre⟩ := hP
  obtain ⟨-, -, -, hnamed, -, -, -, hat⟩ := (Spec.applies_iff hf).mp happ
  obtain ⟨hg, hn⟩ := and_e (Cond.before_iff.mp (show (Jvm.Cond.and given_1 narrow_1).before args s = true from hpre))
  obtain ⟨hcnt, hg0⟩ := and_e hg
  obtain ⟨ga0, hg1⟩ := and_e hg0
  obtain ⟨ga1, hg2⟩ := and_e hg1
  obtain ⟨ga2, hg3⟩ := and_e hg2
  obtain ⟨ga3, hg4⟩ := and_e hg3
  obtain ⟨ga4, hg5⟩ := and_e hg4
  have ga5 := hg5
  obtain ⟨w0, w1, w2, w3, w4, w5, rfl⟩ : ∃ w0 w1 w2 w3 w4 w5 : Value, args = #[w0, w1, w2, w3, w4, w5] := by
    have hs : args.size = 6 := by simpa [Cond.value, given_1] using hcnt
    obtain ⟨L⟩ := args
    match L, hs with
    | [w0, w1, w2, w3, w4, w5], _ => exact ⟨w0, w1, w2, w3, w4, w5, rfl⟩
  have hw := fun d (hd : d ∈ tables_1) => atoms_spec (ws := Jvm.Cond.code x code maxLocals ret :: tables_1) hat d (List.mem_cons_of_mem _ hd)
  obtain ⟨hsets, hown0⟩ := atoms_of _ (rest_1_c_eq ▸ (show rest_1_c.before _ s = true from hrest))
  obtain ⟨i0, ei0⟩ := is_v ga0
  obtain rfl : w0 = (.int i0) := Option.some.inj ei0
  obtain ⟨i1, ei1⟩ := is_v ga1
  obtain rfl : w1 = (.int i1) := Option.some.inj ei1
  obtain ⟨i2, ei2⟩ := is_v ga2
  obtain rfl : w2 = (.int i2) := Option.some.inj ei2
  obtain ⟨i3, ei3⟩ := is_v ga3
  obtain rfl : w3 = (.int i3) := Option.some.inj ei3
  obtain ⟨i4, ei4⟩ := is_v ga4
  obtain rfl : w4 = (.int i4) := Option.some.inj ei4
  obtain ⟨i5, ei5⟩ := is_v ga5
  obtain rfl : w5 = (.int i5) := Option.some.inj ei5
  have n5 := not_v (Cond.before_iff.mp (hsets _ (List.mem_of_getElem? (i := 2) rfl)))
  obtain ⟨zc, ezc⟩ := is_v (Cond.before_iff.mp (hsets _ (List.mem_of_getElem? (i := 1) rfl)))
  have C0 : Sta s s.heap "java/lang/String" "COMPACT_STRINGS" "Z" (.int zc) := Sta.start ezc (Or.inl (hsets _ (List.mem_of_getElem? (i := 0) rfl)))
  have hzc : ¬ (zc = (0 : Int32)) := gotF (Cond.eq_ints ezc (Term.int_eval (0))) n5
  obtain ⟨fm, efm, hfm⟩ := isR_v (Cond.before_iff.mp (hsets _ (List.mem_of_getElem? (i := 8) rfl)))
  have FM := Sta.start efm (Or.inl (hsets _ (List.mem_of_getElem? (i := 7) rfl)))
  have US : UST s zc fm := ⟨hzc, C0, trivial, trivial, trivial, hfm, FM⟩
  have hfit : Fit s := fun {y c} hc i hi => by
    obtain ⟨ha, rfl⟩ := Array.getElem?_eq_some_iff.mp hc
    have q := List.all_eq_true.mp ((Array.all_eq_true_iff_forall_mem.mp hF) _ (Array.getElem_mem ha)) i (List.mem_range.mpr hi)
    simpa [Array.getElem?_eq_getElem hi] using q
  obtain ⟨c0, hn0⟩ := and_e hn
  obtain ⟨c1, hn1⟩ := and_e hn0
  obtain ⟨c2, hn2⟩ := and_e hn1
  obtain ⟨c3, hn3⟩ := and_e hn2
  obtain ⟨c4, hn4⟩ := and_e hn3
  obtain ⟨c5, hn5⟩ := and_e hn4
  obtain ⟨c6, hn6⟩ := and_e hn5
  obtain ⟨c7, hn7⟩ := and_e hn6
  obtain ⟨c8, hn8⟩ := and_e hn7
  obtain ⟨c9, hn9⟩ := and_e hn8
  obtain ⟨c10, hn10⟩ := and_e hn9
  obtain ⟨c11, hn11⟩ := and_e hn10
  obtain ⟨c12, hn12⟩ := and_e hn11
  obtain ⟨c13, hn13⟩ := and_e hn12
  obtain ⟨c14, hn14⟩ := and_e hn13
  obtain ⟨c15, hn15⟩ := and_e hn14
  obtain ⟨c16, hn16⟩ := and_e hn15
  obtain ⟨c17, hn17⟩ := and_e hn16
  obtain ⟨c18, hn18⟩ := and_e hn17
  obtain ⟨c19, hn19⟩ := and_e hn18
  obtain ⟨c20, hn20⟩ := and_e hn19
  obtain ⟨c21, hn21⟩ := and_e hn20
  obtain ⟨c22, hn22⟩ := and_e hn21
  obtain ⟨c23, hn23⟩ := and_e hn22
  obtain ⟨c24, hn24⟩ := and_e hn23
  obtain ⟨c25, hn25⟩ := and_e hn24
  obtain ⟨c26, hn26⟩ := and_e hn25
  obtain ⟨c27, hn27⟩ := and_e hn26
  obtain ⟨c28, hn28⟩ := and_e hn27
  obtain ⟨c29, hn29⟩ := and_e hn28
  obtain ⟨c30, hn30⟩ := and_e hn29
  obtain ⟨c31, hn31⟩ := and_e hn30
  obtain ⟨c32, hn32⟩ := and_e hn31
  obtain ⟨c33, hn33⟩ := and_e hn32
  obtain ⟨c34, hn34⟩ := and_e hn33
  obtain ⟨c35, hn35⟩ := and_e hn34
  obtain ⟨c36, hn36⟩ := and_e hn35
  obtain ⟨c37, hn37⟩ := and_e hn36
  obtain ⟨c38, hn38⟩ := and_e hn37
  obtain ⟨c39, hn39⟩ := and_e hn38
  obtain ⟨c40, hn40⟩ := and_e hn39
  obtain ⟨c41, hn41⟩ := and_e hn40
  obtain ⟨c42, hn42⟩ := and_e hn41
  obtain ⟨c43, hn43⟩ := and_e hn42
  obtain ⟨c44, hn44⟩ := and_e hn43
  obtain ⟨c45, hn45⟩ := and_e hn44
  obtain ⟨c46, hn46⟩ := and_e hn45
  obtain ⟨c47, hn47⟩ := and_e hn46
  obtain ⟨c48, hn48⟩ := and_e hn47
  obtain ⟨c49, hn49⟩ := and_e hn48
  obtain ⟨c50, hn50⟩ := and_e hn49
  obtain ⟨c51, hn51⟩ := and_e hn50
  obtain ⟨c52, hn52⟩ := and_e hn51
  obtain ⟨c53, hn53⟩ := and_e hn52
  obtain ⟨c54, hn54⟩ := and_e hn53
  obtain ⟨c55, hn55⟩ := and_e hn54
  obtain ⟨c56, hn56⟩ := and_e hn55
  have c57 := hn56
  obtain ⟨va, ea⟩ := arr_v c0
  obtain ⟨p0, e0⟩ := exa_v c3
  obtain ⟨p1, e1⟩ := exa_v c5
  obtain ⟨p2, e2⟩ := exa_v c7
  obtain ⟨p3, e3⟩ := exa_v c9
  obtain ⟨kv, Va⟩ := W.arvStart (vs := [.ref p0, .ref p1, .ref p2, .ref p3]) (dv := .null) 4 hfit ea c0 (own_eqI c2) (by decide) rfl (fun i hi => match i, hi with | 0, _ => W.eqRef c4 e0 | 1, _ => W.eqRef c6 e1 | 2, _ => W.eqRef c8 e2 | 3, _ => W.eqRef c10 e3 | k + 4, hk => absurd hk (Nat.not_lt.mpr (Nat.le_add_left _ _)))
  obtain ⟨q0, f0⟩ := exa_v c11
  have Y0 : W.Str s s.heap q0 own_L0 := W.strStart 10 hfit f0 c11 (own_eqI c12) c13 (own_eqI c14) (by decide) rfl own_p0 (fun i hi => match i, hi with | 0, _ => own_eqI c24 | 1, _ => own_eqI c25 | 2, _ => own_eqI c26 | 3, _ => own_eqI c27 | 4, _ => own_eqI c28 | 5, _ => own_eqI c29 | 6, _ => own_eqI c30 | 7, _ => own_eqI c31 | 8, _ => own_eqI c32 | 9, _ => own_eqI c33 | k + 10, hk => absurd hk (Nat.not_lt.mpr (Nat.le_add_left _ _)))
  obtain ⟨q1, f1⟩ := exa_v c15
  have Y1 : W.Str s s.heap q1 own_L1 := W.strStart 5 hfit f1 c15 (own_eqI c16) c17 (own_eqI c18) (by decide) rfl own_p1 (fun i hi => match i, hi with | 0, _ => own_eqI c34 | 1, _ => own_eqI c35 | 2, _ => own_eqI c36 | 3, _ => own_eqI c37 | 4, _ => own_eqI c38 | k + 5, hk => absurd hk (Nat.not_lt.mpr (Nat.le_add_left _ _)))
  obtain ⟨q2, f2⟩ := exa_v c19
  have Y2 : W.Str s s.heap q2 own_L2 := W.strStart 19 hfit f2 c19 (own_eqI c20) c21 (own_eqI c22) (by decide) rfl own_p2 (fun i hi => match i, hi with | 0, _ => own_eqI c39 | 1, _ => own_eqI c40 | 2, _ => own_eqI c41 | 3, _ => own_eqI c42 | 4, _ => own_eqI c43 | 5, _ => own_eqI c44 | 6, _ => own_eqI c45 | 7, _ => own_eqI c46 | 8, _ => own_eqI c47 | 9, _ => own_eqI c48 | 10, _ => own_eqI c49 | 11, _ => own_eqI c50 | 12, _ => own_eqI c51 | 13, _ => own_eqI c52 | 14, _ => own_eqI c53 | 15, _ => own_eqI c54 | 16, _ => own_eqI c55 | 17, _ => own_eqI c56 | 18, _ => own_eqI c57 | k + 19, hk => absurd hk (Nat.not_lt.mpr (Nat.le_add_left _ _)))
  have EN : En s s.heap va p0 p1 p2 p3 q0 q1 q2 kv := ⟨Sta.start ea (Or.inr ⟨(wd hw (k := 65) rfl), (wd hw (k := 71) rfl)⟩), Exa.start ea c1, Va, Sta.start e0 (Or.inr ⟨(wd hw (k := 65) rfl), (wd hw (k := 79) rfl)⟩), Sta.start e1 (Or.inr ⟨(wd hw (k := 65) rfl), (wd hw (k := 80) rfl)⟩), Sta.start e2 (Or.inr ⟨(wd hw (k := 65) rfl), (wd hw (k := 81) rfl)⟩), Sta.start e3 (Or.inr ⟨(wd hw (k := 65) rfl), (wd hw (k := 82) rfl)⟩), Fld.start ((fld_at e0).symm.trans f0), Fld.start ((fld_at e1).symm.trans f1), Fld.start ((fld_at e2).symm.trans f2), Fld.start ((fld_at e3).symm.trans (null_v c23)), Y0, Y1, Y2⟩
  have wS : ∀ a ∈ Bundle.stringAtoms, a.before _ s = true := fun d hd => hw d (own_atoms d hd)
  have hEL : EW s _ ownEL := (EW.cons (own := "com/example/numerary/numerary/ScoringOfCodePinLaw") (index := 13) (text := "proportion") (wd hw (k := 5) rfl) (by decide) (EW.cons (own := "com/example/numerary/numerary/ScoringOfCodePinLaw") (index := 24) (text := "ratio") (wd hw (k := 102) rfl) (by decide) (EW.cons (own := "com/example/numerary/numerary/ScoringOfCodePinLaw") (index := 26) (text := "continuous-variable") (wd hw (k := 103) rfl) (by decide) (EW.cons (own := "java/lang/String") (index := 7) (text := "") (wd hw (k := 115) rfl) (by decide) EW.nil))))
  have hCH : CHv s ownEL s.vm s.heap := CHv.start hEL (fun p hp => hcalls.1 p (own_consts p hp)) (hsets _ (List.mem_of_getElem? (i := 2) rfl)) (wd hw (k := 8) rfl) (wd hw (k := 7) rfl)
  obtain ⟨n, o, h1, h2, h3, _, L, rfl, ⟨rfl, N⟩, -, hq⟩ := rm1 l s _ hw wS hEL i0 i1 i2 i3 i4 i5 va p0 p1 p2 p3 q0 q1 q2 kv s.heap EN (W.Ext.refl _) zc fm US p e ha hc hk s m _ below hf ((Spec.applies_iff_loose hf).mp happ).1 ⟨rfl, State.Warmed39.refl s, rfl, hCH, all0⟩ trivial
  refine ⟨n, _, h1, h2, h3, hpost _ _ _ _ _ _ ⟨Cond.after_iff.mpr rfl, Cond.after_iff.mpr (eq_i res_at (Term.int_eval (1)) rfl), trivial⟩ ⟨hq.1, hq.2.1, hq.2.2.1, (hq.2.2.2.sift fun y hy => Or.inr ((N y hy).elim (fun q => nomatch q) id)).mono (by decide) (by decide)⟩⟩
theorem main_1_1 : Claimed_1_1 := comes_1 fun _ _ _ _ _ _ h hF => ⟨h.1, hF⟩
theorem main_1_2 : Claimed_1_2 := comes_1 fun _ _ _ _ _ _ h hF => ⟨h.2.1, hF⟩
end Jvm.Pilot.@@N@@
namespace Jvm.Pilot.@@N@@
open Jvm Jvm.ClassFile Sem Op Lib Jvm.Free Jvm.Stand Jvm.Pilot.@@N@@.Jvm.D
/-! MADE BY PROGRAM (witnessworld.py) out of the Statement's table words and the real class files: 22 classes; the members and pool entries that the words name. The judged class is class 1, her method 7. -/
namespace start1
open Jvm.ClassFile
def u (s : String) : CpInfo := .utf8 (stringToUtf16 s)
/-- a pool by its gaps: so many unusable entries, then the entry; so many at the end -/
def gap : Nat → List CpInfo → List CpInfo
  | 0, r => r
  | n + 1, r => .unusable :: gap n r
def poolList (es : List (Nat × CpInfo)) (last : Nat) : List CpInfo := es.foldr (fun e r => gap e.1 (e.2 :: r)) (gap last [])
def pool (es : List (Nat × CpInfo)) (last : Nat) : Array CpInfo := ⟨poolList es last⟩
def fileOf (pool : Array CpInfo) (this : Nat) (attrs : Array Attribute := #[]) (ms : Array MethodInfo := #[]) (fl : Nat := 33) (sup : Nat := 0) (ifs : Array Nat := #[]) (fds : Array FieldInfo := #[]) : ClassFile where
  minorVersion := 0
  majorVersion := 65
  constantPool := pool
  accessFlags := fl
  thisClass := this
  superClass := sup
  interfaces := ifs
  fields := fds
  methods := ms
  attributes := attrs
def plain (name : String) (sup : Option ClassId) : Class where
  name := name
  kind := .ordinary
  loader := none
  accessFlags := 33
  super := sup
  interfaces := #[]
  cf := none
  fields := #[]
  methods := #[]
  instanceTypes := #[]
  staticTypes := #[]
  resolved := #[]
  callSites := []
  init := .initialized
  statics := none
  mirror := none

def pool0 : Array CpInfo := pool [(5, u "<init>"), (0, u "()V"), (1, .class_ 10), (1, u "java/lang/Object"), (85, u "clone"), (0, u "()Ljava/lang/Object;")] 26

def k0c0 : Code := { maxStack := 0, maxLocals := 1, code := object_method_1_code, exceptionTable := #[], attributes := #[] }
def k0m0 : Method := { name := "<init>", desc := "()V", sig := { parameters := [], returnType := none }, accessFlags := 1, code := some k0c0 }
def k0m1 : Method := { name := "clone", desc := "()Ljava/lang/Object;", sig := { parameters := [], returnType := some (.object "java/lang/Object") }, accessFlags := 260, code := none }
/-- java/lang/Object -/
def k0 : Class := { plain "java/lang/Object" none with
  accessFlags := 33
  interfaces := #[]
  cf := some (fileOf pool0 8 #[] #[{ accessFlags := 1, nameIndex := 5, descriptorIndex := 6, attributes := #[] }, { accessFlags := 260, nameIndex := 96, descriptorIndex := 97, attributes := #[] }] 33 0 #[] #[])
  fields := #[]
  methods := #[k0m0, k0m1]
  instanceTypes := #[]
  staticTypes := #[]
  resolved := Array.replicate 124 none
  statics := none }

def pool1 : Array CpInfo := pool [(2, .class_ 4), (1, u "java/lang/Object"), (0, u "<init>"), (0, u "()V"), (0, .methodref 8 9), (0, .class_ 10), (0, .nameAndType 11 12), (0, u "java/lang/String"), (0, u "charAt"), (0, u "(I)C"), (0, .string 14), (0, u "proportion"), (0, .methodref 8 16), (0, .nameAndType 5 17), (0, u "([C)V"), (0, .methodref 19 20), (0, .class_ 21), (0, .nameAndType 22 23), (0, u "com/example/numerary/numerary/ScoringOfCodePinLaw"), (0, u "ch"), (0, u "(Ljava/lang/String;IIC)C"), (0, .string 25), (0, u "ratio"), (0, .string 27), (0, u "continuous-variable"), (0, .methodref 8 29), (0, .nameAndType 30 31), (0, u "equals"), (0, u "(Ljava/lang/Object;)Z"), (0, .fieldref 33 34), (0, .class_ 35), (0, .nameAndType 36 37), (0, u "com/example/numerary/numerary/Scoring"), (0, u "PROPORTION"), (0, u "Lcom/example/numerary/numerary/Scoring;"), (0, .fieldref 33 39), (0, .nameAndType 40 37), (0, u "RATIO"), (0, .fieldref 33 42), (0, .nameAndType 43 37), (0, u "CONTINUOUS_VARIABLE"), (0, .fieldref 33 45), (0, .nameAndType 46 37), (0, u "OTHER"), (0, .integer 2147483647), (0, .methodref 19 49), (0, .nameAndType 50 51), (0, u "prop"), (0, u "(IC)Ljava/lang/String;"), (0, .methodref 19 53), (0, .nameAndType 25 51), (0, .methodref 19 55), (0, .nameAndType 56 51), (0, u "cv"), (0, .methodref 19 58), (0, .nameAndType 59 60), (0, u "mk"), (0, u "(ICCCCC)Ljava/lang/String;"), (0, .methodref 33 62), (0, .nameAndType 63 64), (0, u "ofCode"), (0, u "(Ljava/lang/String;)Lcom/example/numerary/numerary/Scoring;"), (0, .methodref 19 66), (0, .nameAndType 67 64), (0, u "expected"), (3, u "law"), (0, u "(IIIIII)Z")] 2

def k1m0 : Method := { name := "<init>", desc := "()V", sig := { parameters := [], returnType := none }, accessFlags := 1, code := none }
def k1c1 : Code := { maxStack := 2, maxLocals := 4, code := method_2_code, exceptionTable := #[], attributes := #[] }
def k1m1 : Method := { name := "ch", desc := "(Ljava/lang/String;IIC)C", sig := { parameters := [(.object "java/lang/String"), .int, .int, .char], returnType := some .char }, accessFlags := 10, code := some k1c1 }
def k1c2 : Code := { maxStack := 9, maxLocals := 3, code := method_3_code, exceptionTable := #[], attributes := #[] }
def k1m2 : Method := { name := "prop", desc := "(IC)Ljava/lang/String;", sig := { parameters := [.int, .char], returnType := some (.object "java/lang/String") }, accessFlags := 10, code := some k1c2 }
def k1c3 : Code := { maxStack := 9, maxLocals := 3, code := method_4_code, exceptionTable := #[], attributes := #[] }
def k1m3 : Method := { name := "ratio", desc := "(IC)Ljava/lang/String;", sig := { parameters := [.int, .char], returnType := some (.object "java/lang/String") }, accessFlags := 10, code := some k1c3 }
def k1c4 : Code := { maxStack := 9, maxLocals := 3, code := method_5_code, exceptionTable := #[], attributes := #[] }
def k1m4 : Method := { name := "cv", desc := "(IC)Ljava/lang/String;", sig := { parameters := [.int, .char], returnType := some (.object "java/lang/String") }, accessFlags := 10, code := some k1c4 }
def k1c5 : Code := { maxStack := 6, maxLocals := 6, code := method_6_code, exceptionTable := #[], attributes := #[] }
def k1m5 : Method := { name := "mk", desc := "(ICCCCC)Ljava/lang/String;", sig := { parameters := [.int, .char, .char, .char, .char, .char], returnType := some (.object "java/lang/String") }, accessFlags := 10, code := some k1c5 }
def k1c6 : Code := { maxStack := 2, maxLocals := 1, code := method_7_code, exceptionTable := #[], attributes := #[] }
def k1m6 : Method := { name := "expected", desc := "(Ljava/lang/String;)Lcom/example/numerary/numerary/Scoring;", sig := { parameters := [(.object "java/lang/String")], returnType := some (.object "com/example/numerary/numerary/Scoring") }, accessFlags := 10, code := some k1c6 }
def k1c7 : Code := { maxStack := 7, maxLocals := 10, code := code, exceptionTable := #[], attributes := #[] }
def k1m7 : Method := { name := "law", desc := "(IIIIII)Z", sig := { parameters := [.int, .int, .int, .int, .int, .int], returnType := some .boolean }, accessFlags := 9, code := some k1c7 }
/-- com/example/numerary/numerary/ScoringOfCodePinLaw -/
def k1 : Class := { plain "com/example/numerary/numerary/ScoringOfCodePinLaw" (some 0) with
  accessFlags := 49
  interfaces := #[]
  cf := some (fileOf pool1 19 #[] #[{ accessFlags := 1, nameIndex := 5, descriptorIndex := 6, attributes := #[] }, { accessFlags := 10, nameIndex := 22, descriptorIndex := 23, attributes := #[] }, { accessFlags := 10, nameIndex := 50, descriptorIndex := 51, attributes := #[] }, { accessFlags := 10, nameIndex := 25, descriptorIndex := 51, attributes := #[] }, { accessFlags := 10, nameIndex := 56, descriptorIndex := 51, attributes := #[] }, { accessFlags := 10, nameIndex := 59, descriptorIndex := 60, attributes := #[] }, { accessFlags := 10, nameIndex := 67, descriptorIndex := 64, attributes := #[] }, { accessFlags := 9, nameIndex := 71, descriptorIndex := 72, attributes := #[] }] 49 2 #[] #[])
  fields := #[]
  methods := #[k1m0, k1m1, k1m2, k1m3, k1m4, k1m5, k1m6, k1m7]
  instanceTypes := #[]
  staticTypes := #[]
  resolved := Array.replicate 75 none
  statics := none }

def pool2 : Array CpInfo := pool [(1, .class_ 2), (0, u "java/io/Serializable"), (0, .class_ 4), (0, u "java/lang/Object")] 2

/-- java/io/Serializable -/
def k2 : Class := { plain "java/io/Serializable" (some 0) with
  accessFlags := 1537
  interfaces := #[]
  cf := some (fileOf pool2 1 #[] #[] 1537 3 #[] #[])
  fields := #[]
  methods := #[]
  instanceTypes := #[]
  staticTypes := #[]
  resolved := Array.replicate 7 none
  statics := none }

def pool3 : Array CpInfo := pool [(1, .class_ 2), (0, u "java/lang/Comparable"), (0, .class_ 4), (0, u "java/lang/Object")] 7

/-- java/lang/Comparable -/
def k3 : Class := { plain "java/lang/Comparable" (some 0) with
  accessFlags := 1537
  interfaces := #[]
  cf := some (fileOf pool3 1 #[] #[] 1537 3 #[] #[])
  fields := #[]
  methods := #[]
  instanceTypes := #[]
  staticTypes := #[]
  resolved := Array.replicate 12 none
  statics := none }

def pool4 : Array CpInfo := pool [(2, .class_ 4), (1, u "java/lang/CharSequence"), (42, .class_ 48), (0, u "java/lang/CharSequence$1CodePointIterator"), (10, .class_ 60), (0, u "java/lang/CharSequence$1CharIterator"), (5, .class_ 67), (0, u "java/lang/Object")] 63

/-- java/lang/CharSequence -/
def k4 : Class := { plain "java/lang/CharSequence" (some 0) with
  accessFlags := 1537
  interfaces := #[]
  cf := some (fileOf pool4 2 #[.nestMembers #[47, 59]] #[] 1537 66 #[] #[])
  fields := #[]
  methods := #[]
  instanceTypes := #[]
  staticTypes := #[]
  resolved := Array.replicate 131 none
  statics := none }

def pool5 : Array CpInfo := pool [(1, .class_ 2), (0, u "java/lang/constant/Constable"), (0, .class_ 4), (0, u "java/lang/Object")] 6

/-- java/lang/constant/Constable -/
def k5 : Class := { plain "java/lang/constant/Constable" (some 0) with
  accessFlags := 1537
  interfaces := #[]
  cf := some (fileOf pool5 1 #[] #[] 1537 3 #[] #[])
  fields := #[]
  methods := #[]
  instanceTypes := #[]
  staticTypes := #[]
  resolved := Array.replicate 11 none
  statics := none }

def pool6 : Array CpInfo := pool [(1, .class_ 2), (0, u "java/lang/constant/ConstantDesc"), (0, .class_ 4), (0, u "java/lang/Object")] 32

/-- java/lang/constant/ConstantDesc -/
def k6 : Class := { plain "java/lang/constant/ConstantDesc" (some 0) with
  accessFlags := 1537
  interfaces := #[]
  cf := some (fileOf pool6 1 #[] #[] 1537 3 #[] #[])
  fields := #[]
  methods := #[]
  instanceTypes := #[]
  staticTypes := #[]
  resolved := Array.replicate 37 none
  statics := none }

def pool7 : Array CpInfo := pool [(1, .methodref 2 3), (0, .class_ 4), (0, .nameAndType 5 6), (0, u "java/lang/Object"), (0, u "<init>"), (0, u "()V"), (0, .string 8), (0, u ""), (0, .fieldref 10 11), (0, .class_ 12), (0, .nameAndType 13 14), (0, u "java/lang/String"), (0, u "value"), (0, u "[B"), (0, .fieldref 10 16), (0, .nameAndType 17 18), (0, u "coder"), (0, u "B"), (2, u "hash"), (0, u "I"), (2, u "hashIsZero"), (0, u "Z"), (0, .methodref 10 28), (0, .nameAndType 5 29), (0, u "([CIILjava/lang/Void;)V"), (8, .fieldref 10 39), (0, .nameAndType 40 26), (0, u "COMPACT_STRINGS"), (1, .class_ 44), (1, u "java/lang/StringUTF16"), (0, u "compress"), (1, .methodref 42 48), (0, .nameAndType 49 50), (0, u "coderFromArrayLen"), (0, u "([BI)B"), (56, .class_ 109), (1, u "java/lang/StringLatin1"), (32, u "()Z"), (34, .methodref 42 178), (0, .nameAndType 45 179), (0, u "([CII)[B"), (183, u "([BI)C"), (27, u "(II)V"), (35, u "(I)C"), (64, .methodref 10 493), (0, .nameAndType 494 142), (0, u "isLatin1"), (0, .methodref 107 496), (0, .nameAndType 497 363), (0, u "charAt"), (3, u "checkIndex"), (39, .methodref 107 542), (0, .nameAndType 543 544), (0, u "equals"), (0, u "([B[B)Z"), (28, u "(Ljava/lang/Object;)Z"), (1, .class_ 576), (0, u "java/lang/CharSequence"), (22, u "CASE_INSENSITIVE_ORDER"), (0, u "Ljava/util/Comparator;"), (409, u "([C)V"), (42, .fieldref 1054 1055), (0, .class_ 1056), (0, .nameAndType 1057 1058), (0, u "jdk/internal/util/Preconditions"), (0, u "SIOOBE_FORMATTER"), (0, u "Ljava/util/function/BiFunction;"), (0, .methodref 1054 1060), (0, .nameAndType 501 1061), (0, u "(IILjava/util/function/BiFunction;)I"), (39, u "serialPersistentFields"), (0, u "[Ljava/io/ObjectStreamField;"), (0, .class_ 1104), (0, u "java/lang/String$CaseInsensitiveComparator"), (1, .class_ 1107), (0, u "java/io/Serializable"), (0, .class_ 1109), (0, u "java/lang/Comparable"), (0, .class_ 1111), (0, u "java/lang/constant/Constable"), (0, .class_ 1113), (0, u "java/lang/constant/ConstantDesc"), (2, u "serialVersionUID"), (0, u "J"), (3, u "REPL"), (0, u "C"), (2, u "LATIN1"), (1, u "UTF16")] 323

def k7m0 : Method := { name := "<init>", desc := "()V", sig := { parameters := [], returnType := none }, accessFlags := 1, code := none }
def k7c1 : Code := { maxStack := 5, maxLocals := 2, code := jdk_42_method_3_code, exceptionTable := #[], attributes := #[] }
def k7m1 : Method := { name := "<init>", desc := "([C)V", sig := { parameters := [(.array .char)], returnType := none }, accessFlags := 1, code := some k7c1 }
def k7c2 : Code := { maxStack := 2, maxLocals := 2, code := jdk_42_method_56_code, exceptionTable := #[], attributes := #[] }
def k7m2 : Method := { name := "charAt", desc := "(I)C", sig := { parameters := [.int], returnType := some .char }, accessFlags := 1, code := some k7c2 }
def k7c3 : Code := { maxStack := 2, maxLocals := 3, code := jdk_42_method_66_code, exceptionTable := #[], attributes := #[] }
def k7m3 : Method := { name := "equals", desc := "(Ljava/lang/Object;)Z", sig := { parameters := [(.object "java/lang/Object")], returnType := some .boolean }, accessFlags := 1, code := some k7c3 }
def k7c4 : Code := { maxStack := 4, maxLocals := 6, code := jdk_42_method_149_code, exceptionTable := #[], attributes := #[] }
def k7m4 : Method := { name := "<init>", desc := "([CIILjava/lang/Void;)V", sig := { parameters := [(.array .char), .int, .int, (.object "java/lang/Void")], returnType := none }, accessFlags := 2, code := some k7c4 }
def k7c5 : Code := { maxStack := 1, maxLocals := 1, code := jdk_42_method_154_code, exceptionTable := #[], attributes := #[] }
def k7m5 : Method := { name := "isLatin1", desc := "()Z", sig := { parameters := [], returnType := some .boolean }, accessFlags := 0, code := some k7c5 }
def k7c6 : Code := { maxStack := 3, maxLocals := 2, code := jdk_42_method_155_code, exceptionTable := #[], attributes := #[] }
def k7m6 : Method := { name := "checkIndex", desc := "(II)V", sig := { parameters := [.int, .int], returnType := none }, accessFlags := 8, code := some k7c6 }
/-- java/lang/String -/
def k7 : Class := { plain "java/lang/String" (some 0) with
  accessFlags := 49
  interfaces := #[2, 3, 4, 5, 6]
  cf := some (fileOf pool7 10 #[.nestMembers #[1103]] #[{ accessFlags := 1, nameIndex := 5, descriptorIndex := 6, attributes := #[] }, { accessFlags := 1, nameIndex := 5, descriptorIndex := 1010, attributes := #[] }, { accessFlags := 1, nameIndex := 497, descriptorIndex := 427, attributes := #[] }, { accessFlags := 1, nameIndex := 543, descriptorIndex := 573, attributes := #[] }, { accessFlags := 2, nameIndex := 5, descriptorIndex := 29, attributes := #[] }, { accessFlags := 0, nameIndex := 494, descriptorIndex := 142, attributes := #[] }, { accessFlags := 8, nameIndex := 501, descriptorIndex := 391, attributes := #[] }] 49 2 #[1106, 1108, 575, 1110, 1112] #[{ accessFlags := 18, nameIndex := 13, descriptorIndex := 14, attributes := #[] }, { accessFlags := 18, nameIndex := 17, descriptorIndex := 18, attributes := #[] }, { accessFlags := 2, nameIndex := 21, descriptorIndex := 22, attributes := #[] }, { accessFlags := 2, nameIndex := 25, descriptorIndex := 26, attributes := #[] }, { accessFlags := 26, nameIndex := 1116, descriptorIndex := 1117, attributes := #[] }, { accessFlags := 24, nameIndex := 40, descriptorIndex := 26, attributes := #[] }, { accessFlags := 26, nameIndex := 1101, descriptorIndex := 1102, attributes := #[] }, { accessFlags := 26, nameIndex := 1121, descriptorIndex := 1122, attributes := #[] }, { accessFlags := 25, nameIndex := 599, descriptorIndex := 600, attributes := #[] }, { accessFlags := 24, nameIndex := 1125, descriptorIndex := 18, attributes := #[] }, { accessFlags := 24, nameIndex := 1127, descriptorIndex := 18, attributes := #[] }])
  fields := #[{ name := "value", type := (.array .byte), accessFlags := 18, slot := 0, constantValue := 0 }, { name := "coder", type := .byte, accessFlags := 18, slot := 1, constantValue := 0 }, { name := "hash", type := .int, accessFlags := 2, slot := 2, constantValue := 0 }, { name := "hashIsZero", type := .boolean, accessFlags := 2, slot := 3, constantValue := 0 }, { name := "serialVersionUID", type := .long, accessFlags := 26, slot := 0, constantValue := 0 }, { name := "COMPACT_STRINGS", type := .boolean, accessFlags := 24, slot := 1, constantValue := 0 }, { name := "serialPersistentFields", type := (.array (.object "java/io/ObjectStreamField")), accessFlags := 26, slot := 2, constantValue := 0 }, { name := "REPL", type := .char, accessFlags := 26, slot := 3, constantValue := 0 }, { name := "CASE_INSENSITIVE_ORDER", type := (.object "java/util/Comparator"), accessFlags := 25, slot := 4, constantValue := 0 }, { name := "LATIN1", type := .byte, accessFlags := 24, slot := 5, constantValue := 0 }, { name := "UTF16", type := .byte, accessFlags := 24, slot := 6, constantValue := 0 }]
  methods := #[k7m0, k7m1, k7m2, k7m3, k7m4, k7m5, k7m6]
  instanceTypes := #[(.array .byte), .byte, .int, .boolean]
  staticTypes := #[.long, .boolean, (.array (.object "java/io/ObjectStreamField")), .char, (.object "java/util/Comparator"), .byte, .byte]
  resolved := Array.replicate 1451 none
  statics := some 0 }

def pool8 : Array CpInfo := pool [(1, .class_ 2), (0, u "java/lang/String"), (1, .class_ 6), (1, u "java/lang/Object"), (0, u "<init>"), (0, u "()V"), (0, .methodref 1 10), (0, .nameAndType 11 12), (0, u "checkIndex"), (0, u "(II)V"), (1, .class_ 16), (1, u "java/lang/StringLatin1"), (36, u "([BI)C"), (67, u "$assertionsDisabled"), (0, u "Z"), (98, .class_ 223), (1, u "java/lang/StringLatin1$LinesSpliterator"), (28, u "charAt"), (28, u "equals"), (0, u "([B[B)Z"), (107, .class_ 391), (0, u "java/lang/StringLatin1$CharsSpliterator")] 3

def k8m0 : Method := { name := "<init>", desc := "()V", sig := { parameters := [], returnType := none }, accessFlags := 0, code := none }
def k8c1 : Code := { maxStack := 2, maxLocals := 2, code := jdk_43_method_2_code, exceptionTable := #[], attributes := #[] }
def k8m1 : Method := { name := "charAt", desc := "([BI)C", sig := { parameters := [(.array .byte), .int], returnType := some .char }, accessFlags := 9, code := some k8c1 }
def k8c2 : Code := { maxStack := 3, maxLocals := 3, code := jdk_43_method_13_code, exceptionTable := #[], attributes := #[] }
def k8m2 : Method := { name := "equals", desc := "([B[B)Z", sig := { parameters := [(.array .byte), (.array .byte)], returnType := some .boolean }, accessFlags := 9, code := some k8c2 }
/-- java/lang/StringLatin1 -/
def k8 : Class := { plain "java/lang/StringLatin1" (some 0) with
  accessFlags := 48
  interfaces := #[]
  cf := some (fileOf pool8 14 #[.nestMembers #[390, 221]] #[{ accessFlags := 0, nameIndex := 7, descriptorIndex := 8, attributes := #[] }, { accessFlags := 9, nameIndex := 252, descriptorIndex := 53, attributes := #[] }, { accessFlags := 9, nameIndex := 281, descriptorIndex := 282, attributes := #[] }] 48 4 #[] #[{ accessFlags := 4120, nameIndex := 121, descriptorIndex := 122, attributes := #[] }])
  fields := #[{ name := "$assertionsDisabled", type := .boolean, accessFlags := 4120, slot := 0, constantValue := 0 }]
  methods := #[k8m0, k8m1, k8m2]
  instanceTypes := #[]
  staticTypes := #[.boolean]
  resolved := Array.replicate 395 none
  statics := none }

def pool9 : Array CpInfo := pool [(2, .class_ 4), (1, u "java/lang/Object"), (0, u "<init>"), (0, u "()V"), (17, .class_ 26), (1, u "jdk/internal/util/Preconditions"), (6, u "checkIndex"), (21, .class_ 56), (0, u "jdk/internal/util/Preconditions$4"), (57, .class_ 115), (0, u "jdk/internal/util/Preconditions$1"), (7, u "SIOOBE_FORMATTER"), (0, u "Ljava/util/function/BiFunction;"), (0, .class_ 126), (0, u "jdk/internal/util/Preconditions$2"), (3, u "AIOOBE_FORMATTER"), (0, .class_ 132), (0, u "jdk/internal/util/Preconditions$3"), (3, u "IOOBE_FORMATTER"), (41, u "(IILjava/util/function/BiFunction;)I")] 15

def k9m0 : Method := { name := "<init>", desc := "()V", sig := { parameters := [], returnType := none }, accessFlags := 1, code := none }
def k9c1 : Code := { maxStack := 3, maxLocals := 3, code := jdk_41_method_11_code, exceptionTable := #[], attributes := #[] }
def k9m1 : Method := { name := "checkIndex", desc := "(IILjava/util/function/BiFunction;)I", sig := { parameters := [.int, .int, (.object "java/util/function/BiFunction")], returnType := some .int }, accessFlags := 9, code := some k9c1 }
/-- jdk/internal/util/Preconditions -/
def k9 : Class := { plain "jdk/internal/util/Preconditions" (some 0) with
  accessFlags := 33
  interfaces := #[]
  cf := some (fileOf pool9 24 #[.nestMembers #[55, 131, 125, 114]] #[{ accessFlags := 1, nameIndex := 5, descriptorIndex := 6, attributes := #[] }, { accessFlags := 9, nameIndex := 33, descriptorIndex := 178, attributes := #[] }] 33 2 #[] #[{ accessFlags := 25, nameIndex := 123, descriptorIndex := 124, attributes := #[] }, { accessFlags := 25, nameIndex := 130, descriptorIndex := 124, attributes := #[] }, { accessFlags := 25, nameIndex := 136, descriptorIndex := 124, attributes := #[] }])
  fields := #[{ name := "SIOOBE_FORMATTER", type := (.object "java/util/function/BiFunction"), accessFlags := 25, slot := 0, constantValue := 0 }, { name := "AIOOBE_FORMATTER", type := (.object "java/util/function/BiFunction"), accessFlags := 25, slot := 1, constantValue := 0 }, { name := "IOOBE_FORMATTER", type := (.object "java/util/function/BiFunction"), accessFlags := 25, slot := 2, constantValue := 0 }]
  methods := #[k9m0, k9m1]
  instanceTypes := #[]
  staticTypes := #[(.object "java/util/function/BiFunction"), (.object "java/util/function/BiFunction"), (.object "java/util/function/BiFunction")]
  resolved := Array.replicate 194 none
  statics := some 1 }

def pool10 : Array CpInfo := pool [(6, .class_ 8), (1, u "java/lang/Object"), (0, u "<init>"), (0, u "()V"), (1, .class_ 14), (1, u "java/lang/StringUTF16"), (31, u "$assertionsDisabled"), (0, u "Z"), (13, u "HI_BYTE_SHIFT"), (0, u "I"), (2, u "LO_BYTE_SHIFT"), (49, .methodref 12 116), (0, .nameAndType 117 118), (0, u "compress"), (0, u "([CI[BII)I"), (3, u "([CII)[B"), (138, u "coderFromArrayLen"), (0, u "([BI)B"), (106, .class_ 371), (1, u "java/lang/StringUTF16$LinesSpliterator"), (58, u "MAX_LENGTH"), (196, .class_ 628), (0, u "java/lang/StringUTF16$CodePointsSpliterator"), (0, .class_ 630), (0, u "java/lang/StringUTF16$CharsSpliterator")] 4

def k10m0 : Method := { name := "<init>", desc := "()V", sig := { parameters := [], returnType := none }, accessFlags := 0, code := none }
def k10c1 : Code := { maxStack := 2, maxLocals := 2, code := jdk_52_method_15_code, exceptionTable := #[], attributes := #[] }
def k10m1 : Method := { name := "coderFromArrayLen", desc := "([BI)B", sig := { parameters := [(.array .byte), .int], returnType := some .byte }, accessFlags := 8, code := some k10c1 }
def k10c2 : Code := { maxStack := 5, maxLocals := 6, code := jdk_52_method_16_code, exceptionTable := #[], attributes := #[] }
def k10m2 : Method := { name := "compress", desc := "([CII)[B", sig := { parameters := [(.array .char), .int, .int], returnType := some (.array .byte) }, accessFlags := 9, code := some k10c2 }
def k10c3 : Code := { maxStack := 3, maxLocals := 7, code := jdk_52_method_21_code, exceptionTable := #[], attributes := #[] }
def k10m3 : Method := { name := "compress", desc := "([CI[BII)I", sig := { parameters := [(.array .char), .int, (.array .byte), .int, .int], returnType := some .int }, accessFlags := 9, code := some k10c3 }
/-- java/lang/StringUTF16 -/
def k10 : Class := { plain "java/lang/StringUTF16" (some 0) with
  accessFlags := 48
  interfaces := #[]
  cf := some (fileOf pool10 12 #[.nestMembers #[627, 629, 369]] #[{ accessFlags := 0, nameIndex := 9, descriptorIndex := 10, attributes := #[] }, { accessFlags := 8, nameIndex := 261, descriptorIndex := 262, attributes := #[] }, { accessFlags := 9, nameIndex := 117, descriptorIndex := 122, attributes := #[] }, { accessFlags := 9, nameIndex := 117, descriptorIndex := 118, attributes := #[] }] 48 6 #[] #[{ accessFlags := 26, nameIndex := 61, descriptorIndex := 62, attributes := #[] }, { accessFlags := 26, nameIndex := 65, descriptorIndex := 62, attributes := #[] }, { accessFlags := 24, nameIndex := 430, descriptorIndex := 62, attributes := #[] }, { accessFlags := 4120, nameIndex := 46, descriptorIndex := 47, attributes := #[] }])
  fields := #[{ name := "HI_BYTE_SHIFT", type := .int, accessFlags := 26, slot := 0, constantValue := 0 }, { name := "LO_BYTE_SHIFT", type := .int, accessFlags := 26, slot := 1, constantValue := 0 }, { name := "MAX_LENGTH", type := .int, accessFlags := 24, slot := 2, constantValue := 0 }, { name := "$assertionsDisabled", type := .boolean, accessFlags := 4120, slot := 3, constantValue := 0 }]
  methods := #[k10m0, k10m1, k10m2, k10m3]
  instanceTypes := #[]
  staticTypes := #[.int, .int, .int, .boolean]
  resolved := Array.replicate 635 none
  statics := none }

def pool11 : Array CpInfo := pool [(2, .class_ 4), (1, u "java/lang/Enum"), (0, u "name"), (0, u "Ljava/lang/String;"), (2, u "ordinal"), (0, u "I"), (1, .class_ 14), (1, u "java/lang/Object"), (4, u "hash"), (86, .class_ 108), (1, u "java/lang/Enum$EnumDesc"), (2, .class_ 112), (0, u "java/lang/constant/Constable"), (0, .class_ 114), (0, u "java/lang/Comparable"), (0, .class_ 116), (0, u "java/io/Serializable")] 87

/-- java/lang/Enum -/
def k11 : Class := { plain "java/lang/Enum" (some 0) with
  accessFlags := 1057
  interfaces := #[5, 3, 2]
  cf := some (fileOf pool11 2 #[.nestMembers #[106]] #[] 1057 12 #[111, 113, 115] #[{ accessFlags := 18, nameIndex := 5, descriptorIndex := 6, attributes := #[] }, { accessFlags := 18, nameIndex := 9, descriptorIndex := 10, attributes := #[] }, { accessFlags := 2, nameIndex := 19, descriptorIndex := 10, attributes := #[] }])
  fields := #[{ name := "name", type := (.object "java/lang/String"), accessFlags := 18, slot := 0, constantValue := 0 }, { name := "ordinal", type := .int, accessFlags := 18, slot := 1, constantValue := 0 }, { name := "hash", type := .int, accessFlags := 2, slot := 2, constantValue := 0 }]
  methods := #[]
  instanceTypes := #[(.object "java/lang/String"), .int, .int]
  staticTypes := #[]
  resolved := Array.replicate 204 none
  statics := none }

def pool12 : Array CpInfo := pool [(1, .class_ 2), (0, u "com/example/numerary/numerary/Scoring"), (2, u "PROPORTION"), (0, u "Lcom/example/numerary/numerary/Scoring;"), (2, u "RATIO"), (2, u "CONTINUOUS_VARIABLE"), (0, .fieldref 1 14), (0, .nameAndType 15 6), (0, u "OTHER"), (0, .fieldref 1 17), (0, .nameAndType 18 19), (0, u "$VALUES"), (0, u "[Lcom/example/numerary/numerary/Scoring;"), (0, .methodref 21 22), (0, .class_ 19), (0, .nameAndType 23 24), (0, u "clone"), (0, u "()Ljava/lang/Object;"), (1, .class_ 28), (1, u "java/lang/Enum"), (6, .fieldref 1 36), (0, .nameAndType 37 38), (0, u "code"), (0, u "Ljava/lang/String;"), (2, u "required"), (0, u "Ljava/util/List;"), (2, u "dependencies"), (0, u "Ljava/util/Map;"), (18, u "observed"), (2, u "mustObserve"), (0, u "Z"), (2, u "individualRowAggregates"), (2, u "ownInitialPopulations"), (0, .methodref 1 77), (0, .nameAndType 78 79), (0, u "values"), (0, u "()[Lcom/example/numerary/numerary/Scoring;"), (0, .methodref 81 82), (0, .class_ 83), (0, .nameAndType 84 85), (0, u "java/lang/String"), (0, u "equals"), (0, u "(Ljava/lang/Object;)Z"), (11, .class_ 98), (0, u "com/example/numerary/numerary/Scoring$Dependency"), (158, u "(Ljava/lang/String;)Lcom/example/numerary/numerary/Scoring;"), (3, u "ofCode")] 51

def k12c0 : Code := { maxStack := 1, maxLocals := 0, code := prog_6_method_1_code, exceptionTable := #[], attributes := #[] }
def k12m0 : Method := { name := "values", desc := "()[Lcom/example/numerary/numerary/Scoring;", sig := { parameters := [], returnType := some (.array (.object "com/example/numerary/numerary/Scoring")) }, accessFlags := 9, code := some k12c0 }
def k12c1 : Code := { maxStack := 2, maxLocals := 5, code := prog_6_method_4_code, exceptionTable := #[], attributes := #[] }
def k12m1 : Method := { name := "ofCode", desc := "(Ljava/lang/String;)Lcom/example/numerary/numerary/Scoring;", sig := { parameters := [(.object "java/lang/String")], returnType := some (.object "com/example/numerary/numerary/Scoring") }, accessFlags := 8, code := some k12c1 }
/-- com/example/numerary/numerary/Scoring -/
def k12 : Class := { plain "com/example/numerary/numerary/Scoring" (some 11) with
  accessFlags := 16432
  interfaces := #[]
  cf := some (fileOf pool12 1 #[.nestMembers #[97]] #[{ accessFlags := 9, nameIndex := 78, descriptorIndex := 79, attributes := #[] }, { accessFlags := 8, nameIndex := 261, descriptorIndex := 257, attributes := #[] }] 16432 26 #[] #[{ accessFlags := 16409, nameIndex := 5, descriptorIndex := 6, attributes := #[] }, { accessFlags := 16409, nameIndex := 9, descriptorIndex := 6, attributes := #[] }, { accessFlags := 16409, nameIndex := 12, descriptorIndex := 6, attributes := #[] }, { accessFlags := 16409, nameIndex := 15, descriptorIndex := 6, attributes := #[] }, { accessFlags := 18, nameIndex := 37, descriptorIndex := 38, attributes := #[] }, { accessFlags := 18, nameIndex := 41, descriptorIndex := 42, attributes := #[] }, { accessFlags := 18, nameIndex := 45, descriptorIndex := 46, attributes := #[] }, { accessFlags := 18, nameIndex := 65, descriptorIndex := 46, attributes := #[] }, { accessFlags := 18, nameIndex := 68, descriptorIndex := 69, attributes := #[] }, { accessFlags := 18, nameIndex := 72, descriptorIndex := 69, attributes := #[] }, { accessFlags := 18, nameIndex := 75, descriptorIndex := 69, attributes := #[] }, { accessFlags := 4122, nameIndex := 18, descriptorIndex := 19, attributes := #[] }])
  fields := #[{ name := "PROPORTION", type := (.object "com/example/numerary/numerary/Scoring"), accessFlags := 16409, slot := 0, constantValue := 0 }, { name := "RATIO", type := (.object "com/example/numerary/numerary/Scoring"), accessFlags := 16409, slot := 1, constantValue := 0 }, { name := "CONTINUOUS_VARIABLE", type := (.object "com/example/numerary/numerary/Scoring"), accessFlags := 16409, slot := 2, constantValue := 0 }, { name := "OTHER", type := (.object "com/example/numerary/numerary/Scoring"), accessFlags := 16409, slot := 3, constantValue := 0 }, { name := "code", type := (.object "java/lang/String"), accessFlags := 18, slot := 3, constantValue := 0 }, { name := "required", type := (.object "java/util/List"), accessFlags := 18, slot := 4, constantValue := 0 }, { name := "dependencies", type := (.object "java/util/Map"), accessFlags := 18, slot := 5, constantValue := 0 }, { name := "observed", type := (.object "java/util/Map"), accessFlags := 18, slot := 6, constantValue := 0 }, { name := "mustObserve", type := .boolean, accessFlags := 18, slot := 7, constantValue := 0 }, { name := "individualRowAggregates", type := .boolean, accessFlags := 18, slot := 8, constantValue := 0 }, { name := "ownInitialPopulations", type := .boolean, accessFlags := 18, slot := 9, constantValue := 0 }, { name := "$VALUES", type := (.array (.object "com/example/numerary/numerary/Scoring")), accessFlags := 4122, slot := 4, constantValue := 0 }]
  methods := #[k12m0, k12m1]
  instanceTypes := #[(.object "java/lang/String"), .int, .int, (.object "java/lang/String"), (.object "java/util/List"), (.object "java/util/Map"), (.object "java/util/Map"), .boolean, .boolean, .boolean]
  staticTypes := #[(.object "com/example/numerary/numerary/Scoring"), (.object "com/example/numerary/numerary/Scoring"), (.object "com/example/numerary/numerary/Scoring"), (.object "com/example/numerary/numerary/Scoring"), (.array (.object "com/example/numerary/numerary/Scoring"))]
  resolved := Array.replicate 313 none
  statics := some 2 }

def pool13 : Array CpInfo := pool [(1, .class_ 2), (0, u "java/lang/Cloneable"), (0, .class_ 4), (0, u "java/lang/Object")] 2

/-- java/lang/Cloneable -/
def k13 : Class := { plain "java/lang/Cloneable" (some 0) with
  accessFlags := 1537
  interfaces := #[]
  cf := some (fileOf pool13 1 #[] #[] 1537 3 #[] #[])
  fields := #[]
  methods := #[]
  instanceTypes := #[]
  staticTypes := #[]
  resolved := Array.replicate 7 none
  statics := none }

def pool14 : Array CpInfo := pool [(9, u "<init>"), (6, .class_ 18), (1, u "java/lang/Object"), (0, u "()V"), (1, .class_ 23), (1, u "jdk/internal/util/ArraysSupport"), (0, u "LOG2_ARRAY_LONG_INDEX_SCALE"), (0, u "I"), (2, u "U"), (0, u "Ljdk/internal/misc/Unsafe;"), (8, u "BIG_ENDIAN"), (0, u "Z"), (8, u "LOG2_BYTE_BIT_SIZE"), (4, u "LOG2_ARRAY_INT_INDEX_SCALE"), (54, u "JLA"), (0, u "Ljdk/internal/access/JavaLangAccess;"), (11, u "LOG2_ARRAY_BOOLEAN_INDEX_SCALE"), (9, u "LOG2_ARRAY_BYTE_INDEX_SCALE"), (5, u "LOG2_ARRAY_CHAR_INDEX_SCALE"), (5, u "LOG2_ARRAY_SHORT_INDEX_SCALE"), (18, u "LOG2_ARRAY_FLOAT_INDEX_SCALE"), (24, u "LOG2_ARRAY_DOUBLE_INDEX_SCALE"), (89, u "T_BOOLEAN"), (2, u "T_CHAR"), (1, u "T_FLOAT"), (1, u "T_DOUBLE"), (1, u "T_BYTE"), (1, u "T_SHORT"), (1, u "T_INT"), (1, u "T_LONG"), (1, u "SOFT_MAX_ARRAY_LENGTH")] 83

def k14m0 : Method := { name := "<init>", desc := "()V", sig := { parameters := [], returnType := none }, accessFlags := 2, code := none }
/-- jdk/internal/util/ArraysSupport -/
def k14 : Class := { plain "jdk/internal/util/ArraysSupport" (some 0) with
  accessFlags := 33
  interfaces := #[]
  cf := some (fileOf pool14 21 #[] #[{ accessFlags := 2, nameIndex := 9, descriptorIndex := 19, attributes := #[] }] 33 16 #[] #[{ accessFlags := 24, nameIndex := 28, descriptorIndex := 29, attributes := #[] }, { accessFlags := 26, nameIndex := 38, descriptorIndex := 39, attributes := #[] }, { accessFlags := 25, nameIndex := 121, descriptorIndex := 25, attributes := #[] }, { accessFlags := 25, nameIndex := 131, descriptorIndex := 25, attributes := #[] }, { accessFlags := 25, nameIndex := 137, descriptorIndex := 25, attributes := #[] }, { accessFlags := 25, nameIndex := 143, descriptorIndex := 25, attributes := #[] }, { accessFlags := 25, nameIndex := 53, descriptorIndex := 25, attributes := #[] }, { accessFlags := 25, nameIndex := 24, descriptorIndex := 25, attributes := #[] }, { accessFlags := 25, nameIndex := 162, descriptorIndex := 25, attributes := #[] }, { accessFlags := 25, nameIndex := 187, descriptorIndex := 25, attributes := #[] }, { accessFlags := 26, nameIndex := 48, descriptorIndex := 25, attributes := #[] }, { accessFlags := 25, nameIndex := 277, descriptorIndex := 25, attributes := #[] }, { accessFlags := 25, nameIndex := 280, descriptorIndex := 25, attributes := #[] }, { accessFlags := 25, nameIndex := 282, descriptorIndex := 25, attributes := #[] }, { accessFlags := 25, nameIndex := 284, descriptorIndex := 25, attributes := #[] }, { accessFlags := 25, nameIndex := 286, descriptorIndex := 25, attributes := #[] }, { accessFlags := 25, nameIndex := 288, descriptorIndex := 25, attributes := #[] }, { accessFlags := 25, nameIndex := 290, descriptorIndex := 25, attributes := #[] }, { accessFlags := 25, nameIndex := 292, descriptorIndex := 25, attributes := #[] }, { accessFlags := 26, nameIndex := 108, descriptorIndex := 109, attributes := #[] }, { accessFlags := 25, nameIndex := 294, descriptorIndex := 25, attributes := #[] }])
  fields := #[{ name := "U", type := (.object "jdk/internal/misc/Unsafe"), accessFlags := 24, slot := 0, constantValue := 0 }, { name := "BIG_ENDIAN", type := .boolean, accessFlags := 26, slot := 1, constantValue := 0 }, { name := "LOG2_ARRAY_BOOLEAN_INDEX_SCALE", type := .int, accessFlags := 25, slot := 2, constantValue := 0 }, { name := "LOG2_ARRAY_BYTE_INDEX_SCALE", type := .int, accessFlags := 25, slot := 3, constantValue := 0 }, { name := "LOG2_ARRAY_CHAR_INDEX_SCALE", type := .int, accessFlags := 25, slot := 4, constantValue := 0 }, { name := "LOG2_ARRAY_SHORT_INDEX_SCALE", type := .int, accessFlags := 25, slot := 5, constantValue := 0 }, { name := "LOG2_ARRAY_INT_INDEX_SCALE", type := .int, accessFlags := 25, slot := 6, constantValue := 0 }, { name := "LOG2_ARRAY_LONG_INDEX_SCALE", type := .int, accessFlags := 25, slot := 7, constantValue := 0 }, { name := "LOG2_ARRAY_FLOAT_INDEX_SCALE", type := .int, accessFlags := 25, slot := 8, constantValue := 0 }, { name := "LOG2_ARRAY_DOUBLE_INDEX_SCALE", type := .int, accessFlags := 25, slot := 9, constantValue := 0 }, { name := "LOG2_BYTE_BIT_SIZE", type := .int, accessFlags := 26, slot := 10, constantValue := 0 }, { name := "T_BOOLEAN", type := .int, accessFlags := 25, slot := 11, constantValue := 0 }, { name := "T_CHAR", type := .int, accessFlags := 25, slot := 12, constantValue := 0 }, { name := "T_FLOAT", type := .int, accessFlags := 25, slot := 13, constantValue := 0 }, { name := "T_DOUBLE", type := .int, accessFlags := 25, slot := 14, constantValue := 0 }, { name := "T_BYTE", type := .int, accessFlags := 25, slot := 15, constantValue := 0 }, { name := "T_SHORT", type := .int, accessFlags := 25, slot := 16, constantValue := 0 }, { name := "T_INT", type := .int, accessFlags := 25, slot := 17, constantValue := 0 }, { name := "T_LONG", type := .int, accessFlags := 25, slot := 18, constantValue := 0 }, { name := "JLA", type := (.object "jdk/internal/access/JavaLangAccess"), accessFlags := 26, slot := 19, constantValue := 0 }, { name := "SOFT_MAX_ARRAY_LENGTH", type := .int, accessFlags := 25, slot := 20, constantValue := 0 }]
  methods := #[k14m0]
  instanceTypes := #[]
  staticTypes := #[(.object "jdk/internal/misc/Unsafe"), .boolean, .int, .int, .int, .int, .int, .int, .int, .int, .int, .int, .int, .int, .int, .int, .int, .int, .int, (.object "jdk/internal/access/JavaLangAccess"), .int]
  resolved := Array.replicate 378 none
  statics := none }

/-- the primitive byte -/
def k15 : Class := { plain "byte" none with kind := .primitive 'B', accessFlags := 0x411 }
/-- [B -/
def k16 : Class := { plain "[B" (some 0) with kind := .array 15 .byte, interfaces := #[13, 2], accessFlags := 1041 }

/-- the primitive char -/
def k17 : Class := { plain "char" none with kind := .primitive 'C', accessFlags := 0x411 }
/-- [C -/
def k18 : Class := { plain "[C" (some 0) with kind := .array 17 .char, interfaces := #[13, 2], accessFlags := 1041 }

/-- the primitive int -/
def k19 : Class := { plain "int" none with kind := .primitive 'I', accessFlags := 0x411 }
/-- [I -/
def k20 : Class := { plain "[I" (some 0) with kind := .array 19 .int, interfaces := #[13, 2], accessFlags := 1041 }

/-- [Lcom/example/numerary/numerary/Scoring; -/
def k21 : Class := { plain "[Lcom/example/numerary/numerary/Scoring;" (some 0) with kind := .array 12 (.object "com/example/numerary/numerary/Scoring"), interfaces := #[13, 2], accessFlags := 1041 }

def heap : Heap := #[{ cls := 7, slots := #[.long 0, .int 1, .null, .int 0, .null, .int 0, .int 0], vm := .statics 7 },
  { cls := 9, slots := #[.null, .null, .null], vm := .statics 9 },
  { cls := 12, slots := #[.ref 4, .ref 5, .ref 6, .ref 7, .ref 3], vm := .statics 12 },
  { cls := 21, slots := #[.ref 4, .ref 5, .ref 6, .ref 7], vm := .none },
  { cls := 12, slots := #[.null, .int 0, .int 0, .ref 8, .null, .null, .null, .int 0, .int 0, .int 0], vm := .none },
  { cls := 12, slots := #[.null, .int 1, .int 0, .ref 9, .null, .null, .null, .int 0, .int 0, .int 0], vm := .none },
  { cls := 12, slots := #[.null, .int 2, .int 0, .ref 10, .null, .null, .null, .int 0, .int 0, .int 0], vm := .none },
  { cls := 12, slots := #[.null, .int 3, .int 0, .null, .null, .null, .null, .int 0, .int 0, .int 0], vm := .none },
  { cls := 7, slots := #[.ref 11, .int 0, .int 0, .int 0], vm := .none },
  { cls := 7, slots := #[.ref 12, .int 0, .int 0, .int 0], vm := .none },
  { cls := 7, slots := #[.ref 13, .int 0, .int 0, .int 0], vm := .none },
  { cls := 16, slots := #[.int 112, .int 114, .int 111, .int 112, .int 111, .int 114, .int 116, .int 105, .int 111, .int 110], vm := .none },
  { cls := 16, slots := #[.int 114, .int 97, .int 116, .int 105, .int 111], vm := .none },
  { cls := 16, slots := #[.int 99, .int 111, .int 110, .int 116, .int 105, .int 110, .int 117, .int 111, .int 117, .int 115, .int 45, .int 118, .int 97, .int 114, .int 105, .int 97, .int 98, .int 108, .int 101], vm := .none }]
def classes : Array Class := #[k0, k1, k2, k3, k4, k5, k6, k7, k8, k9, k10, k11, k12, k13, k14, k15, k16, k17, k18, k19, k20, k21]
def interned : List (Array UInt16 × Addr) := []
def slotsUsed : Nat := 105
def theMethod : MethodId := ⟨1, 7⟩
def args0 : Array Value := #[.int 5, .int 5, .int 5, .int 5, .int 5, .int 5]
def aboutOver (below : List Frame) : State where
  vm := { classes := classes, interned := interned.toArray }
  heap := heap
  slotsUsed := slotsUsed
  threads := #[{ frames := .invoking theMethod args0 :: below }]
def below0 : List Frame := [.native { method := ⟨0, 0⟩, args := #[] }]
def about1 : State := aboutOver below0
def p0 : Program := .bare "" "" ""
def e0 : Env := launch0.env 0 0 0
theorem w_frames : about1.frames = Frame.invoking theMethod args0 :: below0 := rfl
set_option maxRecDepth 65536 in
theorem w_args : argsFit about1.vm theMethod args0 = true := by decide +kernel
set_option maxRecDepth 65536 in
theorem w_heap : heapFits about1 = true := by decide +kernel
set_option maxRecDepth 65536 in
theorem w_runnable : about1.curStatus? = some .runnable := by decide +kernel
set_option maxRecDepth 65536 in
theorem w_alone : about1.alone = true := by decide +kernel
set_option maxRecDepth 65536 in
theorem w_named : about1.methodNamed? x = some theMethod := by decide +kernel
set_option maxRecDepth 65536 in
theorem w_hears : about1.hears theMethod below0 = true := by decide +kernel
set_option maxRecDepth 65536 in
theorem w_ripe : about1.ripe theMethod args0 below0 = true := by decide +kernel
theorem w_running : about1.status = .running := rfl
set_option maxRecDepth 65536 in
theorem w_room : about1.hasRoom e0.platform room_1 = true :=
  launch0.hasRoom_least _ room_1 (by decide +kernel) (by decide +kernel) (by decide +kernel) (by decide +kernel) (by decide +kernel) (by decide +kernel)
theorem allAtoms_all (ts : List Jvm.Cond) (a : Array Jvm.Value) (st : Jvm.State) : (allAtoms ts).before a st = ts.all (fun c => c.before a st) := by
  induction ts with
  | nil => rfl
  | cons c t ih =>
    show (Jvm.Cond.and c (allAtoms t)).before a st = _
    rw [Jvm.Cond.before_and, ih, List.all_cons]
def words1 : List Jvm.Cond := Jvm.Cond.code x code maxLocals ret :: tables_1
/-- a 'code' word, met by the world's own term for the bytes: nothing is compared byte by byte -/
theorem code_word {y : MethodName} {bytes : ByteArray} {mx : Nat} {rt : Option FieldType} {a : Array Value} {s : State} {m : MethodId} {meth : Method} {c : Code} (h1 : s.methodNamed? y = some m) (h2 : s.vm.method? m = some meth) (h3 : meth.code = some c) (h4 : c.code = bytes)
    (h5 : (c.maxLocals == mx && c.exceptionTable.isEmpty && decide (c.maxStack ≤ mostOperands) && decide (meth.sig.returnType = rt) && !meth.locks && decide (parseMethodDescriptor y.desc = some meth.sig)) = true) : (Jvm.Cond.code y bytes mx rt).before a s = true := by
  simp only [Bool.and_eq_true, beq_iff_eq, Bool.not_eq_true', decide_eq_true_eq] at h5
  obtain ⟨⟨⟨⟨⟨g1, g2⟩, g3⟩, g4⟩, g5⟩, g6⟩ := h5
  simp [Cond.before, Cond.holds, Cond.value, h1, h2, h3, h4, g1, g2, g3, g4, g5, g6]
def isCode : Jvm.Cond → Bool
  | .code _ _ _ _ => true
  | _ => false
theorem all_split {L : List Jvm.Cond} {P : Jvm.Cond → Bool} (h1 : L.all (fun c => isCode c || P c) = true) (h2 : ∀ c ∈ L.filter isCode, P c = true) : L.all P = true := by
  refine List.all_eq_true.mpr fun c hc => ?_
  have h := List.all_eq_true.mp h1 c hc
  rcases Bool.eq_false_or_eq_true (isCode c) with hi | hi
  · exact h2 c (List.mem_filter.mpr ⟨hc, hi⟩)
  · simpa [hi] using h
set_option maxRecDepth 65536 in
theorem w_c0 : (Jvm.Cond.code x code maxLocals ret).before args0 about1 = true := code_word (m := ⟨1, 7⟩) (meth := k1m7) (c := k1c7) (by decide +kernel) rfl rfl rfl (by decide +kernel)
set_option maxRecDepth 65536 in
theorem w_c1 : (Jvm.Cond.code ({ cls := "com/example/numerary/numerary/ScoringOfCodePinLaw", name := "prop", desc := "(IC)Ljava/lang/String;" } : Jvm.MethodName) method_3_code (3 : Nat) (Option.some (Jvm.ClassFile.FieldType.object "java/lang/String"))).before args0 about1 = true := code_word (m := ⟨1, 2⟩) (meth := k1m2) (c := k1c2) (by decide +kernel) rfl rfl rfl (by decide +kernel)
set_option maxRecDepth 65536 in
theorem w_c2 : (Jvm.Cond.code ({ cls := "com/example/numerary/numerary/ScoringOfCodePinLaw", name := "ch", desc := "(Ljava/lang/String;IIC)C" } : Jvm.MethodName) method_2_code (4 : Nat) (Option.some Jvm.ClassFile.FieldType.char)).before args0 about1 = true := code_word (m := ⟨1, 1⟩) (meth := k1m1) (c := k1c1) (by decide +kernel) rfl rfl rfl (by decide +kernel)
set_option maxRecDepth 65536 in
theorem w_c3 : (Jvm.Cond.code ({ cls := "java/lang/String", name := "charAt", desc := "(I)C" } : Jvm.MethodName) jdk_42_method_56_code (2 : Nat) (Option.some Jvm.ClassFile.FieldType.char)).before args0 about1 = true := code_word (m := ⟨7, 2⟩) (meth := k7m2) (c := k7c2) (by decide +kernel) rfl rfl rfl (by decide +kernel)
set_option maxRecDepth 65536 in
theorem w_c4 : (Jvm.Cond.code ({ cls := "java/lang/String", name := "isLatin1", desc := "()Z" } : Jvm.MethodName) jdk_42_method_154_code (1 : Nat) (Option.some Jvm.ClassFile.FieldType.boolean)).before args0 about1 = true := code_word (m := ⟨7, 5⟩) (meth := k7m5) (c := k7c5) (by decide +kernel) rfl rfl rfl (by decide +kernel)
set_option maxRecDepth 65536 in
theorem w_c5 : (Jvm.Cond.code ({ cls := "java/lang/StringLatin1", name := "charAt", desc := "([BI)C" } : Jvm.MethodName) jdk_43_method_2_code (2 : Nat) (Option.some Jvm.ClassFile.FieldType.char)).before args0 about1 = true := code_word (m := ⟨8, 1⟩) (meth := k8m1) (c := k8c1) (by decide +kernel) rfl rfl rfl (by decide +kernel)
set_option maxRecDepth 65536 in
theorem w_c6 : (Jvm.Cond.code ({ cls := "java/lang/String", name := "checkIndex", desc := "(II)V" } : Jvm.MethodName) jdk_42_method_155_code (2 : Nat) (Option.none : Option Jvm.ClassFile.FieldType)).before args0 about1 = true := code_word (m := ⟨7, 6⟩) (meth := k7m6) (c := k7c6) (by decide +kernel) rfl rfl rfl (by decide +kernel)
set_option maxRecDepth 65536 in
theorem w_c7 : (Jvm.Cond.code ({ cls := "jdk/internal/util/Preconditions", name := "checkIndex", desc := "(IILjava/util/function/BiFunction;)I" } : Jvm.MethodName) jdk_41_method_11_code (3 : Nat) (Option.some Jvm.ClassFile.FieldType.int)).before args0 about1 = true := code_word (m := ⟨9, 1⟩) (meth := k9m1) (c := k9c1) (by decide +kernel) rfl rfl rfl (by decide +kernel)
set_option maxRecDepth 65536 in
theorem w_c8 : (Jvm.Cond.code ({ cls := "java/lang/String", name := "<init>", desc := "([C)V" } : Jvm.MethodName) jdk_42_method_3_code (2 : Nat) (Option.none : Option Jvm.ClassFile.FieldType)).before args0 about1 = true := code_word (m := ⟨7, 1⟩) (meth := k7m1) (c := k7c1) (by decide +kernel) rfl rfl rfl (by decide +kernel)
set_option maxRecDepth 65536 in
theorem w_c9 : (Jvm.Cond.code ({ cls := "java/lang/String", name := "<init>", desc := "([CIILjava/lang/Void;)V" } : Jvm.MethodName) jdk_42_method_149_code (6 : Nat) (Option.none : Option Jvm.ClassFile.FieldType)).before args0 about1 = true := code_word (m := ⟨7, 4⟩) (meth := k7m4) (c := k7c4) (by decide +kernel) rfl rfl rfl (by decide +kernel)
set_option maxRecDepth 65536 in
theorem w_c10 : (Jvm.Cond.code ({ cls := "java/lang/Object", name := "<init>", desc := "()V" } : Jvm.MethodName) object_method_1_code (1 : Nat) (Option.none : Option Jvm.ClassFile.FieldType)).before args0 about1 = true := code_word (m := ⟨0, 0⟩) (meth := k0m0) (c := k0c0) (by decide +kernel) rfl rfl rfl (by decide +kernel)
set_option maxRecDepth 65536 in
theorem w_c11 : (Jvm.Cond.code ({ cls := "java/lang/StringUTF16", name := "compress", desc := "([CII)[B" } : Jvm.MethodName) jdk_52_method_16_code (6 : Nat) (Option.some (Jvm.ClassFile.FieldType.array Jvm.ClassFile.FieldType.byte))).before args0 about1 = true := code_word (m := ⟨10, 2⟩) (meth := k10m2) (c := k10c2) (by decide +kernel) rfl rfl rfl (by decide +kernel)
set_option maxRecDepth 65536 in
theorem w_c12 : (Jvm.Cond.code ({ cls := "java/lang/StringUTF16", name := "compress", desc := "([CI[BII)I" } : Jvm.MethodName) jdk_52_method_21_code (7 : Nat) (Option.some Jvm.ClassFile.FieldType.int)).before args0 about1 = true := code_word (m := ⟨10, 3⟩) (meth := k10m3) (c := k10c3) (by decide +kernel) rfl rfl rfl (by decide +kernel)
set_option maxRecDepth 65536 in
theorem w_c13 : (Jvm.Cond.code ({ cls := "java/lang/StringUTF16", name := "coderFromArrayLen", desc := "([BI)B" } : Jvm.MethodName) jdk_52_method_15_code (2 : Nat) (Option.some Jvm.ClassFile.FieldType.byte)).before args0 about1 = true := code_word (m := ⟨10, 1⟩) (meth := k10m1) (c := k10c1) (by decide +kernel) rfl rfl rfl (by decide +kernel)
set_option maxRecDepth 65536 in
theorem w_c14 : (Jvm.Cond.code ({ cls := "com/example/numerary/numerary/Scoring", name := "ofCode", desc := "(Ljava/lang/String;)Lcom/example/numerary/numerary/Scoring;" } : Jvm.MethodName) prog_6_method_4_code (5 : Nat) (Option.some (Jvm.ClassFile.FieldType.object "com/example/numerary/numerary/Scoring"))).before args0 about1 = true := code_word (m := ⟨12, 1⟩) (meth := k12m1) (c := k12c1) (by decide +kernel) rfl rfl rfl (by decide +kernel)
set_option maxRecDepth 65536 in
theorem w_c15 : (Jvm.Cond.code ({ cls := "com/example/numerary/numerary/Scoring", name := "values", desc := "()[Lcom/example/numerary/numerary/Scoring;" } : Jvm.MethodName) prog_6_method_1_code (0 : Nat) (Option.some (Jvm.ClassFile.FieldType.array (Jvm.ClassFile.FieldType.object "com/example/numerary/numerary/Scoring")))).before args0 about1 = true := code_word (m := ⟨12, 0⟩) (meth := k12m0) (c := k12c0) (by decide +kernel) rfl rfl rfl (by decide +kernel)
set_option maxRecDepth 65536 in
theorem w_c16 : (Jvm.Cond.code ({ cls := "java/lang/String", name := "equals", desc := "(Ljava/lang/Object;)Z" } : Jvm.MethodName) jdk_42_method_66_code (3 : Nat) (Option.some Jvm.ClassFile.FieldType.boolean)).before args0 about1 = true := code_word (m := ⟨7, 3⟩) (meth := k7m3) (c := k7c3) (by decide +kernel) rfl rfl rfl (by decide +kernel)
set_option maxRecDepth 65536 in
theorem w_c17 : (Jvm.Cond.code ({ cls := "java/lang/StringLatin1", name := "equals", desc := "([B[B)Z" } : Jvm.MethodName) jdk_43_method_13_code (3 : Nat) (Option.some Jvm.ClassFile.FieldType.boolean)).before args0 about1 = true := code_word (m := ⟨8, 2⟩) (meth := k8m2) (c := k8c2) (by decide +kernel) rfl rfl rfl (by decide +kernel)
set_option maxRecDepth 65536 in
theorem w_c18 : (Jvm.Cond.code ({ cls := "com/example/numerary/numerary/ScoringOfCodePinLaw", name := "expected", desc := "(Ljava/lang/String;)Lcom/example/numerary/numerary/Scoring;" } : Jvm.MethodName) method_7_code (1 : Nat) (Option.some (Jvm.ClassFile.FieldType.object "com/example/numerary/numerary/Scoring"))).before args0 about1 = true := code_word (m := ⟨1, 6⟩) (meth := k1m6) (c := k1c6) (by decide +kernel) rfl rfl rfl (by decide +kernel)
set_option maxRecDepth 65536 in
theorem w_c19 : (Jvm.Cond.code ({ cls := "com/example/numerary/numerary/ScoringOfCodePinLaw", name := "ratio", desc := "(IC)Ljava/lang/String;" } : Jvm.MethodName) method_4_code (3 : Nat) (Option.some (Jvm.ClassFile.FieldType.object "java/lang/String"))).before args0 about1 = true := code_word (m := ⟨1, 3⟩) (meth := k1m3) (c := k1c3) (by decide +kernel) rfl rfl rfl (by decide +kernel)
set_option maxRecDepth 65536 in
theorem w_c20 : (Jvm.Cond.code ({ cls := "com/example/numerary/numerary/ScoringOfCodePinLaw", name := "mk", desc := "(ICCCCC)Ljava/lang/String;" } : Jvm.MethodName) method_6_code (6 : Nat) (Option.some (Jvm.ClassFile.FieldType.object "java/lang/String"))).before args0 about1 = true := code_word (m := ⟨1, 5⟩) (meth := k1m5) (c := k1c5) (by decide +kernel) rfl rfl rfl (by decide +kernel)
set_option maxRecDepth 65536 in
theorem w_c21 : (Jvm.Cond.code ({ cls := "com/example/numerary/numerary/ScoringOfCodePinLaw", name := "cv", desc := "(IC)Ljava/lang/String;" } : Jvm.MethodName) method_5_code (3 : Nat) (Option.some (Jvm.ClassFile.FieldType.object "java/lang/String"))).before args0 about1 = true := code_word (m := ⟨1, 4⟩) (meth := k1m4) (c := k1c4) (by decide +kernel) rfl rfl rfl (by decide +kernel)
def codes1 : List Jvm.Cond := [Jvm.Cond.code x code maxLocals ret, Jvm.Cond.code ({ cls := "com/example/numerary/numerary/ScoringOfCodePinLaw", name := "prop", desc := "(IC)Ljava/lang/String;" } : Jvm.MethodName) method_3_code (3 : Nat) (Option.some (Jvm.ClassFile.FieldType.object "java/lang/String")), Jvm.Cond.code ({ cls := "com/example/numerary/numerary/ScoringOfCodePinLaw", name := "ch", desc := "(Ljava/lang/String;IIC)C" } : Jvm.MethodName) method_2_code (4 : Nat) (Option.some Jvm.ClassFile.FieldType.char), Jvm.Cond.code ({ cls := "java/lang/String", name := "charAt", desc := "(I)C" } : Jvm.MethodName) jdk_42_method_56_code (2 : Nat) (Option.some Jvm.ClassFile.FieldType.char), Jvm.Cond.code ({ cls := "java/lang/String", name := "isLatin1", desc := "()Z" } : Jvm.MethodName) jdk_42_method_154_code (1 : Nat) (Option.some Jvm.ClassFile.FieldType.boolean), Jvm.Cond.code ({ cls := "java/lang/StringLatin1", name := "charAt", desc := "([BI)C" } : Jvm.MethodName) jdk_43_method_2_code (2 : Nat) (Option.some Jvm.ClassFile.FieldType.char), Jvm.Cond.code ({ cls := "java/lang/String", name := "checkIndex", desc := "(II)V" } : Jvm.MethodName) jdk_42_method_155_code (2 : Nat) (Option.none : Option Jvm.ClassFile.FieldType), Jvm.Cond.code ({ cls := "jdk/internal/util/Preconditions", name := "checkIndex", desc := "(IILjava/util/function/BiFunction;)I" } : Jvm.MethodName) jdk_41_method_11_code (3 : Nat) (Option.some Jvm.ClassFile.FieldType.int), Jvm.Cond.code ({ cls := "java/lang/String", name := "<init>", desc := "([C)V" } : Jvm.MethodName) jdk_42_method_3_code (2 : Nat) (Option.none : Option Jvm.ClassFile.FieldType), Jvm.Cond.code ({ cls := "java/lang/String", name := "<init>", desc := "([CIILjava/lang/Void;)V" } : Jvm.MethodName) jdk_42_method_149_code (6 : Nat) (Option.none : Option Jvm.ClassFile.FieldType), Jvm.Cond.code ({ cls := "java/lang/Object", name := "<init>", desc := "()V" } : Jvm.MethodName) object_method_1_code (1 : Nat) (Option.none : Option Jvm.ClassFile.FieldType), Jvm.Cond.code ({ cls := "java/lang/StringUTF16", name := "compress", desc := "([CII)[B" } : Jvm.MethodName) jdk_52_method_16_code (6 : Nat) (Option.some (Jvm.ClassFile.FieldType.array Jvm.ClassFile.FieldType.byte)), Jvm.Cond.code ({ cls := "java/lang/StringUTF16", name := "compress", desc := "([CI[BII)I" } : Jvm.MethodName) jdk_52_method_21_code (7 : Nat) (Option.some Jvm.ClassFile.FieldType.int), Jvm.Cond.code ({ cls := "java/lang/StringUTF16", name := "coderFromArrayLen", desc := "([BI)B" } : Jvm.MethodName) jdk_52_method_15_code (2 : Nat) (Option.some Jvm.ClassFile.FieldType.byte), Jvm.Cond.code ({ cls := "com/example/numerary/numerary/Scoring", name := "ofCode", desc := "(Ljava/lang/String;)Lcom/example/numerary/numerary/Scoring;" } : Jvm.MethodName) prog_6_method_4_code (5 : Nat) (Option.some (Jvm.ClassFile.FieldType.object "com/example/numerary/numerary/Scoring")), Jvm.Cond.code ({ cls := "com/example/numerary/numerary/Scoring", name := "values", desc := "()[Lcom/example/numerary/numerary/Scoring;" } : Jvm.MethodName) prog_6_method_1_code (0 : Nat) (Option.some (Jvm.ClassFile.FieldType.array (Jvm.ClassFile.FieldType.object "com/example/numerary/numerary/Scoring"))), Jvm.Cond.code ({ cls := "java/lang/String", name := "equals", desc := "(Ljava/lang/Object;)Z" } : Jvm.MethodName) jdk_42_method_66_code (3 : Nat) (Option.some Jvm.ClassFile.FieldType.boolean), Jvm.Cond.code ({ cls := "java/lang/StringLatin1", name := "equals", desc := "([B[B)Z" } : Jvm.MethodName) jdk_43_method_13_code (3 : Nat) (Option.some Jvm.ClassFile.FieldType.boolean), Jvm.Cond.code ({ cls := "com/example/numerary/numerary/ScoringOfCodePinLaw", name := "expected", desc := "(Ljava/lang/String;)Lcom/example/numerary/numerary/Scoring;" } : Jvm.MethodName) method_7_code (1 : Nat) (Option.some (Jvm.ClassFile.FieldType.object "com/example/numerary/numerary/Scoring")), Jvm.Cond.code ({ cls := "com/example/numerary/numerary/ScoringOfCodePinLaw", name := "ratio", desc := "(IC)Ljava/lang/String;" } : Jvm.MethodName) method_4_code (3 : Nat) (Option.some (Jvm.ClassFile.FieldType.object "java/lang/String")), Jvm.Cond.code ({ cls := "com/example/numerary/numerary/ScoringOfCodePinLaw", name := "mk", desc := "(ICCCCC)Ljava/lang/String;" } : Jvm.MethodName) method_6_code (6 : Nat) (Option.some (Jvm.ClassFile.FieldType.object "java/lang/String")), Jvm.Cond.code ({ cls := "com/example/numerary/numerary/ScoringOfCodePinLaw", name := "cv", desc := "(IC)Ljava/lang/String;" } : Jvm.MethodName) method_5_code (3 : Nat) (Option.some (Jvm.ClassFile.FieldType.object "java/lang/String"))]
set_option maxRecDepth 65536 in
theorem codes_eq : words1.filter isCode = codes1 := rfl
theorem w_codes : ∀ c ∈ words1.filter isCode, c.before args0 about1 = true := by
  rw [codes_eq]
  intro c hc
  simp only [codes1, List.mem_cons, List.not_mem_nil, or_false] at hc
  rcases hc with rfl | rfl | rfl | rfl | rfl | rfl | rfl | rfl | rfl | rfl | rfl | rfl | rfl | rfl | rfl | rfl | rfl | rfl | rfl | rfl | rfl | rfl
  · exact w_c0
  · exact w_c1
  · exact w_c2
  · exact w_c3
  · exact w_c4
  · exact w_c5
  · exact w_c6
  · exact w_c7
  · exact w_c8
  · exact w_c9
  · exact w_c10
  · exact w_c11
  · exact w_c12
  · exact w_c13
  · exact w_c14
  · exact w_c15
  · exact w_c16
  · exact w_c17
  · exact w_c18
  · exact w_c19
  · exact w_c20
  · exact w_c21
set_option maxRecDepth 65536 in
theorem w_t1 : (words1.take 24).all (fun c => isCode c || c.before args0 about1) = true := by decide +kernel
set_option maxRecDepth 65536 in
theorem w_t2 : ((words1.drop 24).take 24).all (fun c => isCode c || c.before args0 about1) = true := by decide +kernel
set_option maxRecDepth 65536 in
theorem w_t3 : (((words1.drop 24).drop 24).take 24).all (fun c => isCode c || c.before args0 about1) = true := by decide +kernel
set_option maxRecDepth 65536 in
theorem w_t4 : ((((words1.drop 24).drop 24).drop 24).take 24).all (fun c => isCode c || c.before args0 about1) = true := by decide +kernel
set_option maxRecDepth 65536 in
theorem w_t5 : ((((words1.drop 24).drop 24).drop 24).drop 24).all (fun c => isCode c || c.before args0 about1) = true := by decide +kernel
theorem w_tables : (allAtoms (Jvm.Cond.code x code maxLocals ret :: tables_1)).before args0 about1 = true := by
  rw [allAtoms_all]
  show words1.all (fun c => c.before args0 about1) = true
  refine all_split ?_ w_codes
  rw [← List.take_append_drop 24 words1, List.all_append, w_t1, ← List.take_append_drop 24 (words1.drop 24), List.all_append, w_t2, ← List.take_append_drop 24 ((words1.drop 24).drop 24), List.all_append, w_t3, ← List.take_append_drop 24 (((words1.drop 24).drop 24).drop 24), List.all_append, w_t4, w_t5]
  rfl
set_option maxRecDepth 65536 in
theorem w_rest : rest_1_c.before args0 about1 = true := by decide +kernel
set_option maxRecDepth 65536 in
theorem w_case : (Jvm.Cond.and given_1 narrow_1).before args0 about1 = true := by decide +kernel
set_option maxRecDepth 65536 in
theorem w_consts : constsHeld consts_1 about1 := Jvm.Lit.constsHeldB_iff.mp (by decide +kernel)
theorem w_applies : (headSpec (Jvm.Cond.code x code maxLocals ret :: tables_1) room_1).applies x e0.platform about1 = true :=
  (Spec.applies_iff w_frames).mpr ⟨w_running, w_runnable, w_alone, w_named, w_hears, w_ripe, w_room, w_tables⟩
theorem atStart : AtStart classFile x code maxLocals ret World_1 tables_1 room_1 Calls_1 rest_1 Pre_1 launch0 p0 e0 about1 theMethod args0 below0 :=
  ⟨lists_1, trivial, launch0.admits_env _ _ _, launch0.least_env, fairChoices_fair.cas, fairChoices_fair.clock, w_frames, w_args, w_heap, w_applies, ⟨w_consts, trivial⟩, w_rest, w_case⟩
end start1
theorem witness_1 : WitnessClaimed_1 := ⟨start1.p0, start1.e0, start1.about1, start1.theMethod, start1.args0, start1.below0, start1.atStart⟩
end Jvm.Pilot.@@N@@
