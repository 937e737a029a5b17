import JvmDerived
import JvmDerived.Pilot.@@N@@Statement
import JvmDerived.Pilot.@@N@@Code
set_option linter.unusedVariables false
set_option linter.unusedSimpArgs false
namespace Jvm.Pilot.@@N@@
open Jvm Jvm.ClassFile Sem Op Lib Jvm.Free Jvm.Stand Jvm.LawKit Jvm.RoadKit Bundle Jvm.Pilot.@@N@@.Jvm.D
section OwnKit
variable {p : Program} {l : Launch} {e : Env} {R : Room} {s : State} {m : MethodId} {args : Array Value} {below : List Frame} {meth : Method} {c : Code} {T : State} {locs : List Loc} {cells slots : Nat}
variable {Q : Option Value → Heap → List Loc → Prop} {K N : Nat}
/-- from the state U the body comes to its end, and leaves what Q says -/
def own_G (p : Program) (e : Env) (below : List Frame) (s : State) (Q : Option Value → Heap → List Loc → Prop) (K N : Nat) (U : State) : Prop :=
  ∃ s₂ o, Steps p.tables e below U s₂ ∧ s₂.status = .running ∧ Ended s₂ below o ∧ ∃ v L, o = .returned v ∧ Q v s₂.heap L ∧ FrameEnd s o s₂ L K N
theorem own_go {U U' : State} (h : ∀ t, Steps p.tables e below U' t → Steps p.tables e below U t) (k : own_G p e below s Q K N U') : own_G p e below s Q K N U := by
  obtain ⟨s₂, o, h1, r⟩ := k
  exact ⟨s₂, o, h _ h1, r⟩
theorem own_end (X : Stand p l e R s m args below meth c T locs cells slots) {v : Option Value} (hv : meth.sig.returnType = none → v = none) (hlocks : meth.locks = false) {U : State}
    (st : ∀ fs, (∀ (f : JFrame) (acts : List Action), f.method = m → f.locked = none → f.entered = [] → (doReturn e (T.setTop f) acts v).1 = T.setFrames fs) → Steps p.tables e below U (T.setFrames fs))
    (hQ : Q v T.heap locs) (hK : cells ≤ K) (hN : slots ≤ N) : own_G p e below s Q K N U := by
  obtain ⟨fs, hr, hrun, hended, hW, hsame⟩ := X.leave hv hlocks
  exact ⟨_, _, st fs hr, hrun, hended, _, _, rfl, hQ, ⟨_, rfl⟩, hW, hsame.mono hK hN⟩
theorem own_retI (X : Stand p l e R s m args below meth c T locs cells slots) (hx : p.tables.exec = Jvm.exec) {pc : Nat} {Ls : Array Slot} {z : Int32} {rest : List Value} (hret : meth.sig.returnType = some .int) (hlocks : meth.locks = false) (hd : decode c.code pc = .ok (.ireturn, 1))
    {h : Heap} (eT : T.heap = h) (hQ : Q (some (.int z)) h locs) (hK : cells ≤ K) (hN : slots ≤ N) : own_G p e below s Q K N (T.setTop (mkF m pc Ls (.int z :: rest))) :=
  own_end X (fun h => by rw [hret] at h; cases h) hlocks (fun fs hr => retOut X hx hret rfl (Or.inl ⟨rfl, Or.inl rfl, _, rfl⟩) hd hr) (by rw [eT]; exact hQ) hK hN
theorem own_retJ (X : Stand p l e R s m args below meth c T locs cells slots) (hx : p.tables.exec = Jvm.exec) {pc : Nat} {Ls : Array Slot} {z : Int64} {rest : List Value} (hret : meth.sig.returnType = some .long) (hlocks : meth.locks = false) (hd : decode c.code pc = .ok (.lreturn, 1))
    {h : Heap} (eT : T.heap = h) (hQ : Q (some (.long z)) h locs) (hK : cells ≤ K) (hN : slots ≤ N) : own_G p e below s Q K N (T.setTop (mkF m pc Ls (.long z :: rest))) :=
  own_end X (fun h => by rw [hret] at h; cases h) hlocks (fun fs hr => retOut X hx hret rfl (Or.inr (Or.inl ⟨rfl, rfl, _, rfl⟩)) hd hr) (by rw [eT]; exact hQ) hK hN
theorem own_retD (X : Stand p l e R s m args below meth c T locs cells slots) (hx : p.tables.exec = Jvm.exec) {pc : Nat} {Ls : Array Slot} {z : UInt64} {rest : List Value} (hret : meth.sig.returnType = some .double) (hlocks : meth.locks = false) (hd : decode c.code pc = .ok (.dreturn, 1))
    {h : Heap} (eT : T.heap = h) (hQ : Q (some (.double z)) h locs) (hK : cells ≤ K) (hN : slots ≤ N) : own_G p e below s Q K N (T.setTop (mkF m pc Ls (.double z :: rest))) :=
  own_end X (fun h => by rw [hret] at h; cases h) hlocks (fun fs hr => retOut X hx hret rfl (Or.inr (Or.inr (Or.inl ⟨rfl, rfl, _, rfl⟩))) hd hr) (by rw [eT]; exact hQ) hK hN
theorem own_retA {t : FieldType} (ht : t.isReference = true) {w : Value} (hv : w.isRef = true) (X : Stand p l e R s m args below meth c T locs cells slots) (hx : p.tables.exec = Jvm.exec) {pc : Nat} {Ls : Array Slot} {rest : List Value} (hret : meth.sig.returnType = some t) (hlocks : meth.locks = false) (hd : decode c.code pc = .ok (.areturn, 1))
    {h : Heap} (eT : T.heap = h) (hQ : Q (some w) h locs) (hK : cells ≤ K) (hN : slots ≤ N) : own_G p e below s Q K N (T.setTop (mkF m pc Ls (w :: rest))) :=
  own_end X (fun h => by rw [hret] at h; cases h) hlocks (fun fs hr => retOut X hx hret (by cases t <;> first | rfl | (cases ht)) (Or.inr (Or.inr (Or.inr (Or.inr ⟨rfl, ht, hv⟩)))) hd hr) (by rw [eT]; exact hQ) hK hN
theorem own_retN {t : FieldType} (ht : t = .boolean ∨ t = .byte ∨ t = .char ∨ t = .short) (X : Stand p l e R s m args below meth c T locs cells slots) (hx : p.tables.exec = Jvm.exec) {pc : Nat} {Ls : Array Slot} {z : Int32} {rest : List Value} (hret : meth.sig.returnType = some t) (hlocks : meth.locks = false) (hd : decode c.code pc = .ok (.ireturn, 1))
    {h : Heap} (eT : T.heap = h) (hQ : Q (some (.int (nar t z))) h locs) (hK : cells ≤ K) (hN : slots ≤ N) : own_G p e below s Q K N (T.setTop (mkF m pc Ls (.int z :: rest))) :=
  own_end X (fun h => by rw [hret] at h; cases h) hlocks (fun fs hr => retN X hx hret ht hd hr) (by rw [eT]; exact hQ) hK hN
theorem own_ret0 (X : Stand p l e R s m args below meth c T locs cells slots) (hx : p.tables.exec = Jvm.exec) {pc : Nat} {Ls : Array Slot} (hret : meth.sig.returnType = none) (hlocks : meth.locks = false) (hd : decode c.code pc = .ok (.return_, 1))
    {h : Heap} (eT : T.heap = h) (hQ : Q none h locs) (hK : cells ≤ K) (hN : slots ≤ N) : own_G p e below s Q K N (T.setTop (mkF m pc Ls [])) :=
  own_end X (fun _ => rfl) hlocks (fun fs hr => X.returnOut hx hret hd hr) (by rw [eT]; exact hQ) hK hN
theorem own_lrem (X : Stand p l e R s m args below meth c T locs cells slots) (hx : p.tables.exec = Jvm.exec) {g : JFrame} {target : State} (hg : g.method = m) {x y : Int64} {rest : List Value} (hd : decode c.code g.pc = .ok (.lrem, 1)) (hs : g.stack = .long y :: .long x :: rest) (hy : y ≠ 0)
    (hr : Steps p.tables e below (T.setTop { g with pc := g.pc + 1, stack := .long (x % y) :: rest }) target) : Steps p.tables e below (T.setTop g) target :=
  XS.lrem X.here hx hg hd hs hy (by rw [lrem_mod]; exact hr)
theorem own_ic_ltY (X : Stand p l e R s m args below meth c T locs cells slots) (hx : p.tables.exec = Jvm.exec) {pc pc' : Nat} {Ls : Array Slot} {rest : List Value} {o : Int} {x y : Int32} (hd : decode c.code pc = .ok (.if_icmp .lt o, 3)) (ho : 0 ≤ (pc : Int) + o) (hp : ((pc : Int) + o).toNat = pc') (h : x < y) (k : own_G p e below s Q K N (T.setTop (mkF m pc' Ls rest))) : own_G p e below s Q K N (T.setTop (mkF m pc Ls (.int y :: .int x :: rest))) :=
  own_go (fun _ k => XS.icmpYes X.here hx rfl (pc0 := pc) (pc' := pc') rfl hd rfl (tlt h).1 ho hp k) k
theorem own_ic_ltN (X : Stand p l e R s m args below meth c T locs cells slots) (hx : p.tables.exec = Jvm.exec) {pc : Nat} {Ls : Array Slot} {rest : List Value} {o : Int} {x y : Int32} (hd : decode c.code pc = .ok (.if_icmp .lt o, 3)) (h : ¬ (x < y)) (k : own_G p e below s Q K N (T.setTop (mkF m (pc + 3) Ls rest))) : own_G p e below s Q K N (T.setTop (mkF m pc Ls (.int y :: .int x :: rest))) :=
  own_go (fun _ k => XS.icmpNo X.here hx rfl hd rfl (flt h).1 k) k
theorem own_ic_lt (X : Stand p l e R s m args below meth c T locs cells slots) (hx : p.tables.exec = Jvm.exec) {pc pc' : Nat} {Ls : Array Slot} {rest : List Value} {o : Int} {x y : Int32} (hd : decode c.code pc = .ok (.if_icmp .lt o, 3)) (ho : 0 ≤ (pc : Int) + o) (hp : ((pc : Int) + o).toNat = pc') (ky : x < y → own_G p e below s Q K N (T.setTop (mkF m pc' Ls rest))) (kn : ¬ (x < y) → own_G p e below s Q K N (T.setTop (mkF m (pc + 3) Ls rest))) : own_G p e below s Q K N (T.setTop (mkF m pc Ls (.int y :: .int x :: rest))) := by
  by_cases h : x < y
  · exact own_ic_ltY X hx hd ho hp h (ky h)
  · exact own_ic_ltN X hx hd h (kn h)
theorem own_if_ltY (X : Stand p l e R s m args below meth c T locs cells slots) (hx : p.tables.exec = Jvm.exec) {pc pc' : Nat} {Ls : Array Slot} {rest : List Value} {o : Int} {x : Int32} (hd : decode c.code pc = .ok (.ifCond .lt o, 3)) (ho : 0 ≤ (pc : Int) + o) (hp : ((pc : Int) + o).toNat = pc') (h : x < 0) (k : own_G p e below s Q K N (T.setTop (mkF m pc' Ls rest))) : own_G p e below s Q K N (T.setTop (mkF m pc Ls (.int x :: rest))) :=
  own_go (fun _ k => XS.ifYes X.here hx rfl (pc0 := pc) (pc' := pc') rfl hd rfl ((if0 _ _).trans (tlt h).1) ho hp k) k
theorem own_if_ltN (X : Stand p l e R s m args below meth c T locs cells slots) (hx : p.tables.exec = Jvm.exec) {pc : Nat} {Ls : Array Slot} {rest : List Value} {o : Int} {x : Int32} (hd : decode c.code pc = .ok (.ifCond .lt o, 3)) (h : ¬ (x < 0)) (k : own_G p e below s Q K N (T.setTop (mkF m (pc + 3) Ls rest))) : own_G p e below s Q K N (T.setTop (mkF m pc Ls (.int x :: rest))) :=
  own_go (fun _ k => XS.ifNo X.here hx rfl hd rfl ((if0 _ _).trans (flt h).1) k) k
theorem own_if_lt (X : Stand p l e R s m args below meth c T locs cells slots) (hx : p.tables.exec = Jvm.exec) {pc pc' : Nat} {Ls : Array Slot} {rest : List Value} {o : Int} {x : Int32} (hd : decode c.code pc = .ok (.ifCond .lt o, 3)) (ho : 0 ≤ (pc : Int) + o) (hp : ((pc : Int) + o).toNat = pc') (ky : x < 0 → own_G p e below s Q K N (T.setTop (mkF m pc' Ls rest))) (kn : ¬ (x < 0) → own_G p e below s Q K N (T.setTop (mkF m (pc + 3) Ls rest))) : own_G p e below s Q K N (T.setTop (mkF m pc Ls (.int x :: rest))) := by
  by_cases h : x < 0
  · exact own_if_ltY X hx hd ho hp h (ky h)
  · exact own_if_ltN X hx hd h (kn h)
theorem own_ic_geY (X : Stand p l e R s m args below meth c T locs cells slots) (hx : p.tables.exec = Jvm.exec) {pc pc' : Nat} {Ls : Array Slot} {rest : List Value} {o : Int} {x y : Int32} (hd : decode c.code pc = .ok (.if_icmp .ge o, 3)) (ho : 0 ≤ (pc : Int) + o) (hp : ((pc : Int) + o).toNat = pc') (h : ¬ (x < y)) (k : own_G p e below s Q K N (T.setTop (mkF m pc' Ls rest))) : own_G p e below s Q K N (T.setTop (mkF m pc Ls (.int y :: .int x :: rest))) :=
  own_go (fun _ k => XS.icmpYes X.here hx rfl (pc0 := pc) (pc' := pc') rfl hd rfl (flt h).2.1 ho hp k) k
theorem own_ic_geN (X : Stand p l e R s m args below meth c T locs cells slots) (hx : p.tables.exec = Jvm.exec) {pc : Nat} {Ls : Array Slot} {rest : List Value} {o : Int} {x y : Int32} (hd : decode c.code pc = .ok (.if_icmp .ge o, 3)) (h : x < y) (k : own_G p e below s Q K N (T.setTop (mkF m (pc + 3) Ls rest))) : own_G p e below s Q K N (T.setTop (mkF m pc Ls (.int y :: .int x :: rest))) :=
  own_go (fun _ k => XS.icmpNo X.here hx rfl hd rfl (tlt h).2.1 k) k
theorem own_ic_ge (X : Stand p l e R s m args below meth c T locs cells slots) (hx : p.tables.exec = Jvm.exec) {pc pc' : Nat} {Ls : Array Slot} {rest : List Value} {o : Int} {x y : Int32} (hd : decode c.code pc = .ok (.if_icmp .ge o, 3)) (ho : 0 ≤ (pc : Int) + o) (hp : ((pc : Int) + o).toNat = pc') (ky : ¬ (x < y) → own_G p e below s Q K N (T.setTop (mkF m pc' Ls rest))) (kn : x < y → own_G p e below s Q K N (T.setTop (mkF m (pc + 3) Ls rest))) : own_G p e below s Q K N (T.setTop (mkF m pc Ls (.int y :: .int x :: rest))) := by
  by_cases h : x < y
  · exact own_ic_geN X hx hd h (kn h)
  · exact own_ic_geY X hx hd ho hp h (ky h)
theorem own_if_geY (X : Stand p l e R s m args below meth c T locs cells slots) (hx : p.tables.exec = Jvm.exec) {pc pc' : Nat} {Ls : Array Slot} {rest : List Value} {o : Int} {x : Int32} (hd : decode c.code pc = .ok (.ifCond .ge o, 3)) (ho : 0 ≤ (pc : Int) + o) (hp : ((pc : Int) + o).toNat = pc') (h : ¬ (x < 0)) (k : own_G p e below s Q K N (T.setTop (mkF m pc' Ls rest))) : own_G p e below s Q K N (T.setTop (mkF m pc Ls (.int x :: rest))) :=
  own_go (fun _ k => XS.ifYes X.here hx rfl (pc0 := pc) (pc' := pc') rfl hd rfl ((if0 _ _).trans (flt h).2.1) ho hp k) k
theorem own_if_geN (X : Stand p l e R s m args below meth c T locs cells slots) (hx : p.tables.exec = Jvm.exec) {pc : Nat} {Ls : Array Slot} {rest : List Value} {o : Int} {x : Int32} (hd : decode c.code pc = .ok (.ifCond .ge o, 3)) (h : x < 0) (k : own_G p e below s Q K N (T.setTop (mkF m (pc + 3) Ls rest))) : own_G p e below s Q K N (T.setTop (mkF m pc Ls (.int x :: rest))) :=
  own_go (fun _ k => XS.ifNo X.here hx rfl hd rfl ((if0 _ _).trans (tlt h).2.1) k) k
theorem own_if_ge (X : Stand p l e R s m args below meth c T locs cells slots) (hx : p.tables.exec = Jvm.exec) {pc pc' : Nat} {Ls : Array Slot} {rest : List Value} {o : Int} {x : Int32} (hd : decode c.code pc = .ok (.ifCond .ge o, 3)) (ho : 0 ≤ (pc : Int) + o) (hp : ((pc : Int) + o).toNat = pc') (ky : ¬ (x < 0) → own_G p e below s Q K N (T.setTop (mkF m pc' Ls rest))) (kn : x < 0 → own_G p e below s Q K N (T.setTop (mkF m (pc + 3) Ls rest))) : own_G p e below s Q K N (T.setTop (mkF m pc Ls (.int x :: rest))) := by
  by_cases h : x < 0
  · exact own_if_geN X hx hd h (kn h)
  · exact own_if_geY X hx hd ho hp h (ky h)
theorem own_ic_gtY (X : Stand p l e R s m args below meth c T locs cells slots) (hx : p.tables.exec = Jvm.exec) {pc pc' : Nat} {Ls : Array Slot} {rest : List Value} {o : Int} {x y : Int32} (hd : decode c.code pc = .ok (.if_icmp .gt o, 3)) (ho : 0 ≤ (pc : Int) + o) (hp : ((pc : Int) + o).toNat = pc') (h : y < x) (k : own_G p e below s Q K N (T.setTop (mkF m pc' Ls rest))) : own_G p e below s Q K N (T.setTop (mkF m pc Ls (.int y :: .int x :: rest))) :=
  own_go (fun _ k => XS.icmpYes X.here hx rfl (pc0 := pc) (pc' := pc') rfl hd rfl (tlt h).2.2.1 ho hp k) k
theorem own_ic_gtN (X : Stand p l e R s m args below meth c T locs cells slots) (hx : p.tables.exec = Jvm.exec) {pc : Nat} {Ls : Array Slot} {rest : List Value} {o : Int} {x y : Int32} (hd : decode c.code pc = .ok (.if_icmp .gt o, 3)) (h : ¬ (y < x)) (k : own_G p e below s Q K N (T.setTop (mkF m (pc + 3) Ls rest))) : own_G p e below s Q K N (T.setTop (mkF m pc Ls (.int y :: .int x :: rest))) :=
  own_go (fun _ k => XS.icmpNo X.here hx rfl hd rfl (flt h).2.2.1 k) k
theorem own_ic_gt (X : Stand p l e R s m args below meth c T locs cells slots) (hx : p.tables.exec = Jvm.exec) {pc pc' : Nat} {Ls : Array Slot} {rest : List Value} {o : Int} {x y : Int32} (hd : decode c.code pc = .ok (.if_icmp .gt o, 3)) (ho : 0 ≤ (pc : Int) + o) (hp : ((pc : Int) + o).toNat = pc') (ky : y < x → own_G p e below s Q K N (T.setTop (mkF m pc' Ls rest))) (kn : ¬ (y < x) → own_G p e below s Q K N (T.setTop (mkF m (pc + 3) Ls rest))) : own_G p e below s Q K N (T.setTop (mkF m pc Ls (.int y :: .int x :: rest))) := by
  by_cases h : y < x
  · exact own_ic_gtY X hx hd ho hp h (ky h)
  · exact own_ic_gtN X hx hd h (kn h)
theorem own_if_gtY (X : Stand p l e R s m args below meth c T locs cells slots) (hx : p.tables.exec = Jvm.exec) {pc pc' : Nat} {Ls : Array Slot} {rest : List Value} {o : Int} {x : Int32} (hd : decode c.code pc = .ok (.ifCond .gt o, 3)) (ho : 0 ≤ (pc : Int) + o) (hp : ((pc : Int) + o).toNat = pc') (h : 0 < x) (k : own_G p e below s Q K N (T.setTop (mkF m pc' Ls rest))) : own_G p e below s Q K N (T.setTop (mkF m pc Ls (.int x :: rest))) :=
  own_go (fun _ k => XS.ifYes X.here hx rfl (pc0 := pc) (pc' := pc') rfl hd rfl ((if0 _ _).trans (tlt h).2.2.1) ho hp k) k
theorem own_if_gtN (X : Stand p l e R s m args below meth c T locs cells slots) (hx : p.tables.exec = Jvm.exec) {pc : Nat} {Ls : Array Slot} {rest : List Value} {o : Int} {x : Int32} (hd : decode c.code pc = .ok (.ifCond .gt o, 3)) (h : ¬ (0 < x)) (k : own_G p e below s Q K N (T.setTop (mkF m (pc + 3) Ls rest))) : own_G p e below s Q K N (T.setTop (mkF m pc Ls (.int x :: rest))) :=
  own_go (fun _ k => XS.ifNo X.here hx rfl hd rfl ((if0 _ _).trans (flt h).2.2.1) k) k
theorem own_if_gt (X : Stand p l e R s m args below meth c T locs cells slots) (hx : p.tables.exec = Jvm.exec) {pc pc' : Nat} {Ls : Array Slot} {rest : List Value} {o : Int} {x : Int32} (hd : decode c.code pc = .ok (.ifCond .gt o, 3)) (ho : 0 ≤ (pc : Int) + o) (hp : ((pc : Int) + o).toNat = pc') (ky : 0 < x → own_G p e below s Q K N (T.setTop (mkF m pc' Ls rest))) (kn : ¬ (0 < x) → own_G p e below s Q K N (T.setTop (mkF m (pc + 3) Ls rest))) : own_G p e below s Q K N (T.setTop (mkF m pc Ls (.int x :: rest))) := by
  by_cases h : 0 < x
  · exact own_if_gtY X hx hd ho hp h (ky h)
  · exact own_if_gtN X hx hd h (kn h)
theorem own_ic_leY (X : Stand p l e R s m args below meth c T locs cells slots) (hx : p.tables.exec = Jvm.exec) {pc pc' : Nat} {Ls : Array Slot} {rest : List Value} {o : Int} {x y : Int32} (hd : decode c.code pc = .ok (.if_icmp .le o, 3)) (ho : 0 ≤ (pc : Int) + o) (hp : ((pc : Int) + o).toNat = pc') (h : ¬ (y < x)) (k : own_G p e below s Q K N (T.setTop (mkF m pc' Ls rest))) : own_G p e below s Q K N (T.setTop (mkF m pc Ls (.int y :: .int x :: rest))) :=
  own_go (fun _ k => XS.icmpYes X.here hx rfl (pc0 := pc) (pc' := pc') rfl hd rfl (flt h).2.2.2 ho hp k) k
theorem own_ic_leN (X : Stand p l e R s m args below meth c T locs cells slots) (hx : p.tables.exec = Jvm.exec) {pc : Nat} {Ls : Array Slot} {rest : List Value} {o : Int} {x y : Int32} (hd : decode c.code pc = .ok (.if_icmp .le o, 3)) (h : y < x) (k : own_G p e below s Q K N (T.setTop (mkF m (pc + 3) Ls rest))) : own_G p e below s Q K N (T.setTop (mkF m pc Ls (.int y :: .int x :: rest))) :=
  own_go (fun _ k => XS.icmpNo X.here hx rfl hd rfl (tlt h).2.2.2 k) k
theorem own_ic_le (X : Stand p l e R s m args below meth c T locs cells slots) (hx : p.tables.exec = Jvm.exec) {pc pc' : Nat} {Ls : Array Slot} {rest : List Value} {o : Int} {x y : Int32} (hd : decode c.code pc = .ok (.if_icmp .le o, 3)) (ho : 0 ≤ (pc : Int) + o) (hp : ((pc : Int) + o).toNat = pc') (ky : ¬ (y < x) → own_G p e below s Q K N (T.setTop (mkF m pc' Ls rest))) (kn : y < x → own_G p e below s Q K N (T.setTop (mkF m (pc + 3) Ls rest))) : own_G p e below s Q K N (T.setTop (mkF m pc Ls (.int y :: .int x :: rest))) := by
  by_cases h : y < x
  · exact own_ic_leN X hx hd h (kn h)
  · exact own_ic_leY X hx hd ho hp h (ky h)
theorem own_if_leY (X : Stand p l e R s m args below meth c T locs cells slots) (hx : p.tables.exec = Jvm.exec) {pc pc' : Nat} {Ls : Array Slot} {rest : List Value} {o : Int} {x : Int32} (hd : decode c.code pc = .ok (.ifCond .le o, 3)) (ho : 0 ≤ (pc : Int) + o) (hp : ((pc : Int) + o).toNat = pc') (h : ¬ (0 < x)) (k : own_G p e below s Q K N (T.setTop (mkF m pc' Ls rest))) : own_G p e below s Q K N (T.setTop (mkF m pc Ls (.int x :: rest))) :=
  own_go (fun _ k => XS.ifYes X.here hx rfl (pc0 := pc) (pc' := pc') rfl hd rfl ((if0 _ _).trans (flt h).2.2.2) ho hp k) k
theorem own_if_leN (X : Stand p l e R s m args below meth c T locs cells slots) (hx : p.tables.exec = Jvm.exec) {pc : Nat} {Ls : Array Slot} {rest : List Value} {o : Int} {x : Int32} (hd : decode c.code pc = .ok (.ifCond .le o, 3)) (h : 0 < x) (k : own_G p e below s Q K N (T.setTop (mkF m (pc + 3) Ls rest))) : own_G p e below s Q K N (T.setTop (mkF m pc Ls (.int x :: rest))) :=
  own_go (fun _ k => XS.ifNo X.here hx rfl hd rfl ((if0 _ _).trans (tlt h).2.2.2) k) k
theorem own_if_le (X : Stand p l e R s m args below meth c T locs cells slots) (hx : p.tables.exec = Jvm.exec) {pc pc' : Nat} {Ls : Array Slot} {rest : List Value} {o : Int} {x : Int32} (hd : decode c.code pc = .ok (.ifCond .le o, 3)) (ho : 0 ≤ (pc : Int) + o) (hp : ((pc : Int) + o).toNat = pc') (ky : ¬ (0 < x) → own_G p e below s Q K N (T.setTop (mkF m pc' Ls rest))) (kn : 0 < x → own_G p e below s Q K N (T.setTop (mkF m (pc + 3) Ls rest))) : own_G p e below s Q K N (T.setTop (mkF m pc Ls (.int x :: rest))) := by
  by_cases h : 0 < x
  · exact own_if_leN X hx hd h (kn h)
  · exact own_if_leY X hx hd ho hp h (ky h)
theorem own_ic_eqY (X : Stand p l e R s m args below meth c T locs cells slots) (hx : p.tables.exec = Jvm.exec) {pc pc' : Nat} {Ls : Array Slot} {rest : List Value} {o : Int} {x y : Int32} (hd : decode c.code pc = .ok (.if_icmp .eq o, 3)) (ho : 0 ≤ (pc : Int) + o) (hp : ((pc : Int) + o).toNat = pc') (h : x = y) (k : own_G p e below s Q K N (T.setTop (mkF m pc' Ls rest))) : own_G p e below s Q K N (T.setTop (mkF m pc Ls (.int y :: .int x :: rest))) :=
  own_go (fun _ k => XS.icmpYes X.here hx rfl (pc0 := pc) (pc' := pc') rfl hd rfl (teq h).1 ho hp k) k
theorem own_ic_eqN (X : Stand p l e R s m args below meth c T locs cells slots) (hx : p.tables.exec = Jvm.exec) {pc : Nat} {Ls : Array Slot} {rest : List Value} {o : Int} {x y : Int32} (hd : decode c.code pc = .ok (.if_icmp .eq o, 3)) (h : ¬ (x = y)) (k : own_G p e below s Q K N (T.setTop (mkF m (pc + 3) Ls rest))) : own_G p e below s Q K N (T.setTop (mkF m pc Ls (.int y :: .int x :: rest))) :=
  own_go (fun _ k => XS.icmpNo X.here hx rfl hd rfl (feq h).1 k) k
theorem own_ic_eq (X : Stand p l e R s m args below meth c T locs cells slots) (hx : p.tables.exec = Jvm.exec) {pc pc' : Nat} {Ls : Array Slot} {rest : List Value} {o : Int} {x y : Int32} (hd : decode c.code pc = .ok (.if_icmp .eq o, 3)) (ho : 0 ≤ (pc : Int) + o) (hp : ((pc : Int) + o).toNat = pc') (ky : x = y → own_G p e below s Q K N (T.setTop (mkF m pc' Ls rest))) (kn : ¬ (x = y) → own_G p e below s Q K N (T.setTop (mkF m (pc + 3) Ls rest))) : own_G p e below s Q K N (T.setTop (mkF m pc Ls (.int y :: .int x :: rest))) := by
  by_cases h : x = y
  · exact own_ic_eqY X hx hd ho hp h (ky h)
  · exact own_ic_eqN X hx hd h (kn h)
theorem own_if_eqY (X : Stand p l e R s m args below meth c T locs cells slots) (hx : p.tables.exec = Jvm.exec) {pc pc' : Nat} {Ls : Array Slot} {rest : List Value} {o : Int} {x : Int32} (hd : decode c.code pc = .ok (.ifCond .eq o, 3)) (ho : 0 ≤ (pc : Int) + o) (hp : ((pc : Int) + o).toNat = pc') (h : x = 0) (k : own_G p e below s Q K N (T.setTop (mkF m pc' Ls rest))) : own_G p e below s Q K N (T.setTop (mkF m pc Ls (.int x :: rest))) :=
  own_go (fun _ k => XS.ifYes X.here hx rfl (pc0 := pc) (pc' := pc') rfl hd rfl ((if0 _ _).trans (teq h).1) ho hp k) k
theorem own_if_eqN (X : Stand p l e R s m args below meth c T locs cells slots) (hx : p.tables.exec = Jvm.exec) {pc : Nat} {Ls : Array Slot} {rest : List Value} {o : Int} {x : Int32} (hd : decode c.code pc = .ok (.ifCond .eq o, 3)) (h : ¬ (x = 0)) (k : own_G p e below s Q K N (T.setTop (mkF m (pc + 3) Ls rest))) : own_G p e below s Q K N (T.setTop (mkF m pc Ls (.int x :: rest))) :=
  own_go (fun _ k => XS.ifNo X.here hx rfl hd rfl ((if0 _ _).trans (feq h).1) k) k
theorem own_if_eq (X : Stand p l e R s m args below meth c T locs cells slots) (hx : p.tables.exec = Jvm.exec) {pc pc' : Nat} {Ls : Array Slot} {rest : List Value} {o : Int} {x : Int32} (hd : decode c.code pc = .ok (.ifCond .eq o, 3)) (ho : 0 ≤ (pc : Int) + o) (hp : ((pc : Int) + o).toNat = pc') (ky : x = 0 → own_G p e below s Q K N (T.setTop (mkF m pc' Ls rest))) (kn : ¬ (x = 0) → own_G p e below s Q K N (T.setTop (mkF m (pc + 3) Ls rest))) : own_G p e below s Q K N (T.setTop (mkF m pc Ls (.int x :: rest))) := by
  by_cases h : x = 0
  · exact own_if_eqY X hx hd ho hp h (ky h)
  · exact own_if_eqN X hx hd h (kn h)
theorem own_ic_neY (X : Stand p l e R s m args below meth c T locs cells slots) (hx : p.tables.exec = Jvm.exec) {pc pc' : Nat} {Ls : Array Slot} {rest : List Value} {o : Int} {x y : Int32} (hd : decode c.code pc = .ok (.if_icmp .ne o, 3)) (ho : 0 ≤ (pc : Int) + o) (hp : ((pc : Int) + o).toNat = pc') (h : ¬ (x = y)) (k : own_G p e below s Q K N (T.setTop (mkF m pc' Ls rest))) : own_G p e below s Q K N (T.setTop (mkF m pc Ls (.int y :: .int x :: rest))) :=
  own_go (fun _ k => XS.icmpYes X.here hx rfl (pc0 := pc) (pc' := pc') rfl hd rfl (feq h).2 ho hp k) k
theorem own_ic_neN (X : Stand p l e R s m args below meth c T locs cells slots) (hx : p.tables.exec = Jvm.exec) {pc : Nat} {Ls : Array Slot} {rest : List Value} {o : Int} {x y : Int32} (hd : decode c.code pc = .ok (.if_icmp .ne o, 3)) (h : x = y) (k : own_G p e below s Q K N (T.setTop (mkF m (pc + 3) Ls rest))) : own_G p e below s Q K N (T.setTop (mkF m pc Ls (.int y :: .int x :: rest))) :=
  own_go (fun _ k => XS.icmpNo X.here hx rfl hd rfl (teq h).2 k) k
theorem own_ic_ne (X : Stand p l e R s m args below meth c T locs cells slots) (hx : p.tables.exec = Jvm.exec) {pc pc' : Nat} {Ls : Array Slot} {rest : List Value} {o : Int} {x y : Int32} (hd : decode c.code pc = .ok (.if_icmp .ne o, 3)) (ho : 0 ≤ (pc : Int) + o) (hp : ((pc : Int) + o).toNat = pc') (ky : ¬ (x = y) → own_G p e below s Q K N (T.setTop (mkF m pc' Ls rest))) (kn : x = y → own_G p e below s Q K N (T.setTop (mkF m (pc + 3) Ls rest))) : own_G p e below s Q K N (T.setTop (mkF m pc Ls (.int y :: .int x :: rest))) := by
  by_cases h : x = y
  · exact own_ic_neN X hx hd h (kn h)
  · exact own_ic_neY X hx hd ho hp h (ky h)
theorem own_if_neY (X : Stand p l e R s m args below meth c T locs cells slots) (hx : p.tables.exec = Jvm.exec) {pc pc' : Nat} {Ls : Array Slot} {rest : List Value} {o : Int} {x : Int32} (hd : decode c.code pc = .ok (.ifCond .ne o, 3)) (ho : 0 ≤ (pc : Int) + o) (hp : ((pc : Int) + o).toNat = pc') (h : ¬ (x = 0)) (k : own_G p e below s Q K N (T.setTop (mkF m pc' Ls rest))) : own_G p e below s Q K N (T.setTop (mkF m pc Ls (.int x :: rest))) :=
  own_go (fun _ k => XS.ifYes X.here hx rfl (pc0 := pc) (pc' := pc') rfl hd rfl ((if0 _ _).trans (feq h).2) ho hp k) k
theorem own_if_neN (X : Stand p l e R s m args below meth c T locs cells slots) (hx : p.tables.exec = Jvm.exec) {pc : Nat} {Ls : Array Slot} {rest : List Value} {o : Int} {x : Int32} (hd : decode c.code pc = .ok (.ifCond .ne o, 3)) (h : x = 0) (k : own_G p e below s Q K N (T.setTop (mkF m (pc + 3) Ls rest))) : own_G p e below s Q K N (T.setTop (mkF m pc Ls (.int x :: rest))) :=
  own_go (fun _ k => XS.ifNo X.here hx rfl hd rfl ((if0 _ _).trans (teq h).2) k) k
theorem own_if_ne (X : Stand p l e R s m args below meth c T locs cells slots) (hx : p.tables.exec = Jvm.exec) {pc pc' : Nat} {Ls : Array Slot} {rest : List Value} {o : Int} {x : Int32} (hd : decode c.code pc = .ok (.ifCond .ne o, 3)) (ho : 0 ≤ (pc : Int) + o) (hp : ((pc : Int) + o).toNat = pc') (ky : ¬ (x = 0) → own_G p e below s Q K N (T.setTop (mkF m pc' Ls rest))) (kn : x = 0 → own_G p e below s Q K N (T.setTop (mkF m (pc + 3) Ls rest))) : own_G p e below s Q K N (T.setTop (mkF m pc Ls (.int x :: rest))) := by
  by_cases h : x = 0
  · exact own_if_neN X hx hd h (kn h)
  · exact own_if_neY X hx hd ho hp h (ky h)
theorem own_nar1 : nar .boolean (1 : Int32) = 1 := rfl
theorem own_nar0 : nar .boolean (0 : Int32) = 0 := rfl
theorem own_mask (x : Int32) (k : Nat) (hk : k < 2147483648) : ∃ n : Nat, n ≤ k ∧ (x &&& Int32.ofNat k) = Int32.ofNat n := by
  refine ⟨(x &&& Int32.ofNat k).toBitVec.toNat, ?_, ?_⟩
  · have h : (Int32.ofNat k).toBitVec.toNat = k := by
      show (BitVec.ofNat 32 k).toNat = k
      rw [BitVec.toNat_ofNat]; omega
    simp only [Int32.toBitVec_and, BitVec.toNat_and, h]
    exact Nat.and_le_right
  · apply Int32.toBitVec_inj.mp
    show _ = BitVec.ofNat 32 _
    rw [BitVec.ofNat_toNat]; simp
end OwnKit
end Jvm.Pilot.@@N@@
/- laws to paste: Road.backV (cut by pick.py; bodies as the Statement names them) -/
namespace Jvm.Pilot.@@N@@
namespace StrChars
open Jvm Sem ClassFile Op Lib Jvm.Stand Jvm.Free.XT Jvm.Free.ALB Jvm.Free.JM Jvm.Free
open Jvm.Lib.Cold (StaticIs)
/-- a char array whose places are chars -/
def Ch (a : Addr) (A : Cell) (U : State) : Prop := Arr .char a A U ∧ Typed .char A
theorem Ch.mv {a : Addr} {A : Cell} {U U' : State} (h : Ch a A U) (hal : U.vm.Alike U'.vm) (hh : U'.heap = U.heap) : Ch a A U' := ⟨h.1.mv hal hh, h.2⟩
theorem Ch.keep {a : Addr} {A : Cell} {U U' : State} (h : Ch a A U) (hal : U.vm.Alike U'.vm) (hk : U'.heap[a]? = some A) : Ch a A U' := ⟨h.1.keep hal hk, h.2⟩
/-- what place i of a char[]'s cell holds -/
def cv (A : Cell) (i : Nat) : Int32 := match A.slots[i]? with | some (.int x) => x | _ => 0
theorem Ch.get {a : Addr} {A : Cell} {U : State} (h : Ch a A U) {i : Nat} (hi : i < A.slots.size) : A.slots[i]? = some (.int (cv A i)) := by
  have e := Array.getElem?_eq_getElem hi
  have f := h.2 i _ e
  unfold cv; rw [e]
  generalize A.slots[i] = v at f
  cases v <;> simp [fits] at f ⊢
/-- the byte that i2b leaves of a char -/
def lo8 (x : Int32) : Int32 := x.toInt8.toInt32
theorem fits_lo8 (y : Int32) : fits .byte (.int (lo8 y)) = true := by
  have h1 := y.toInt8.le_toInt
  have h2 := y.toInt8.toInt_lt
  simp only [lo8, fits, Bool.and_eq_true, decide_eq_true_eq, Int32.le_iff_toInt_le, Int8.toInt_toInt32, show (-128 : Int32).toInt = -128 from by decide, show (127 : Int32).toInt = 127 from by decide]
  omega
/-- A' is A but that each place j of lo .. hi - 1 holds f j -/
def Laid (A A' : Cell) (lo hi : Nat) (f : Nat → Value) : Prop := A'.cls = A.cls ∧ A'.vm = A.vm ∧ A'.slots.size = A.slots.size ∧ ∀ i, A'.slots[i]? = if lo ≤ i ∧ i < hi then some (f i) else A.slots[i]?
theorem Laid.zero (A : Cell) (lo : Nat) (f : Nat → Value) : Laid A A lo (lo + 0) f := ⟨rfl, rfl, rfl, fun i => by rw [if_neg (by omega)]⟩
theorem Laid.step {A Ak : Cell} {lo k : Nat} {f : Nat → Value} {v : Value} (h : Laid A Ak lo k f) (hlo : lo ≤ k) (hk : k < Ak.slots.size) (hv : v = f k) : Laid A (Ak.setSlot k v) lo (k + 1) f := by
  refine ⟨h.1, h.2.1, by simpa [Cell.setSlot] using h.2.2.1, fun i => ?_⟩
  by_cases e : k = i
  · subst e; rw [Cell.slots_setSlot_self v hk, if_pos (by omega), hv]
  · rw [Cell.slots_setSlot_ne v e, h.2.2.2 i]
    by_cases q : lo ≤ i ∧ i < k
    · rw [if_pos q, if_pos (by omega)]
    · rw [if_neg q, if_neg (by omega)]
def U16 : String := "java/lang/StringUTF16"
namespace Cmp5
def yN : MethodName := ⟨"java/lang/StringUTF16", "compress", "([CI[BII)I"⟩
abbrev yB : ByteArray := jdk_52_method_21_code
theorem d0 : decode yB 0 = .ok (.iconst 0, 1) := by decide +kernel
theorem d1 : decode yB 1 = .ok (.istore 5, 2) := by decide +kernel
theorem d3 : decode yB 3 = .ok (.iload 5, 2) := by decide +kernel
theorem d5 : decode yB 5 = .ok (.iload 4, 2) := by decide +kernel
theorem d7 : decode yB 7 = .ok (.if_icmp (.ge) 37, 3) := by decide +kernel
theorem d10 : decode yB 10 = .ok (.aload_n 0, 1) := by decide +kernel
theorem d11 : decode yB 11 = .ok (.iload_n 1, 1) := by decide +kernel
theorem d12 : decode yB 12 = .ok (.caload, 1) := by decide +kernel
theorem d13 : decode yB 13 = .ok (.istore 6, 2) := by decide +kernel
theorem d15 : decode yB 15 = .ok (.iload 6, 2) := by decide +kernel
theorem d17 : decode yB 17 = .ok (.sipush 255, 3) := by decide +kernel
theorem d20 : decode yB 20 = .ok (.if_icmp (.le) 6, 3) := by decide +kernel
theorem d26 : decode yB 26 = .ok (.aload_n 2, 1) := by decide +kernel
theorem d27 : decode yB 27 = .ok (.iload_n 3, 1) := by decide +kernel
theorem d28 : decode yB 28 = .ok (.iload 6, 2) := by decide +kernel
theorem d30 : decode yB 30 = .ok (.i2b, 1) := by decide +kernel
theorem d31 : decode yB 31 = .ok (.bastore, 1) := by decide +kernel
theorem d32 : decode yB 32 = .ok (.iinc 1 1, 3) := by decide +kernel
theorem d35 : decode yB 35 = .ok (.iinc 3 1, 3) := by decide +kernel
theorem d38 : decode yB 38 = .ok (.iinc 5 1, 3) := by decide +kernel
theorem d41 : decode yB 41 = .ok (.goto (-38), 3) := by decide +kernel
theorem d44 : decode yB 44 = .ok (.iload 4, 2) := by decide +kernel
theorem d46 : decode yB 46 = .ok (.ireturn, 1) := by decide +kernel
def site : List Cond := []
def tab : Cond := tabOf yN yB 7 (some .int) site
def P (b : Addr) (A : Cell) (d : Addr) (B : Cell) (o q len : Nat) (args : Array Value) (s : State) : Prop := args = #[.ref b, .int (Int32.ofNat o), .ref d, .int (Int32.ofNat q), .int (Int32.ofNat len)] ∧ Ch b A s ∧ Arr .byte d B s ∧ b ≠ d ∧ o + len ≤ A.slots.size ∧ q + len ≤ B.slots.size ∧ ∀ i, i < len → ¬ 255 < cv A (o + i)
def E (b : Addr) (A : Cell) (d : Addr) (B : Cell) (o q len : Nat) (r : Option Value) (s u : State) : Prop := r = some (.int (Int32.ofNat len)) ∧ ∃ B', Put d B' s u ∧ Laid B B' q (q + len) (fun j => Value.int (lo8 (cv A (o + (j - q)))))
/-- no char of the range above 255: len; the places written hold each char's low byte -/
theorem law (l : Launch) (b : Addr) (A : Cell) (d : Addr) (B : Cell) (o q len : Nat) : Law l yN 5 5 0 0 yB 7 (some .int) site (P b A d B o q len) (E b A d B o q len) (copyLocs d q len) 0 0 := by
  refine Law.of_walk (plainFor_of_name (by decide +kernel)) (by decide +kernel) (by decide +kernel) (by decide) (fun _ _ h => by rw [h.1]; rfl) (fun _ U U' hal hh h => ⟨h.1, h.2.1.mv hal hh, h.2.2.1.mv hal hh, h.2.2.2⟩) (fun r U U' V V' h1 hal h2 h => ⟨h.1, h.2.elim fun B' q => ⟨B', q.1.mv h1 h2, q.2⟩⟩) ?_
  intro p e s m args below meth c s₁ X0 hexec hbytes hml hret hlk hnm hown hh0 W hP
  obtain ⟨rfl, hA, hB, hne, l1, l2, hp⟩ := hP
  have c1 : Steps p.tables e below (s₁.setTop (entryFrame m #[.ref b, .int (Int32.ofNat o), .ref d, .int (Int32.ofNat q), .int (Int32.ofNat len)] 7)) (s₁.setTop (mkF m 0 #[.val (.ref b), .val (.int (Int32.ofNat o)), .val (.ref d), .val (.int (Int32.ofNat q)), .val (.int (Int32.ofNat len)), .unset, .unset] [])) := entry rfl
  have hA0 := hA.1.mv X0.warmed.alike hh0
  have hB0 := hB.mv X0.warmed.alike hh0
  have a31 := hA.1.2.2.2
  have c2 : Steps p.tables e below (s₁.setTop (entryFrame m #[.ref b, .int (Int32.ofNat o), .ref d, .int (Int32.ofNat q), .int (Int32.ofNat len)] 7)) (s₁.setTop (mkF m 3 #[.val (.ref b), .val (.int (Int32.ofNat o)), .val (.ref d), .val (.int (Int32.ofNat q)), .val (.int (Int32.ofNat len)), .val (.int 0), .unset] [])) := c1.trans (by
    refine iconstV X0.here hexec rfl 0 (hb hbytes d0) (by decide) ?_
    refine XS.istore X0.here hexec rfl (hb hbytes d1) rfl rfl ?_
    exact Steps.refl _)
  have loop : ∀ (r i : Nat), i + r = len → ∀ (z : Slot), (z = .unset ∨ ∃ w, z = .val w ∧ w.category = 1) → ∀ (Tl : State) (Bk : Cell), Stand p l e { frames := 0, locals := 0, cells := 0, slots := 0 } s m #[.ref b, .int (Int32.ofNat o), .ref d, .int (Int32.ofNat q), .int (Int32.ofNat len)] below meth c Tl ([] ++ copyLocs d q i) 0 0 → Put d Bk s₁ Tl → Laid B Bk q (q + i) (fun j => Value.int (lo8 (cv A (o + (j - q))))) →
      Steps p.tables e below (s₁.setTop (entryFrame m #[.ref b, .int (Int32.ofNat o), .ref d, .int (Int32.ofNat q), .int (Int32.ofNat len)] 7)) (Tl.setTop (mkF m 3 #[.val (.ref b), .val (.int (Int32.ofNat (o + i))), .val (.ref d), .val (.int (Int32.ofNat (q + i))), .val (.int (Int32.ofNat len)), .val (.int (Int32.ofNat i)), z] [])) → ∃ (T' : State) (B' : Cell) (z' : Slot), Stand p l e { frames := 0, locals := 0, cells := 0, slots := 0 } s m #[.ref b, .int (Int32.ofNat o), .ref d, .int (Int32.ofNat q), .int (Int32.ofNat len)] below meth c T' ([] ++ copyLocs d q len) 0 0 ∧ Put d B' s₁ T' ∧ Laid B B' q (q + len) (fun j => Value.int (lo8 (cv A (o + (j - q))))) ∧
      Steps p.tables e below (s₁.setTop (entryFrame m #[.ref b, .int (Int32.ofNat o), .ref d, .int (Int32.ofNat q), .int (Int32.ofNat len)] 7)) (T'.setTop (mkF m 3 #[.val (.ref b), .val (.int (Int32.ofNat (o + len))), .val (.ref d), .val (.int (Int32.ofNat (q + len))), .val (.int (Int32.ofNat len)), .val (.int (Int32.ofNat len)), z'] [])) := by
    intro r
    induction r with
    | zero =>
      intro i hi z hz Tl Bk Xl pl fl cl
      have hil : i = len := by omega
      rw [hil] at Xl fl cl
      exact ⟨Tl, Bk, z, Xl, pl, fl, cl⟩
    | succ r ih =>
      intro i hi z hz Tl Bk Xl pl fl cl
      have all := X0.warmed.alike.symm.trans Xl.warmed.alike
      have hAl := hA0.keep all (pl.other hne hA0.1)
      have hBk := hB0.like all pl.1 fl.1 fl.2.1 fl.2.2.1
      have hlt : q + i < Bk.slots.size := by rw [fl.2.2.1]; omega
      have c3 : Steps p.tables e below (s₁.setTop (entryFrame m #[.ref b, .int (Int32.ofNat o), .ref d, .int (Int32.ofNat q), .int (Int32.ofNat len)] 7)) (Tl.setTop (mkF m 12 #[.val (.ref b), .val (.int (Int32.ofNat (o + i))), .val (.ref d), .val (.int (Int32.ofNat (q + i))), .val (.int (Int32.ofNat len)), .val (.int (Int32.ofNat i)), z] [.int (Int32.ofNat (o + i)), .ref b])) := cl.trans (by
        refine XS.iload Xl.here hexec rfl (hb hbytes d3) rfl ?_
        refine XS.iload Xl.here hexec rfl (hb hbytes d5) rfl ?_
        refine XS.icmpNo Xl.here hexec rfl (hb hbytes d7) rfl (ii_ge_f (lt32 (by omega) (by omega))) ?_
        refine XS.aloadN Xl.here hexec rfl (hb hbytes d10) rfl rfl ?_
        refine XS.iloadN Xl.here hexec rfl (hb hbytes d11) rfl ?_
        exact Steps.refl _)
      have c4 : Steps p.tables e below (s₁.setTop (entryFrame m #[.ref b, .int (Int32.ofNat o), .ref d, .int (Int32.ofNat q), .int (Int32.ofNat len)] 7)) (Tl.setTop (mkF m 13 #[.val (.ref b), .val (.int (Int32.ofNat (o + i))), .val (.ref d), .val (.int (Int32.ofNat (q + i))), .val (.int (Int32.ofNat len)), .val (.int (Int32.ofNat i)), z] [.int (cv A (o + i))])) := c3.trans (by
        refine Xl.aget hexec hAl rfl (hA.get (i := o + i) (by omega)) rfl rfl (hb hbytes d12) ?_
        exact Steps.refl _)
      have c5 : Steps p.tables e below (s₁.setTop (entryFrame m #[.ref b, .int (Int32.ofNat o), .ref d, .int (Int32.ofNat q), .int (Int32.ofNat len)] 7)) (Tl.setTop (mkF m 15 #[.val (.ref b), .val (.int (Int32.ofNat (o + i))), .val (.ref d), .val (.int (Int32.ofNat (q + i))), .val (.int (Int32.ofNat len)), .val (.int (Int32.ofNat i)), .val (.int (cv A (o + i)))] [])) := c4.trans (by
        refine XS.istoreS Xl.here hexec rfl (hb hbytes d13) rfl rfl hz ?_
        exact Steps.refl _)
      have c6 : Steps p.tables e below (s₁.setTop (entryFrame m #[.ref b, .int (Int32.ofNat o), .ref d, .int (Int32.ofNat q), .int (Int32.ofNat len)] 7)) (Tl.setTop (mkF m 31 #[.val (.ref b), .val (.int (Int32.ofNat (o + i))), .val (.ref d), .val (.int (Int32.ofNat (q + i))), .val (.int (Int32.ofNat len)), .val (.int (Int32.ofNat i)), .val (.int (cv A (o + i)))] [.int (lo8 (cv A (o + i))), .int (Int32.ofNat (q + i)), .ref d])) := c5.trans (by
        refine XS.iload Xl.here hexec rfl (hb hbytes d15) rfl ?_
        refine sipushV Xl.here hexec rfl 255 (hb hbytes d17) (by decide) ?_
        refine XS.icmpYes Xl.here hexec rfl (pc0 := 20) rfl (hb hbytes d20) rfl (ii_le_t (hp i (by omega))) (by decide) rfl ?_
        refine XS.aloadN Xl.here hexec rfl (hb hbytes d26) rfl rfl ?_
        refine XS.iloadN Xl.here hexec rfl (hb hbytes d27) rfl ?_
        refine XS.iload Xl.here hexec rfl (hb hbytes d28) rfl ?_
        refine i2b Xl.here hexec rfl (hb hbytes d30) rfl ?_
        exact Steps.refl _)
      obtain ⟨T7, X7, p7, st7⟩ := Xl.aput hexec hBk rfl hlt rfl (fits_lo8 (cv A (o + i))) (g := (mkF m 31 #[.val (.ref b), .val (.int (Int32.ofNat (o + i))), .val (.ref d), .val (.int (Int32.ofNat (q + i))), .val (.int (Int32.ofNat len)), .val (.int (Int32.ofNat i)), .val (.int (cv A (o + i)))] [.int (lo8 (cv A (o + i))), .int (Int32.ofNat (q + i)), .ref d])) rfl (rest := []) rfl (hb hbytes d31)
      have c8 : Steps p.tables e below (s₁.setTop (entryFrame m #[.ref b, .int (Int32.ofNat o), .ref d, .int (Int32.ofNat q), .int (Int32.ofNat len)] 7)) (T7.setTop (mkF m 32 #[.val (.ref b), .val (.int (Int32.ofNat (o + i))), .val (.ref d), .val (.int (Int32.ofNat (q + i))), .val (.int (Int32.ofNat len)), .val (.int (Int32.ofNat i)), .val (.int (cv A (o + i)))] [])) := c6.trans (st7 _ (Steps.refl _))
      have c9 : Steps p.tables e below (s₁.setTop (entryFrame m #[.ref b, .int (Int32.ofNat o), .ref d, .int (Int32.ofNat q), .int (Int32.ofNat len)] 7)) (T7.setTop (mkF m 3 #[.val (.ref b), .val (.int (Int32.ofNat (o + i) + 1)), .val (.ref d), .val (.int (Int32.ofNat (q + i) + 1)), .val (.int (Int32.ofNat len)), .val (.int (Int32.ofNat i + 1)), .val (.int (cv A (o + i)))] [])) := c8.trans (by
        refine iincV X7.here hexec rfl 1 (hb hbytes d32) (by decide) rfl rfl ?_
        refine iincV X7.here hexec rfl 1 (hb hbytes d35) (by decide) rfl rfl ?_
        refine iincV X7.here hexec rfl 1 (hb hbytes d38) (by decide) rfl rfl ?_
        refine XS.goto X7.here hexec rfl (pc0 := 41) rfl (hb hbytes d41) (by decide) rfl ?_
        exact Steps.refl _)
      have c10 : Steps p.tables e below (s₁.setTop (entryFrame m #[.ref b, .int (Int32.ofNat o), .ref d, .int (Int32.ofNat q), .int (Int32.ofNat len)] 7)) (T7.setTop (mkF m 3 #[.val (.ref b), .val (.int (Int32.ofNat (o + (i + 1)))), .val (.ref d), .val (.int (Int32.ofNat (q + (i + 1)))), .val (.int (Int32.ofNat len)), .val (.int (Int32.ofNat (i + 1))), .val (.int (cv A (o + i)))] [])) := by
        have := c9
        rw [succ32, succ32, succ32] at this
        exact this
      exact ih (i + 1) (by omega) _ (Or.inr ⟨_, rfl, rfl⟩) T7 _ (by rw [copyLocs_step, ← List.append_assoc]; exact X7) (pl.trans p7) (fl.step (by omega) hlt (by simp)) c10
  obtain ⟨T9, B9, z9, X9, p9, f9, g9⟩ := loop len 0 (by omega) .unset (Or.inl rfl) s₁ B (by simpa [copyLocs] using X0) ⟨hB0.1, fun _ _ => rfl, rfl⟩ (Laid.zero _ _ _) c2
  have c11 : Steps p.tables e below (s₁.setTop (entryFrame m #[.ref b, .int (Int32.ofNat o), .ref d, .int (Int32.ofNat q), .int (Int32.ofNat len)] 7)) (T9.setTop (mkF m 46 #[.val (.ref b), .val (.int (Int32.ofNat (o + len))), .val (.ref d), .val (.int (Int32.ofNat (q + len))), .val (.int (Int32.ofNat len)), .val (.int (Int32.ofNat len)), z9] [.int (Int32.ofNat len)])) := g9.trans (by
    refine XS.iload X9.here hexec rfl (hb hbytes d3) rfl ?_
    refine XS.iload X9.here hexec rfl (hb hbytes d5) rfl ?_
    refine XS.icmpYes X9.here hexec rfl (pc0 := 7) rfl (hb hbytes d7) rfl (ii_ge_t (nlt32 (by omega) (Nat.le_refl _))) (by decide) rfl ?_
    refine XS.iload X9.here hexec rfl (hb hbytes d44) rfl ?_
    exact Steps.refl _)
  exact ⟨T9, some (.int (Int32.ofNat len)), _, _, _, X9, by simp, rfl, rfl, (fun h => by cases h), ⟨rfl, B9, p9.from hh0, f9⟩, fun fs hl => c11.trans (X9.ireturnOut hexec hret rfl (Or.inl rfl) (hb hbytes d46) hl)⟩
end Cmp5
namespace Cmp3
def yN : MethodName := ⟨"java/lang/StringUTF16", "compress", "([CII)[B"⟩
abbrev yB : ByteArray := jdk_52_method_16_code
theorem d0 : decode yB 0 = .ok (.iload_n 2, 1) := by decide +kernel
theorem d1 : decode yB 1 = .ok (.newarray .byte, 2) := by decide +kernel
theorem d3 : decode yB 3 = .ok (.astore_n 3, 1) := by decide +kernel
theorem d4 : decode yB 4 = .ok (.aload_n 0, 1) := by decide +kernel
theorem d5 : decode yB 5 = .ok (.iload_n 1, 1) := by decide +kernel
theorem d6 : decode yB 6 = .ok (.aload_n 3, 1) := by decide +kernel
theorem d7 : decode yB 7 = .ok (.iconst 0, 1) := by decide +kernel
theorem d8 : decode yB 8 = .ok (.iload_n 2, 1) := by decide +kernel
theorem d9 : decode yB 9 = .ok (.invokestatic 115, 3) := by decide +kernel
theorem d12 : decode yB 12 = .ok (.istore 4, 2) := by decide +kernel
theorem d14 : decode yB 14 = .ok (.iload 4, 2) := by decide +kernel
theorem d16 : decode yB 16 = .ok (.iload_n 2, 1) := by decide +kernel
theorem d17 : decode yB 17 = .ok (.if_icmp (.eq) 40, 3) := by decide +kernel
theorem d57 : decode yB 57 = .ok (.aload_n 3, 1) := by decide +kernel
theorem d58 : decode yB 58 = .ok (.areturn, 1) := by decide +kernel
def site : List Cond := [.arrayClass .byte, Cmp5.tab] ++ staticW U16 115 Cmp5.yN
def tab : Cond := tabOf yN yB 6 (some (.array .byte)) site
def P (b : Addr) (A : Cell) (o len : Nat) (args : Array Value) (s : State) : Prop := args = #[.ref b, .int (Int32.ofNat o), .int (Int32.ofNat len)] ∧ Ch b A s ∧ o + len ≤ A.slots.size ∧ len ≤ 536870912 ∧ ∀ i, i < len → ¬ 255 < cv A (o + i)
def E (b : Addr) (A : Cell) (o len : Nat) (r : Option Value) (s u : State) : Prop := NewArr .byte "[B" len (fun j => .int (lo8 (cv A (o + j)))) r s u ∧ u.heap.size = s.heap.size + 1
/-- no char of the range above 255: a new byte[] of their low bytes -/
theorem law (l : Launch) (b : Addr) (A : Cell) (o len : Nat) : Law l yN 3 3 1 18 yB 6 (some (.array .byte)) site (P b A o len) (E b A o len) [] 1 len := by
  refine Law.of_walk (plainFor_of_name (by decide +kernel)) (by decide +kernel) (by decide +kernel) (by decide) (fun _ _ h => by rw [h.1]; rfl) (fun _ U U' hal hh h => ⟨h.1, h.2.1.mv hal hh, h.2.2⟩) (fun r U U' V V' h1 hal h2 h => ⟨NewArr.mv r U U' V V' h1 hal h2 h.1, by rw [h1, h2]; exact h.2⟩) ?_
  intro p e s m args below meth c s₁ X0 hexec hbytes hml hret hlk hnm hown hh0 W hP
  obtain ⟨rfl, hA, l1, l2, hp⟩ := hP
  have a31 := hA.1.2.2.2
  have c1 : Steps p.tables e below (s₁.setTop (entryFrame m #[.ref b, .int (Int32.ofNat o), .int (Int32.ofNat len)] 6)) (s₁.setTop (mkF m 0 #[.val (.ref b), .val (.int (Int32.ofNat o)), .val (.int (Int32.ofNat len)), .unset, .unset, .unset] [])) := entry rfl
  have c2 : Steps p.tables e below (s₁.setTop (entryFrame m #[.ref b, .int (Int32.ofNat o), .int (Int32.ofNat len)] 6)) (s₁.setTop (mkF m 1 #[.val (.ref b), .val (.int (Int32.ofNat o)), .val (.int (Int32.ofNat len)), .unset, .unset, .unset] [.int (Int32.ofNat len)])) := c1.trans (by
    refine XS.iloadN X0.here hexec rfl (hb hbytes d0) rfl ?_
    exact Steps.refl _)
  obtain ⟨T3, B3, X3, ba3, bs3, bv3, bh3, bf3, st3⟩ := X0.anew hexec (atype := .byte) (wk W (.arrayClass .byte)) rfl (by show len * 1 ≤ _; omega) (by omega) (g := (mkF m 1 #[.val (.ref b), .val (.int (Int32.ofNat o)), .val (.int (Int32.ofNat len)), .unset, .unset, .unset] [.int (Int32.ofNat len)])) rfl (hb hbytes d1) (rest := []) rfl (Nat.le_refl _) (by show 0 + len ≤ len; omega)
  rw [hh0] at ba3 st3
  have kp3 : XT.Kept s T3 := (XT.Kept.of_eq hh0).push bh3
  have hA3 := hA.keep X3.warmed.alike (kp3 _ _ hA.1.1)
  have hne : b ≠ s.heap.size := hA.1.ne
  have c4 : Steps p.tables e below (s₁.setTop (entryFrame m #[.ref b, .int (Int32.ofNat o), .int (Int32.ofNat len)] 6)) (T3.setTop (mkF m 3 #[.val (.ref b), .val (.int (Int32.ofNat o)), .val (.int (Int32.ofNat len)), .unset, .unset, .unset] [.ref s.heap.size])) := c2.trans (st3 _ (Steps.refl _))
  have c5 : Steps p.tables e below (s₁.setTop (entryFrame m #[.ref b, .int (Int32.ofNat o), .int (Int32.ofNat len)] 6)) (T3.setTop (mkF m 9 #[.val (.ref b), .val (.int (Int32.ofNat o)), .val (.int (Int32.ofNat len)), .val (.ref s.heap.size), .unset, .unset] [.int (Int32.ofNat len), .int 0, .ref s.heap.size, .int (Int32.ofNat o), .ref b])) := c4.trans (by
    refine XS.astoreN X3.here hexec rfl (hb hbytes d3) rfl rfl rfl ?_
    refine XS.aloadN X3.here hexec rfl (hb hbytes d4) rfl rfl ?_
    refine XS.iloadN X3.here hexec rfl (hb hbytes d5) rfl ?_
    refine XS.aloadN X3.here hexec rfl (hb hbytes d6) rfl rfl ?_
    refine iconstV X3.here hexec rfl 0 (hb hbytes d7) (by decide) ?_
    refine XS.iloadN X3.here hexec rfl (hb hbytes d8) rfl ?_
    exact Steps.refl _)
  obtain ⟨v6, T6, X6, E6, g6⟩ := X3.callS hexec (Cmp5.law l b A s.heap.size B3 o 0 len) hown (wks W (staticW U16 115 Cmp5.yN)) (wk W Cmp5.tab) (W := 0) (Nat.le_of_ble_eq_true rfl) (Nat.le_of_ble_eq_true rfl) (Nat.le_refl _) (by show 0 + len + 0 ≤ len; omega) (g := (mkF m 9 #[.val (.ref b), .val (.int (Int32.ofNat o)), .val (.int (Int32.ofNat len)), .val (.ref s.heap.size), .unset, .unset] [.int (Int32.ofNat len), .int (Int32.ofNat 0), .ref s.heap.size, .int (Int32.ofNat o), .ref b])) rfl (by rw [hml]; rfl) c5 (argsL := [.ref b, .int (Int32.ofNat o), .ref s.heap.size, .int (Int32.ofNat 0), .int (Int32.ofNat len)]) (rest := []) rfl rfl (by show 2 * 0 + 0 ≤ _; decide) (hb hbytes d9) (⟨rfl, hA3, ba3, hne, l1, by rw [bs3]; simp, hp⟩)
  obtain ⟨rfl, B6, p6, f6⟩ := E6
  have c7 : Steps p.tables e below (s₁.setTop (entryFrame m #[.ref b, .int (Int32.ofNat o), .int (Int32.ofNat len)] 6)) (T6.setTop (mkF m 12 #[.val (.ref b), .val (.int (Int32.ofNat o)), .val (.int (Int32.ofNat len)), .val (.ref s.heap.size), .unset, .unset] [.int (Int32.ofNat len)])) := g6
  have c8 : Steps p.tables e below (s₁.setTop (entryFrame m #[.ref b, .int (Int32.ofNat o), .int (Int32.ofNat len)] 6)) (T6.setTop (mkF m 58 #[.val (.ref b), .val (.int (Int32.ofNat o)), .val (.int (Int32.ofNat len)), .val (.ref s.heap.size), .val (.int (Int32.ofNat len)), .unset] [.ref s.heap.size])) := c7.trans (by
    refine XS.istore X6.here hexec rfl (hb hbytes d12) rfl rfl ?_
    refine XS.iload X6.here hexec rfl (hb hbytes d14) rfl ?_
    refine XS.iloadN X6.here hexec rfl (hb hbytes d16) rfl ?_
    refine XS.icmpYes X6.here hexec rfl (pc0 := 17) rfl (hb hbytes d17) rfl (ii_eq_t rfl) (by decide) rfl ?_
    refine XS.aloadN X6.here hexec rfl (hb hbytes d57) rfl rfl ?_
    exact Steps.refl _)
  have X8 := X6.wide (L' := []) (cells' := 1) (slots' := len) (fun x hx hlt => by
    simp only [List.nil_append, copyLocs, List.mem_map, List.mem_range] at hx
    obtain ⟨i, -, rfl⟩ := hx
    exact absurd hlt (Nat.lt_irrefl _)) (Nat.le_refl _) (by omega)
  exact ⟨T6, some (.ref s.heap.size), _, _, _, X8, rfl, rfl, rfl, (fun h => by cases h), ⟨⟨rfl, B6, ba3.like (X3.warmed.alike.symm.trans X6.warmed.alike) p6.1 f6.1 f6.2.1 f6.2.2.1, f6.2.1.trans bv3, by rw [X6.warmed.alike.findClass, f6.1]; exact bf3, by rw [f6.2.2.1, bs3]; simp, fun j hj => by rw [f6.2.2.2 j, if_pos (by omega)]; rfl, kp3.put p6 (Nat.le_refl _)⟩, by rw [p6.2.2, bh3, hh0]; simp⟩, fun fs hl => c8.trans (X8.areturnOut hexec rfl hret rfl (hb hbytes d58) hl)⟩
end Cmp3
namespace CodL
def yN : MethodName := ⟨"java/lang/StringUTF16", "coderFromArrayLen", "([BI)B"⟩
abbrev yB : ByteArray := jdk_52_method_15_code
theorem d0 : decode yB 0 = .ok (.iload_n 1, 1) := by decide +kernel
theorem d1 : decode yB 1 = .ok (.aload_n 0, 1) := by decide +kernel
theorem d2 : decode yB 2 = .ok (.arraylength, 1) := by decide +kernel
theorem d3 : decode yB 3 = .ok (.isub, 1) := by decide +kernel
theorem d4 : decode yB 4 = .ok (.bipush 31, 2) := by decide +kernel
theorem d6 : decode yB 6 = .ok (.iushr, 1) := by decide +kernel
theorem d7 : decode yB 7 = .ok (.i2b, 1) := by decide +kernel
theorem d8 : decode yB 8 = .ok (.ireturn, 1) := by decide +kernel
def site : List Cond := []
def tab : Cond := tabOf yN yB 2 (some .byte) site
def P (d : Addr) (B : Cell) (args : Array Value) (s : State) : Prop := args = #[.ref d, .int (Int32.ofNat B.slots.size)] ∧ Arr .byte d B s
def E (r : Option Value) (s u : State) : Prop := XT.PureE (some (.int 0)) r s u
/-- an array as long as the number of chars: LATIN1 -/
theorem law (l : Launch) (d : Addr) (B : Cell) : Law l yN 2 2 0 0 yB 2 (some .byte) site (P d B) E [] 0 0 := by
  refine Law.of_walk (plainFor_of_name (by decide +kernel)) (by decide +kernel) (by decide +kernel) (by decide) (fun _ _ h => by rw [h.1]; rfl) (fun _ U U' hal hh h => ⟨h.1, h.2.mv hal hh⟩) (fun r U U' V V' h1 hal h2 h => XT.PureE.mv r U U' V V' h1 hal h2 h) ?_
  intro p e s m args below meth c s₁ X0 hexec hbytes hml hret hlk hnm hown hh0 W hP
  obtain ⟨rfl, hB⟩ := hP
  have hB0 := hB.mv X0.warmed.alike hh0
  have c1 : Steps p.tables e below (s₁.setTop (entryFrame m #[.ref d, .int (Int32.ofNat B.slots.size)] 2)) (s₁.setTop (mkF m 0 #[.val (.ref d), .val (.int (Int32.ofNat B.slots.size))] [])) := entry rfl
  have c2 : Steps p.tables e below (s₁.setTop (entryFrame m #[.ref d, .int (Int32.ofNat B.slots.size)] 2)) (s₁.setTop (mkF m 2 #[.val (.ref d), .val (.int (Int32.ofNat B.slots.size))] [.ref d, .int (Int32.ofNat B.slots.size)])) := c1.trans (by
    refine XS.iloadN X0.here hexec rfl (hb hbytes d0) rfl ?_
    refine XS.aloadN X0.here hexec rfl (hb hbytes d1) rfl rfl ?_
    exact Steps.refl _)
  have c3 : Steps p.tables e below (s₁.setTop (entryFrame m #[.ref d, .int (Int32.ofNat B.slots.size)] 2)) (s₁.setTop (mkF m 8 #[.val (.ref d), .val (.int (Int32.ofNat B.slots.size))] [.int (lo8 (ushr (Int32.ofNat B.slots.size - Int32.ofNat B.slots.size) 31))])) := c2.trans (by
    refine X0.alen hexec hB0 rfl rfl (hb hbytes d2) ?_
    refine XS.isub X0.here hexec rfl (hb hbytes d3) rfl ?_
    refine bipushV X0.here hexec rfl 31 (hb hbytes d4) (by decide) ?_
    refine iushr X0.here hexec rfl (hb hbytes d6) rfl ?_
    refine i2b X0.here hexec rfl (hb hbytes d7) rfl ?_
    exact Steps.refl _)
  have e0 : lo8 (ushr (Int32.ofNat B.slots.size - Int32.ofNat B.slots.size) 31) = 0 := by rw [Int32.sub_self]; decide
  rw [e0] at c3
  exact ⟨s₁, some (.int 0), _, _, _, X0, rfl, rfl, rfl, (fun h => by cases h), ⟨rfl, hh0⟩, fun fs hl => c3.trans (X0.ireturnOut hexec hret rfl (Or.inr (Or.inr (Or.inl rfl))) (hb hbytes d8) hl)⟩
end CodL
/-- the String at a is Latin-1 over a new byte[] (the heap's one new cell): the low bytes of the len chars of A from o on; every cell but a is kept -/
def Got (a : Addr) (D : Cell) (fV fC : Field) (A : Cell) (o len : Nat) (r : Option Value) (s u : State) : Prop := r = none ∧ ∃ D' V : Cell, Blank "java/lang/String" a D' u ∧ Same D D' [fV.slot, fC.slot] ∧ D'.slots[fV.slot]? = some (.ref s.heap.size) ∧ D'.slots[fC.slot]? = some (.int 0) ∧ Arr .byte s.heap.size V u ∧ V.vm = .none ∧ u.vm.findClass "[B" = some V.cls ∧ V.slots.size = len ∧ (∀ j, j < len → V.slots[j]? = some (.int (lo8 (cv A (o + j))))) ∧ (∀ (y : Addr) (c : Cell), y ≠ a → s.heap[y]? = some c → u.heap[y]? = some c) ∧ u.heap.size = s.heap.size + 1
theorem Got.mv {a : Addr} {D A : Cell} {fV fC : Field} {o len : Nat} : ∀ r (U U' V V' : State), U'.heap = U.heap → V.vm.Alike V'.vm → V'.heap = V.heap → Got a D fV fC A o len r U V → Got a D fV fC A o len r U' V' :=
  fun r U U' V V' h1 hal h2 ⟨e0, D', X, a1, a2, a3, a4, a5, a6, a7, a8, a9, a10, a11⟩ => ⟨e0, D', X, a1.mv hal h2, a2, by rw [h1]; exact a3, a4, by rw [h1]; exact a5.mv hal h2, a6, by rw [hal.findClass]; exact a7, a8, a9, by rw [h1, h2]; exact a10, by rw [h1, h2]; exact a11⟩
namespace New4
def yN : MethodName := ⟨"java/lang/String", "<init>", "([CIILjava/lang/Void;)V"⟩
abbrev yB : ByteArray := jdk_42_method_149_code
theorem d0 : decode yB 0 = .ok (.aload_n 0, 1) := by decide +kernel
theorem d1 : decode yB 1 = .ok (.invokespecial 1, 3) := by decide +kernel
theorem d4 : decode yB 4 = .ok (.iload_n 3, 1) := by decide +kernel
theorem d5 : decode yB 5 = .ok (.ifCond (.ne) 22, 3) := by decide +kernel
theorem d27 : decode yB 27 = .ok (.getstatic 38, 3) := by decide +kernel
theorem d30 : decode yB 30 = .ok (.ifCond (.eq) 28, 3) := by decide +kernel
theorem d33 : decode yB 33 = .ok (.aload_n 1, 1) := by decide +kernel
theorem d34 : decode yB 34 = .ok (.iload_n 2, 1) := by decide +kernel
theorem d35 : decode yB 35 = .ok (.iload_n 3, 1) := by decide +kernel
theorem d36 : decode yB 36 = .ok (.invokestatic 177, 3) := by decide +kernel
theorem d39 : decode yB 39 = .ok (.astore 5, 2) := by decide +kernel
theorem d41 : decode yB 41 = .ok (.aload_n 0, 1) := by decide +kernel
theorem d42 : decode yB 42 = .ok (.aload 5, 2) := by decide +kernel
theorem d44 : decode yB 44 = .ok (.iload_n 3, 1) := by decide +kernel
theorem d45 : decode yB 45 = .ok (.invokestatic 47, 3) := by decide +kernel
theorem d48 : decode yB 48 = .ok (.putfield 15, 3) := by decide +kernel
theorem d51 : decode yB 51 = .ok (.aload_n 0, 1) := by decide +kernel
theorem d52 : decode yB 52 = .ok (.aload 5, 2) := by decide +kernel
theorem d54 : decode yB 54 = .ok (.putfield 9, 3) := by decide +kernel
theorem d57 : decode yB 57 = .ok (.return_, 1) := by decide +kernel
def site : List Cond := [.fieldLink "java/lang/String" 38 "java/lang/String" "COMPACT_STRINGS" "Z", Cmp3.tab, CodL.tab, .laysFinal "java/lang/String" "java/lang/String" "value" "[B", .fieldLink "java/lang/String" 9 "java/lang/String" "value" "[B", .laysFinal "java/lang/String" "java/lang/String" "coder" "B", .fieldLink "java/lang/String" 15 "java/lang/String" "coder" "B"] ++ objW "java/lang/String" 1 ++ staticW "java/lang/String" 177 Cmp3.yN ++ staticW "java/lang/String" 47 CodL.yN
def tab : Cond := tabOf yN yB 6 none site
def P (a : Addr) (D : Cell) (fV fC : Field) (b : Addr) (A : Cell) (z : Int32) (o len : Nat) (args : Array Value) (s : State) : Prop := args = #[.ref a, .ref b, .int (Int32.ofNat o), .int (Int32.ofNat len), .null] ∧ Blank "java/lang/String" a D s ∧ Found "java/lang/String" "value" "[B" fV s ∧ Found "java/lang/String" "coder" "B" fC s ∧ Ch b A s ∧ StaticIs s "java/lang/String" "COMPACT_STRINGS" "Z" (.int z) ∧ ¬ z = 0 ∧ 0 < len ∧ o + len ≤ A.slots.size ∧ len ≤ 536870912 ∧ ∀ i, i < len → ¬ 255 < cv A (o + i)
def E (a : Addr) (D : Cell) (fV fC : Field) (A : Cell) (o len : Nat) (r : Option Value) (s u : State) : Prop := Got a D fV fC A o len r s u
/-- len > 0, no char of the range above 255: a Latin-1 String of their low bytes -/
theorem law (l : Launch) (a : Addr) (D : Cell) (fV fC : Field) (b : Addr) (A : Cell) (z : Int32) (o len : Nat) : Law l yN 5 4 2 35 yB 6 none site (P a D fV fC b A z o len) (E a D fV fC A o len) [⟨a, fC.slot⟩, ⟨a, fV.slot⟩] 1 len := by
  refine Law.of_walk (plainFor_of_name (by decide +kernel)) (by decide +kernel) (by decide +kernel) (by decide) (fun _ _ h => by rw [h.1]; rfl) (fun _ U U' hal hh h => ⟨h.1, h.2.1.mv hal hh, h.2.2.1.al hal, h.2.2.2.1.al hal, h.2.2.2.2.1.mv hal hh, h.2.2.2.2.2.1.there hal hh, h.2.2.2.2.2.2⟩) (fun r U U' V V' h1 hal h2 h => Got.mv r U U' V V' h1 hal h2 h) ?_
  intro p e s m args below meth c s₁ X0 hexec hbytes hml hret hlk hnm hown hh0 W hP
  obtain ⟨rfl, hB, f1, f2, hA, s1, hz, l0, l1, l2, hp⟩ := hP
  have a31 := hA.1.2.2.2
  have c1 : Steps p.tables e below (s₁.setTop (entryFrame m #[.ref a, .ref b, .int (Int32.ofNat o), .int (Int32.ofNat len), .null] 6)) (s₁.setTop (mkF m 0 #[.val (.ref a), .val (.ref b), .val (.int (Int32.ofNat o)), .val (.int (Int32.ofNat len)), .val .null, .unset] [])) := entry rfl
  have c2 : Steps p.tables e below (s₁.setTop (entryFrame m #[.ref a, .ref b, .int (Int32.ofNat o), .int (Int32.ofNat len), .null] 6)) (s₁.setTop (mkF m 1 #[.val (.ref a), .val (.ref b), .val (.int (Int32.ofNat o)), .val (.int (Int32.ofNat len)), .val .null, .unset] [.ref a])) := c1.trans (by
    refine XS.aloadN X0.here hexec rfl (hb hbytes d0) rfl rfl ?_
    exact Steps.refl _)
  obtain ⟨T3, X3, q3, st3⟩ := X0.oinit hexec hown (wks W (objW "java/lang/String" 1)) (g := (mkF m 1 #[.val (.ref a), .val (.ref b), .val (.int (Int32.ofNat o)), .val (.int (Int32.ofNat len)), .val .null, .unset] [.ref a])) rfl (by rw [hml]; rfl) (rest := []) rfl (hb hbytes d1) (W := 0) (by show 2 * 0 + 0 ≤ _; decide) (Nat.le_of_ble_eq_true rfl) (Nat.le_of_ble_eq_true rfl)
  have hh3 := q3.trans hh0
  have c4 : Steps p.tables e below (s₁.setTop (entryFrame m #[.ref a, .ref b, .int (Int32.ofNat o), .int (Int32.ofNat len), .null] 6)) (T3.setTop (mkF m 27 #[.val (.ref a), .val (.ref b), .val (.int (Int32.ofNat o)), .val (.int (Int32.ofNat len)), .val .null, .unset] [])) := (c2.trans (st3 _ (Steps.refl _))).trans (by
    refine XS.iloadN X3.here hexec rfl (hb hbytes d4) rfl ?_
    refine XS.ifYes X3.here hexec rfl (pc0 := 5) rfl (hb hbytes d5) rfl (i0_ne_t (nz32 (by omega) l0)) (by decide) rfl ?_
    exact Steps.refl _)
  obtain ⟨T5, X5, q5, st5⟩ := X3.sget hexec hown (wk W (.fieldLink "java/lang/String" 38 "java/lang/String" "COMPACT_STRINGS" "Z")) s1 (fun _ _ h => by rw [hh3]; exact h) (g := (mkF m 27 #[.val (.ref a), .val (.ref b), .val (.int (Int32.ofNat o)), .val (.int (Int32.ofNat len)), .val .null, .unset] [])) rfl (hb hbytes d27)
  have hh5 := q5.trans hh3
  have c6 : Steps p.tables e below (s₁.setTop (entryFrame m #[.ref a, .ref b, .int (Int32.ofNat o), .int (Int32.ofNat len), .null] 6)) (T5.setTop (mkF m 30 #[.val (.ref a), .val (.ref b), .val (.int (Int32.ofNat o)), .val (.int (Int32.ofNat len)), .val .null, .unset] [.int z])) := c4.trans (st5 _ (Steps.refl _))
  have c7 : Steps p.tables e below (s₁.setTop (entryFrame m #[.ref a, .ref b, .int (Int32.ofNat o), .int (Int32.ofNat len), .null] 6)) (T5.setTop (mkF m 36 #[.val (.ref a), .val (.ref b), .val (.int (Int32.ofNat o)), .val (.int (Int32.ofNat len)), .val .null, .unset] [.int (Int32.ofNat len), .int (Int32.ofNat o), .ref b])) := c6.trans (by
    refine XS.ifNo X5.here hexec rfl (hb hbytes d30) rfl (i0_eq_f hz) ?_
    refine XS.aloadN X5.here hexec rfl (hb hbytes d33) rfl rfl ?_
    refine XS.iloadN X5.here hexec rfl (hb hbytes d34) rfl ?_
    refine XS.iloadN X5.here hexec rfl (hb hbytes d35) rfl ?_
    exact Steps.refl _)
  obtain ⟨v8, T8, X8, E8, g8⟩ := X5.callS hexec (Cmp3.law l b A o len) hown (wks W (staticW "java/lang/String" 177 Cmp3.yN)) (wk W Cmp3.tab) (W := 0) (Nat.le_of_ble_eq_true rfl) (Nat.le_of_ble_eq_true rfl) (Nat.le_refl _) (by show 0 + len ≤ len; omega) (g := (mkF m 36 #[.val (.ref a), .val (.ref b), .val (.int (Int32.ofNat o)), .val (.int (Int32.ofNat len)), .val .null, .unset] [.int (Int32.ofNat len), .int (Int32.ofNat o), .ref b])) rfl (by rw [hml]; rfl) c7 (argsL := [.ref b, .int (Int32.ofNat o), .int (Int32.ofNat len)]) (rest := []) rfl rfl (by show 2 * 0 + 0 ≤ _; decide) (hb hbytes d36) (⟨rfl, hA.mv X5.warmed.alike hh5, l1, l2, hp⟩)
  obtain ⟨e8, z8⟩ := E8
  obtain ⟨rfl, N, n1, n2, n3, n4, n5, n6⟩ := NewArr.mv _ T5 s _ _ hh5.symm (Vm.Alike.refl _) rfl e8
  rw [hh5] at z8
  have hB1 := hB.keep X8.warmed.alike (n6 _ _ hB.1)
  have hne : s.heap.size ≠ a := (Nat.ne_of_lt (Array.getElem?_eq_some_iff.mp hB.1).1).symm
  have c9 : Steps p.tables e below (s₁.setTop (entryFrame m #[.ref a, .ref b, .int (Int32.ofNat o), .int (Int32.ofNat len), .null] 6)) (T8.setTop (mkF m 39 #[.val (.ref a), .val (.ref b), .val (.int (Int32.ofNat o)), .val (.int (Int32.ofNat len)), .val .null, .unset] [.ref s.heap.size])) := g8
  have c10 : Steps p.tables e below (s₁.setTop (entryFrame m #[.ref a, .ref b, .int (Int32.ofNat o), .int (Int32.ofNat len), .null] 6)) (T8.setTop (mkF m 45 #[.val (.ref a), .val (.ref b), .val (.int (Int32.ofNat o)), .val (.int (Int32.ofNat len)), .val .null, .val (.ref s.heap.size)] [.int (Int32.ofNat N.slots.size), .ref s.heap.size, .ref a])) := by
    have hc : Steps p.tables e below (s₁.setTop (entryFrame m #[.ref a, .ref b, .int (Int32.ofNat o), .int (Int32.ofNat len), .null] 6)) (T8.setTop (mkF m 45 #[.val (.ref a), .val (.ref b), .val (.int (Int32.ofNat o)), .val (.int (Int32.ofNat len)), .val .null, .val (.ref s.heap.size)] [.int (Int32.ofNat len), .ref s.heap.size, .ref a])) := c9.trans (by
      refine XS.astore X8.here hexec rfl (hb hbytes d39) rfl rfl rfl ?_
      refine XS.aloadN X8.here hexec rfl (hb hbytes d41) rfl rfl ?_
      refine XS.aload X8.here hexec rfl (hb hbytes d42) rfl rfl ?_
      refine XS.iloadN X8.here hexec rfl (hb hbytes d44) rfl ?_
      exact Steps.refl _)
    rw [n4]; exact hc
  obtain ⟨v11, T11, X11, E11, g11⟩ := X8.callS hexec (CodL.law l s.heap.size N) hown (wks W (staticW "java/lang/String" 47 CodL.yN)) (wk W CodL.tab) (W := 1) (Nat.le_of_ble_eq_true rfl) (Nat.le_of_ble_eq_true rfl) (Nat.le_refl _) (by show 0 + len + 0 ≤ len; omega) (g := (mkF m 45 #[.val (.ref a), .val (.ref b), .val (.int (Int32.ofNat o)), .val (.int (Int32.ofNat len)), .val .null, .val (.ref s.heap.size)] [.int (Int32.ofNat N.slots.size), .ref s.heap.size, .ref a])) rfl (by rw [hml]; rfl) c10 (argsL := [.ref s.heap.size, .int (Int32.ofNat N.slots.size)]) (rest := [.ref a]) rfl rfl (by show 2 * 0 + (1 + 0) ≤ _; decide) (hb hbytes d45) (⟨rfl, n1⟩)
  obtain ⟨rfl, q11⟩ := E11
  have hB11 := hB1.mv (X8.warmed.alike.symm.trans X11.warmed.alike) q11
  have c12 : Steps p.tables e below (s₁.setTop (entryFrame m #[.ref a, .ref b, .int (Int32.ofNat o), .int (Int32.ofNat len), .null] 6)) (T11.setTop (mkF m 48 #[.val (.ref a), .val (.ref b), .val (.int (Int32.ofNat o)), .val (.int (Int32.ofNat len)), .val .null, .val (.ref s.heap.size)] [.int 0, .ref a])) := g11
  obtain ⟨T13, X13, p13, bl13, sl13, st13⟩ := X11.finit hexec hown (wk W (.fieldLink "java/lang/String" 15 "java/lang/String" "coder" "B")) (Or.inr ⟨_, (wk W (.laysFinal "java/lang/String" "java/lang/String" "coder" "B"))⟩) (Or.inl ⟨rfl, hnm⟩) f2 (Or.inl rfl) hB11 (t := .byte) (by decide +kernel) rfl (g := (mkF m 48 #[.val (.ref a), .val (.ref b), .val (.int (Int32.ofNat o)), .val (.int (Int32.ofNat len)), .val .null, .val (.ref s.heap.size)] [.int 0, .ref a])) rfl (rest := []) rfl (hb hbytes d48)
  have c14 : Steps p.tables e below (s₁.setTop (entryFrame m #[.ref a, .ref b, .int (Int32.ofNat o), .int (Int32.ofNat len), .null] 6)) (T13.setTop (mkF m 54 #[.val (.ref a), .val (.ref b), .val (.int (Int32.ofNat o)), .val (.int (Int32.ofNat len)), .val .null, .val (.ref s.heap.size)] [.ref s.heap.size, .ref a])) := (c12.trans (st13 _ (Steps.refl _))).trans (by
    refine XS.aloadN X13.here hexec rfl (hb hbytes d51) rfl rfl ?_
    refine XS.aload X13.here hexec rfl (hb hbytes d52) rfl rfl ?_
    exact Steps.refl _)
  obtain ⟨T15, X15, p15, bl15, sl15, st15⟩ := X13.finit hexec hown (wk W (.fieldLink "java/lang/String" 9 "java/lang/String" "value" "[B")) (Or.inr ⟨_, (wk W (.laysFinal "java/lang/String" "java/lang/String" "value" "[B"))⟩) (Or.inl ⟨rfl, hnm⟩) f1 (Or.inl rfl) bl13 (t := (.array .byte)) (by decide +kernel) rfl (g := (mkF m 54 #[.val (.ref a), .val (.ref b), .val (.int (Int32.ofNat o)), .val (.int (Int32.ofNat len)), .val .null, .val (.ref s.heap.size)] [.ref s.heap.size, .ref a])) rfl (rest := []) rfl (hb hbytes d54)
  have c16 : Steps p.tables e below (s₁.setTop (entryFrame m #[.ref a, .ref b, .int (Int32.ofNat o), .int (Int32.ofNat len), .null] 6)) (T15.setTop (mkF m 57 #[.val (.ref a), .val (.ref b), .val (.int (Int32.ofNat o)), .val (.int (Int32.ofNat len)), .val .null, .val (.ref s.heap.size)] [])) := c14.trans (st15 _ (Steps.refl _))
  have ap := apart (Or.inr ⟨_, (wk W (.laysFinal "java/lang/String" "java/lang/String" "value" "[B"))⟩) (Or.inr ⟨_, (wk W (.laysFinal "java/lang/String" "java/lang/String" "coder" "B"))⟩) f1 f2 (t₁ := .array .byte) (t₂ := .byte) (by decide +kernel) (by decide +kernel) (by decide)
  have al := X8.warmed.alike.symm.trans X15.warmed.alike
  have n7 : T11.heap[s.heap.size]? = some N := by rw [q11]; exact n1.1
  exact ⟨T15, none, _, _, _, X15, by simp, rfl, by omega, (fun _ => rfl), ⟨rfl, _, N, bl15, ((Same.refl D _).set _ (by simp)).set _ (by simp), sl15, (Cell.slots_setSlot_ne _ ap).trans sl13, n1.keep al (p15.other hne (p13.other hne n7)), n2, by rw [al.findClass]; exact n3, n4, n5, fun y c h1 h2 => p15.other h1 (p13.other h1 (by rw [q11]; exact n6 y c h2)), by rw [p15.2.2, p13.2.2, q11]; exact z8⟩, fun fs hl => c16.trans (X15.returnOut hexec hret (hb hbytes d57) hl)⟩
end New4
namespace New1
def yN : MethodName := ⟨"java/lang/String", "<init>", "([C)V"⟩
abbrev yB : ByteArray := jdk_42_method_3_code
theorem d0 : decode yB 0 = .ok (.aload_n 0, 1) := by decide +kernel
theorem d1 : decode yB 1 = .ok (.aload_n 1, 1) := by decide +kernel
theorem d2 : decode yB 2 = .ok (.iconst 0, 1) := by decide +kernel
theorem d3 : decode yB 3 = .ok (.aload_n 1, 1) := by decide +kernel
theorem d4 : decode yB 4 = .ok (.arraylength, 1) := by decide +kernel
theorem d5 : decode yB 5 = .ok (.aconst_null, 1) := by decide +kernel
theorem d6 : decode yB 6 = .ok (.invokespecial 27, 3) := by decide +kernel
theorem d9 : decode yB 9 = .ok (.return_, 1) := by decide +kernel
def site : List Cond := [New4.tab] ++ initW "java/lang/String" 27 New4.yN
def tab : Cond := tabOf yN yB 2 none site
def P (a : Addr) (D : Cell) (fV fC : Field) (b : Addr) (A : Cell) (z : Int32) (args : Array Value) (s : State) : Prop := args = #[.ref a, .ref b] ∧ Blank "java/lang/String" a D s ∧ Found "java/lang/String" "value" "[B" fV s ∧ Found "java/lang/String" "coder" "B" fC s ∧ Ch b A s ∧ StaticIs s "java/lang/String" "COMPACT_STRINGS" "Z" (.int z) ∧ ¬ z = 0 ∧ 0 < A.slots.size ∧ A.slots.size ≤ 536870912 ∧ ∀ i, i < A.slots.size → ¬ 255 < cv A i
def E (a : Addr) (D : Cell) (fV fC : Field) (A : Cell) (r : Option Value) (s u : State) : Prop := Got a D fV fC A 0 A.slots.size r s u
/-- new String(chars), not empty, no char above 255: a Latin-1 String of their low bytes -/
theorem law (l : Launch) (a : Addr) (D : Cell) (fV fC : Field) (b : Addr) (A : Cell) (z : Int32) : Law l yN 2 1 3 52 yB 2 none site (P a D fV fC b A z) (E a D fV fC A) [⟨a, fC.slot⟩, ⟨a, fV.slot⟩] 1 A.slots.size := by
  refine Law.of_walk (plainFor_of_name (by decide +kernel)) (by decide +kernel) (by decide +kernel) (by decide) (fun _ _ h => by rw [h.1]; rfl) (fun _ U U' hal hh h => ⟨h.1, h.2.1.mv hal hh, h.2.2.1.al hal, h.2.2.2.1.al hal, h.2.2.2.2.1.mv hal hh, h.2.2.2.2.2.1.there hal hh, h.2.2.2.2.2.2⟩) (fun r U U' V V' h1 hal h2 h => Got.mv r U U' V V' h1 hal h2 h) ?_
  intro p e s m args below meth c s₁ X0 hexec hbytes hml hret hlk hnm hown hh0 W hP
  obtain ⟨rfl, hB, f1, f2, hA, s1, hz, l0, l2, hp⟩ := hP
  have c1 : Steps p.tables e below (s₁.setTop (entryFrame m #[.ref a, .ref b] 2)) (s₁.setTop (mkF m 0 #[.val (.ref a), .val (.ref b)] [])) := entry rfl
  have c2 : Steps p.tables e below (s₁.setTop (entryFrame m #[.ref a, .ref b] 2)) (s₁.setTop (mkF m 6 #[.val (.ref a), .val (.ref b)] [.null, .int (Int32.ofNat A.slots.size), .int 0, .ref b, .ref a])) := c1.trans (by
    refine XS.aloadN X0.here hexec rfl (hb hbytes d0) rfl rfl ?_
    refine XS.aloadN X0.here hexec rfl (hb hbytes d1) rfl rfl ?_
    refine iconstV X0.here hexec rfl 0 (hb hbytes d2) (by decide) ?_
    refine XS.aloadN X0.here hexec rfl (hb hbytes d3) rfl rfl ?_
    refine X0.alen hexec (hA.1.mv X0.warmed.alike hh0) rfl rfl (hb hbytes d4) ?_
    refine XS.aconstNull X0.here hexec rfl (hb hbytes d5) ?_
    exact Steps.refl _)
  obtain ⟨v3, T3, X3, E3, g3⟩ := X0.callN hexec (New4.law l a D fV fC b A z 0 A.slots.size) rfl hown (wks W (initW "java/lang/String" 27 New4.yN)) (W New4.tab (by simp only [site, List.mem_cons, List.mem_append, true_or, or_true])) (W := 0) (Nat.le_of_ble_eq_true rfl) (Nat.le_of_ble_eq_true rfl) (Nat.le_refl _) (by show 0 + A.slots.size ≤ A.slots.size; omega) (g := (mkF m 6 #[.val (.ref a), .val (.ref b)] [.null, .int (Int32.ofNat A.slots.size), .int (Int32.ofNat 0), .ref b, .ref a])) rfl (by rw [hml]; rfl) c2 (argsL := [.ref b, .int (Int32.ofNat 0), .int (Int32.ofNat A.slots.size), .null]) (rest := []) rfl rfl (by show 2 * 0 + 0 ≤ _; decide) (hb hbytes d6) (⟨rfl, hB.mv X0.warmed.alike hh0, f1.al X0.warmed.alike, f2.al X0.warmed.alike, hA.mv X0.warmed.alike hh0, s1.there X0.warmed.alike hh0, hz, l0, by omega, l2, fun i hi => by rw [Nat.zero_add]; exact hp i hi⟩)
  have e0 := Got.mv _ s₁ s _ _ hh0.symm (Vm.Alike.refl _) rfl E3
  obtain rfl := e0.1
  have c4 : Steps p.tables e below (s₁.setTop (entryFrame m #[.ref a, .ref b] 2)) (T3.setTop (mkF m 9 #[.val (.ref a), .val (.ref b)] [])) := g3
  exact ⟨T3, none, _, _, _, X3, by simp, rfl, by omega, (fun _ => rfl), e0, fun fs hl => c4.trans (X3.returnOut hexec hret (hb hbytes d9) hl)⟩
theorem pays {l : Launch} {R : Room} {p : Program} {e : Env} {below : List Frame} {s : State} {sargs : Array Value} {len W : Nat} (a : Addr) (D : Cell) (fV fC : Field) (b : Addr) (A : Cell) (z : Int32) (htab : tab.before sargs s = true) (hfr : 4 ≤ R.frames) (hlo : W + 65 ≤ R.locals) :
    Back l R p e below s sargs yN len W (fun A₁ a₁ => A₁.cells + 1 ≤ R.cells ∧ A₁.slots + A.slots.size ≤ R.slots ∧ P a D fV fC b A z a₁ A₁.U) (fun A₁ _ v₁ B₁ => E a D fV fC A v₁ A₁.U B₁.U ∧ B₁.locs = A₁.locs ++ [⟨a, fC.slot⟩, ⟨a, fV.slot⟩] ∧ B₁.cells = A₁.cells + 1 ∧ B₁.slots = A₁.slots + A.slots.size) :=
  (law l a D fV fC b A z).pays htab hfr (by omega)
end New1
end StrChars
namespace StrChars.Road
open Jvm Sem ClassFile Op Lib Jvm.Stand Jvm.Free Jvm.Free.XT
open Jvm.Lib.Cold (StaticIs)
abbrev ST : String := "java/lang/String"
/-- every table word that New1's law asks, flat -/
abbrev words : List Jvm.Cond := [.code New1.yN New1.yB 2 none, .initialized ST, .methodLink ST 27 New4.yN, .instanceMethod New4.yN,
  .code New4.yN New4.yB 6 none, .fieldLink ST 38 ST "COMPACT_STRINGS" "Z", .laysFinal ST ST "value" "[B", .fieldLink ST 9 ST "value" "[B", .laysFinal ST ST "coder" "B", .fieldLink ST 15 ST "coder" "B",
  .methodLink ST 1 Lib.objectInit, .instanceMethod Lib.objectInit, .code Lib.objectInit ⟨#[0xb1]⟩ 1 none, .methodLink ST 177 Cmp3.yN, .static Cmp3.yN, .methodLink ST 47 CodL.yN, .static CodL.yN,
  .code Cmp3.yN Cmp3.yB 6 (some (.array .byte)), .initialized U16, .arrayClass .byte, .methodLink U16 115 Cmp5.yN, .static Cmp5.yN, .code Cmp5.yN Cmp5.yB 7 (some .int), .code CodL.yN CodL.yB 2 (some .byte)]
theorem tab_of {a : Array Value} {s : State} (h : ∀ w ∈ words, w.before a s = true) : New1.tab.before a s = true := by
  have h5 : Cmp5.tab.before a s = true := unparts (wk h (.code Cmp5.yN Cmp5.yB 7 (some .int))) (wks h (.initialized Cmp5.yN.cls :: Cmp5.site))
  have hc : CodL.tab.before a s = true := unparts (wk h (.code CodL.yN CodL.yB 2 (some .byte))) (wks h (.initialized CodL.yN.cls :: CodL.site))
  have q5 : ∀ w ∈ Cmp5.tab :: words, w.before a s = true := fun w hw => (List.mem_cons.mp hw).elim (fun e => e ▸ h5) (h w)
  have h3 : Cmp3.tab.before a s = true := unparts (wk q5 (.code Cmp3.yN Cmp3.yB 6 (some (.array .byte)))) (wks q5 (.initialized Cmp3.yN.cls :: Cmp3.site))
  have q3 : ∀ w ∈ Cmp3.tab :: CodL.tab :: words, w.before a s = true := fun w hw => (List.mem_cons.mp hw).elim (fun e => e ▸ h3) fun hw => (List.mem_cons.mp hw).elim (fun e => e ▸ hc) (h w)
  have h4 : New4.tab.before a s = true := unparts (wk q3 (.code New4.yN New4.yB 6 none)) (wks q3 (.initialized New4.yN.cls :: New4.site))
  have q4 : ∀ w ∈ New4.tab :: words, w.before a s = true := fun w hw => (List.mem_cons.mp hw).elim (fun e => e ▸ h4) (h w)
  exact unparts (wk q4 (.code New1.yN New1.yB 2 none)) (wks q4 (.initialized New1.yN.cls :: New1.site))
/-- the words ride from the start Z to the walk's own state -/
theorem moved {Z s : State} {a0 args : Array Value} (hZ : Z.Warmed39 s.vm) (hw : ∀ d ∈ words, d.before a0 Z = true) : ∀ d ∈ words, d.before args s = true := fun d hd => by
  have q := hw d hd
  have t : ∀ d ∈ words, d = .arrayClass .byte ∨ (d.onTables && d.keepsFace) = true := by decide +kernel
  rcases t d hd with rfl | t
  · exact RoadKit.mvA hZ q
  · exact RoadKit.mv hZ q t
/-- WHAT COMES BACK, over the tables of the start Z: h the heap at the call, h' behind it -/
def Q (Z : State) (x : Addr) (A : Cell) (h : Heap) (v : Option Value) (h' : Heap) (L : List Loc) : Prop := v = none ∧ (∀ y ∈ L, y.base = x) ∧ RoadKit.Keep h h' [x] ∧ h'.size = h.size + 1 ∧ RoadKit.Exa Z h' x ST ∧ RoadKit.Fld Z h' x ST "value" "[B" (.ref h.size) ∧ RoadKit.Fld Z h' x ST "coder" "B" (.int 0) ∧
  (∃ V : Cell, RoadKit.Arr Z h' h.size V .byte ∧ V.vm = .none ∧ Z.vm.findClass "[B" = some V.cls ∧ V.slots.size = A.slots.size ∧ ∀ j, j < A.slots.size → V.slots[j]? = some (.int (lo8 (cv A j)))) ∧
  ∀ (O n d : String) (w : Value), RoadKit.Fld Z h x O n d w → RoadKit.slotOf Z O n d ≠ RoadKit.slotOf Z ST "value" "[B" → RoadKit.slotOf Z O n d ≠ RoadKit.slotOf Z ST "coder" "B" → RoadKit.Fld Z h' x O n d w
/-- **new String(chars) AT A CALL, IN THE ROAD'S FORM**: for specialBack behind newO: x the fresh String, b the char[] with the cell A -/
theorem back {p : Program} {l : Launch} {e : Env} {R : Room} {s : State} {args : Array Value} {below : List Frame} {len W : Nat} {Z : State} {a0 : Array Value} {h : Heap} (hZ : Z.Warmed39 s.vm) (hw : ∀ d ∈ words, d.before a0 Z = true) {kI : Nat} (wi : (Jvm.Cond.instantiable ST kI).before a0 Z = true)
    {x b : Addr} {A : Cell} {z : Int32} {v0 c0 : Value} (E : RoadKit.Exa Z h x ST) (V : RoadKit.Fld Z h x ST "value" "[B" v0) (C : RoadKit.Fld Z h x ST "coder" "B" c0) (K : RoadKit.Arr Z h b A .char) (hty : Typed .char A) (S : RoadKit.Sta Z h ST "COMPACT_STRINGS" "Z" (.int z)) (hz : ¬ z = 0)
    (l0 : 0 < A.slots.size) (l2 : A.slots.size ≤ 536870912) (hp : ∀ i, i < A.slots.size → ¬ 255 < cv A i) (hfr : 4 ≤ R.frames) (hlo : W + 65 ≤ R.locals) :
    Back l R p e below s args New1.yN len W (fun P a => a = #[.ref x, .ref b] ∧ P.U.heap = h ∧ P.cells + 1 ≤ R.cells ∧ P.slots + A.slots.size ≤ R.slots)
      (fun P _ v B => ∃ L, Q Z x A h v B.U.heap L ∧ B.locs = P.locs ++ L ∧ B.cells = P.cells + 1 ∧ B.slots = P.slots + A.slots.size) := by
  intro m meth c P g ig mk a X hg hsize hdg hW hn hp'
  obtain ⟨rfl, rfl, r1, r2⟩ := hp'
  have al : Z.vm.Alike P.U.vm := hZ.alike.trans X.warmed.alike
  obtain ⟨D, cfV, kV, iV, fV, hD, gV, stV, knV, obV, asV, slV⟩ := id V
  obtain ⟨D', cfC, kC, iC, fC, hD', gC, stC, -, -, asC, slC⟩ := id C
  cases hD.symm.trans hD'
  obtain ⟨D2, kD, e1, e2, e3, e4, e5⟩ := id E
  cases hD.symm.trans e1
  obtain ⟨c2, k2, i1, i2, i3, -⟩ := Cond.instantiable_spec wi
  cases e2.symm.trans i1
  cases e3.symm.trans i2
  obtain ⟨kU, u1, u2⟩ := al.2.2 _ _ e3
  have hB : Blank ST x D P.U := ⟨hD, ⟨knV, fun q hq => by rw [hq] at obV; cases obV⟩, by rw [al.findClass]; exact e2, kU, u1, by rw [u2]; exact i3, by rw [u2]; exact e5 i3⟩
  have F1 : Found ST "value" "[B" fV P.U := ⟨SBG.found_only al ⟨cfV, kV, iV, gV⟩, stV⟩
  have F2 : Found ST "coder" "B" fC P.U := ⟨SBG.found_only al ⟨cfC, kC, iC, gC⟩, stC⟩
  have hA : Ch b A P.U := ⟨⟨K.1, State.isArrayOf_alike al K.2.1, K.2.2, by omega⟩, hty⟩
  have hS : StaticIs P.U ST "COMPACT_STRINGS" "Z" (.int z) := by
    obtain ⟨cfS, iS, kS, fS, st, cS, t1, t2, t3, t4, t5, t6, t7⟩ := S
    exact StaticIs.there (s := { Z with heap := P.U.heap }) ⟨cfS, iS, kS, fS, st, cS, t1, t2, t3, t4, t5, (fun q => by rw [q] at t6; cases t6), t7⟩ al rfl
  obtain ⟨v, B, X', ⟨⟨hv, E', V', q1, q2, q3, q4, q5, q6, q7, q8, q9, q10, q11⟩, hl, hc, hs⟩, st⟩ := New1.pays x D fV fC b A z (tab_of (moved hZ hw)) hfr hlo m meth c P g ig mk _ X hg hsize hdg hW hn ⟨r1, r2, rfl, hB, F1, F2, hA, hS, hz, l0, l2, hp⟩
  have al' : Z.vm.Alike B.U.vm := hZ.alike.trans X'.warmed.alike
  have hsz : E'.slots.size = D.slots.size := by
    obtain ⟨-, -, -, kB, w1, w2, w3⟩ := q1
    obtain ⟨kB', y1, y2⟩ := al'.2.2 _ _ e3
    rw [q2.2.1] at w1
    cases w1.symm.trans y1
    rw [w3, e5 i3, y2]
  refine ⟨v, B, X', ⟨_, ⟨hv, ?_, ⟨by omega, fun y cy hy hn' => q10 y cy (by simpa using hn') hy, fun y cy hy => ?_⟩, q11, ⟨E', _, q1.1, by rw [q2.2.1]; exact e2, by rw [q2.2.1]; exact e3, by rw [q2.1]; exact obV, fun _ => by rw [hsz]; exact e5 i3⟩,
    ⟨E', cfV, kV, iV, fV, q1.1, gV, stV, by rw [q2.1]; exact knV, by rw [q2.1]; exact obV, by rw [q2.2.1]; exact asV, q3⟩, ⟨E', cfC, kC, iC, fC, q1.1, gC, stC, by rw [q2.1]; exact knV, by rw [q2.1]; exact obV, by rw [q2.2.1]; exact asC, q4⟩,
    ⟨V', ⟨q5.1, State.isArrayOf_alike al'.symm q5.2.1, q5.2.2.1⟩, q6, by rw [← al'.findClass]; exact q7, q8, fun j hj => by have := q9 j hj; rwa [Nat.zero_add] at this⟩, fun O n d w F n1 n2 => ?_⟩, hl, hc, hs⟩, st⟩
  · intro y hy
    simp only [List.mem_cons, List.not_mem_nil, or_false] at hy
    rcases hy with rfl | rfl <;> rfl
  · by_cases q : y = x
    · subst q
      cases hD.symm.trans hy
      exact ⟨E', q1.1, q2.2.1, q2.1, hsz⟩
    · exact ⟨cy, q10 y cy q hy, rfl, rfl, rfl⟩
  · obtain ⟨D3, cf, k, i, f, g1, g2, g3, g4, g5, g6, g7⟩ := F
    cases hD.symm.trans g1
    simp only [RoadKit.slotOf, g2, gV, gC, Option.map_some, Option.getD_some] at n1 n2
    exact ⟨E', cf, k, i, f, q1.1, g2, g3, by rw [q2.1]; exact g4, by rw [q2.1]; exact g5, by rw [q2.2.1]; exact g6, by rw [q2.2.2 f.slot (by simp [n1, n2])]; exact g7⟩
end StrChars.Road
namespace StrChars.Road
open Jvm Sem ClassFile Op Lib Jvm.Stand Jvm.Free Jvm.Free.XT
/-- WHAT COMES BACK, the byte[] as a list of values -/
def QA (Z : State) (x : Addr) (zn : Int32) (cs : List Int32) (h : Heap) (v : Option Value) (h' : Heap) (L : List Loc) : Prop := v = none ∧ (∀ y ∈ L, y.base = x) ∧ RoadKit.Keep h h' [x] ∧ h'.size = h.size + 1 ∧ RoadKit.Exa Z h' x ST ∧ RoadKit.Fld Z h' x ST "value" "[B" (.ref h.size) ∧ RoadKit.Fld Z h' x ST "coder" "B" (.int 0) ∧
  (∃ kb, Z.vm.findClass "[B" = some kb ∧ RoadKit.Arv Z h' h.size kb .byte zn (cs.map fun c => .int (lo8 c)) (.int 0)) ∧
  ∀ (O n d : String) (w : Value), RoadKit.Fld Z h x O n d w → RoadKit.slotOf Z O n d ≠ RoadKit.slotOf Z ST "value" "[B" → RoadKit.slotOf Z O n d ≠ RoadKit.slotOf Z ST "coder" "B" → RoadKit.Fld Z h' x O n d w
/-- **new String(chars) AT A CALL, THE ARRAYS AS LISTS**: the char[] at b holds cs, not empty, no char above 255 -/
theorem backArv {p : Program} {l : Launch} {e : Env} {R : Room} {s : State} {args : Array Value} {below : List Frame} {len W : Nat} {Z : State} {a0 : Array Value} {h : Heap} (hZ : Z.Warmed39 s.vm) (hw : ∀ d ∈ words, d.before a0 Z = true) {kI : Nat} (wi : (Jvm.Cond.instantiable ST kI).before a0 Z = true)
    {x b : Addr} {k : ClassId} {zn z : Int32} {cs : List Int32} {dv v0 c0 : Value} (E : RoadKit.Exa Z h x ST) (V : RoadKit.Fld Z h x ST "value" "[B" v0) (C : RoadKit.Fld Z h x ST "coder" "B" c0) (K : RoadKit.Arv Z h b k .char zn (cs.map Value.int) dv) (S : RoadKit.Sta Z h ST "COMPACT_STRINGS" "Z" (.int z)) (hz : ¬ z = 0)
    (hlen : zn.toNatClampNeg = cs.length) (h0 : 0 < cs.length) (hbig : cs.length ≤ 536870912) (hall : ∀ c ∈ cs, ¬ 255 < c) (hfr : 4 ≤ R.frames) (hlo : W + 65 ≤ R.locals) :
    Back l R p e below s args New1.yN len W (fun P a => a = #[.ref x, .ref b] ∧ P.U.heap = h ∧ P.cells + 1 ≤ R.cells ∧ P.slots + cs.length ≤ R.slots)
      (fun P _ v B => ∃ L, QA Z x zn cs h v B.U.heap L ∧ B.locs = P.locs ++ L ∧ B.cells = P.cells + 1 ∧ B.slots = P.slots + cs.length) := by
  obtain ⟨A, K1, K2, K3, K4, K5, K6⟩ := K
  have e : A.slots.size = cs.length := K3.trans hlen
  have hat : ∀ (i : Nat) (hi : i < cs.length), A.slots[i]? = some (.int cs[i]) := fun i hi => by rw [K5 i (by omega)]; simp [List.getD_eq_getElem?_getD, hi]
  have hcv : ∀ (i : Nat) (hi : i < cs.length), cv A i = cs[i] := fun i hi => by unfold cv; rw [hat i hi]
  have hty : Typed .char A := fun i v hv => by
    have hi : i < A.slots.size := (Array.getElem?_eq_some_iff.mp hv).1
    have q := K5 i hi
    rw [hv] at q
    rw [Option.some.inj q]
    exact K6 i hi
  refine Back.mono (back hZ hw wi E V C K1 hty S hz (by omega) (by omega) (fun i hi => by rw [hcv i (by omega)]; exact hall _ (List.getElem_mem _)) hfr hlo) (fun P a hp => ⟨hp.1, hp.2.1, hp.2.2.1, by rw [e]; exact hp.2.2.2⟩) (fun P a v B hp hq => ?_)
  obtain ⟨L, ⟨q1, q2, q3, q4, q5, q6, q7, ⟨V', v1, v2, v3, v4, v5⟩, q9⟩, hl, hc, hs⟩ := hq
  refine ⟨L, ⟨q1, q2, q3, q4, q5, q6, q7, ⟨V'.cls, v3, V', v1, rfl, by rw [v4, e, hlen], K4, fun i hi => ?_, fun i hi => ?_⟩, q9⟩, hl, hc, by rw [hs, e]⟩
  · have hi' : i < cs.length := by omega
    rw [v5 i (by omega), hcv i hi']; simp [List.getD_eq_getElem?_getD, hi']
  · have hi' : i < cs.length := by omega
    simp only [List.getD_eq_getElem?_getD, List.getElem?_map, List.getElem?_eq_getElem hi', Option.map_some, Option.getD_some]
    exact fits_lo8 _
end StrChars.Road
namespace StrChars.Road
open Jvm Sem ClassFile Op Lib Jvm.Stand Jvm.Free Jvm.Free.XT
/-- WHAT COMES BACK, in the writer's own shape -/
def QV (Z : State) (x : Addr) (N : Int32) (bs : List Int32) (h : Heap) (n0 : Nat) (v : Option Value) (h' : Heap) (L : List Loc) : Prop := v = none ∧ RoadKit.Fr n0 L ∧ RoadKit.Keep h h' [x] ∧ RoadKit.Exa Z h' x ST ∧ RoadKit.Fld Z h' x ST "coder" "B" (.int 0) ∧
  ∃ (t : Addr) (kb : ClassId), n0 ≤ t ∧ h.size ≤ t ∧ ¬ t = x ∧ RoadKit.Fld Z h' x ST "value" "[B" (.ref t) ∧ RoadKit.Arv Z h' t kb .byte N (bs.map Value.int) (.int 0)
/-- **new String(chars) AT A CALL, FOR THE WRITER**: a char[] of n known ints, each 0 to 255 -/
theorem backV {p : Program} {l : Launch} {e : Env} {R : Room} {s : State} {args : Array Value} {below : List Frame} {len W : Nat} {Z : State} {a0 : Array Value} {h : Heap} (hZ : Z.Warmed39 s.vm) (hw : ∀ d ∈ words, d.before a0 Z = true) {kI : Nat} (wi : (Jvm.Cond.instantiable ST kI).before a0 Z = true)
    {x b : Addr} {kC : ClassId} {cs bs : List Int32} {d v0 c0 : Value} {z N : Int32} {n n0 : Nat} (hx0 : n0 ≤ x) (hh0 : n0 ≤ h.size) (E : RoadKit.Exa Z h x ST) (V : RoadKit.Fld Z h x ST "value" "[B" v0) (C : RoadKit.Fld Z h x ST "coder" "B" c0) (K : RoadKit.Arv Z h b kC .char N (cs.map Value.int) d) (S : RoadKit.Sta Z h ST "COMPACT_STRINGS" "Z" (.int z)) (hz : ¬ z = 0)
    (hn : cs.length = n) (hN : N = Int32.ofNat n) (l0 : 0 < n) (l2 : n ≤ 4000) (hp : ∀ c ∈ cs, ¬ c < 0 ∧ ¬ (255 : Int32) < c) (hb : bs = cs.map (fun c => c.toInt8.toInt32)) (hfr : 4 ≤ R.frames) (hlo : W + 65 ≤ R.locals) :
    Back l R p e below s args (⟨"java/lang/String", "<init>", "([C)V"⟩ : MethodName) len W (fun P a => a = #[.ref x, .ref b] ∧ P.U.heap = h ∧ P.cells + 1 ≤ R.cells ∧ P.slots + n ≤ R.slots)
      (fun P _ v B => ∃ L, QV Z x N bs h n0 v B.U.heap L ∧ B.locs = P.locs ++ L ∧ B.cells = P.cells + 1 ∧ B.slots = P.slots + n) := by
  subst hn hN hb
  refine Back.mono (backArv hZ hw wi E V C K S hz (n32 (by omega)) l0 (by omega) (fun c hc => (hp c hc).2) hfr hlo) (fun P a hp => hp) (fun P a v B hp hq => ?_)
  obtain ⟨L, ⟨q1, q2, q3, q4, q5, q6, q7, ⟨kb, v1, v2⟩, q9⟩, hl, hc, hs⟩ := hq
  exact ⟨L, ⟨q1, fun y hy => by rw [q2 y hy]; exact hx0, q3, q5, q7, h.size, kb, hh0, Nat.le_refl _, Nat.ne_of_gt E.lt, q6, by rw [List.map_map]; exact v2⟩, hl, hc, hs⟩
end StrChars.Road
end Jvm.Pilot.@@N@@

namespace Jvm.Pilot.@@N@@
open Jvm Jvm.ClassFile Sem Op Lib Jvm.Free Jvm.Stand Jvm.LawKit Jvm.RoadKit Bundle Jvm.Pilot.@@N@@.Jvm.D
theorem own_hws {Z : State} {a0 : Array Value} (hw : ∀ d ∈ tables_1, d.before a0 Z = true) : ∀ d ∈ StrChars.Road.words, d.before a0 Z = true := fun d hd => hw d ((by decide +kernel : ∀ d ∈ StrChars.Road.words, d ∈ tables_1) d hd)
section OwnWide
variable {p : Program} {l : Launch} {e : Env} {R : Room} {s : State} {m : MethodId} {args : Array Value} {below : List Frame} {meth : Method} {c : Code} {T : State} {locs : List Loc} {cells slots : Nat}
variable {Q : Option Value → Heap → List Loc → Prop} {K N : Nat} {Z : State} {EL : List (String × Nat)} {vm0 : Vm} {a0 : Array Value}
/-- what a walk that may intern bears since its true start -/
def own_I (s Z : State) (EL : List (String × Nat)) (vm0 : Vm) (h : Heap) : Prop := CHr Z EL s.vm s.heap vm0 h ∧ ∃ k0, s.Since vm0 k0 ∧ k0 ≤ h.size
theorem own_I.start (H : CHv Z EL s.vm s.heap) : own_I s Z EL s.vm s.heap := ⟨CHr.refl H, s.heap.size, (State.WarmedH.refl s).since _, Nat.le_refl _⟩
theorem own_I.ext {h h' : Heap} (I : own_I s Z EL vm0 h) (E : Ext h h') : own_I s Z EL vm0 h' := by
  obtain ⟨C, k, hS, hk⟩ := I
  exact ⟨C.trans (CHr.ext E C.1), k, hS, Nat.le_trans hk E.1⟩
theorem own_I.wr {h h' : Heap} {a : Addr} {sl : Nat} {v : Value} (I : own_I s Z EL vm0 h) (W : Wr h h' a sl v) (Sf : Safe Z EL vm0 h a) : own_I s Z EL vm0 h' := by
  obtain ⟨C, k, hS, hk⟩ := I
  have q := CHr.wr W Sf C.1
  exact ⟨C.trans q, k, hS, Nat.le_trans hk q.2.1⟩
theorem own_I.keep {h h' : Heap} {ws : List Addr} (I : own_I s Z EL vm0 h) (K : Keep h h' ws) (Sf : ∀ x ∈ ws, Safe Z EL vm0 h x) : own_I s Z EL vm0 h' := by
  obtain ⟨C, k, hS, hk⟩ := I
  exact ⟨C.trans (CHr.keep K Sf C.1), k, hS, Nat.le_trans hk K.1⟩
theorem own_I.reb {h : Heap} {vm1 : Vm} {own : String} (I : own_I s Z EL vm0 h) (eT : T.heap = h) {T' : State} {locs' : List Loc} {cells' slots' : Nat} (X : Stand p l e R ((s.setVm vm0).setVm vm1) m args below meth c T' locs' cells' slots') (h2 : (s.setVm vm0).Since vm1 T'.heap.size) (g : T.heap.size ≤ T'.heap.size) (hZ : Z.Warmed39 (s.setVm vm0).vm) (hown : (s.setVm vm0).vm.findClass own = some m.cls) (C' : CHr Z EL vm0 h vm1 T'.heap) :
    Stand p l e R (s.setVm vm1) m args below meth c T' locs' cells' slots' ∧ own_I s Z EL vm1 T'.heap ∧ Z.Warmed39 (s.setVm vm1).vm ∧ (s.setVm vm1).vm.findClass own = some m.cls := by
  obtain ⟨C, k, hS, hk⟩ := I
  subst eT
  obtain ⟨q1, q2, q3, q4⟩ := rebS hS hk X h2 g hZ hown
  exact ⟨q1, ⟨C.trans C', _, q2, Nat.le_refl _⟩, q3, q4⟩
theorem own_safeNull {h : Heap} {vm : Vm} {x : Addr} (hal : Z.vm.Alike vm) (w : (Cond.instantiable "java/lang/String" 4).before a0 Z = true) (E : Exa Z h x "java/lang/String") (F : Fld Z h x "java/lang/String" "value" "[B" .null) : Safe Z EL vm h x := by
  rintro ⟨pp, -, u, a, -, q, -, ⟨cS, ⟨⟨s1, s2, s3, ⟨cv, kv, iv, s4, s4'⟩, -, s6, -, s8, -, s10, s11, s12, -⟩, hfS, hcS⟩, -⟩, rfl | rfl⟩
  · obtain ⟨c1, c2, k2, i2, f2, g1, g2, g3, g4, g5, g6, g7⟩ := F
    obtain ⟨kv', z4⟩ := ff_back (U := Wst Z vm h) hal s4
    cases g1.symm.trans s1
    cases g2.symm.trans z4
    cases g3.symm.trans s6
    cases g7.symm.trans s8
  · obtain ⟨c1, k1, e1, f1, g1, -⟩ := E
    cases e1.symm.trans s10
    obtain ⟨-, kk, hk, comp, hkind⟩ := s11
    obtain ⟨k', h1, h2⟩ := hal.2.2 _ _ g1
    cases hk.symm.trans h1
    simp only [Cond.before, Cond.holds, Cond.value, f1, Option.bind_some, g1, Option.map_some] at w
    have ho : k1.kind = .ordinary := by
      simp only [beq_iff_eq, Option.some.injEq, Bool.and_eq_true, decide_eq_true_eq] at w; exact w.1.1.1
    rw [h2] at hkind
    exact absurd (ho.symm.trans hkind) (fun q => by cases q)
/-- from the state U the body comes to its end, and leaves what Q says; it may have interned -/
def own_W (p : Program) (e : Env) (below : List Frame) (s : State) (Z : State) (EL : List (String × Nat)) (Q : Option Value → Heap → List Loc → Prop) (K N : Nat) (U : State) : Prop :=
  ∃ s₂ o, Steps p.tables e below U s₂ ∧ s₂.status = .running ∧ Ended s₂ below o ∧ ∃ v L, o = .returned v ∧ Q v s₂.heap L ∧ CHr Z EL s.vm s.heap s₂.vm s₂.heap ∧ ReturnedEndW s o s₂ L K N
theorem wwn_end (X : Stand p l e R (s.setVm vm0) m args below meth c T locs cells slots) (hZ : Z.Warmed39 vm0) (hEL : EW Z a0 EL) {h : Heap} (eT : T.heap = h) (I : own_I s Z EL vm0 h) {v : Option Value} (hv : meth.sig.returnType = none → v = none) (hlocks : meth.locks = false) {U : State}
    (st : ∀ fs, (∀ (f : JFrame) (acts : List Action), f.method = m → f.locked = none → f.entered = [] → (doReturn e (T.setTop f) acts v).1 = T.setFrames fs) → Steps p.tables e below U (T.setFrames fs))
    (hQ : Q v h locs) (hK : cells ≤ K) (hN : slots ≤ N) : own_W p e below s Z EL Q K N U := by
  obtain ⟨C, k0, hS, hk⟩ := I
  subst eT
  obtain ⟨fs, hr, hrun, hended, hE⟩ := X.leaveW hS hk hv hlocks
  exact ⟨_, _, st fs hr, hrun, hended, _, _, rfl, hQ, C.trans (show CHr Z EL vm0 T.heap T.vm T.heap from CHv.at X hZ hEL C.1), hE.1, hE.2.1, hE.2.2.1, hE.2.2.2.mono hK hN⟩
theorem own_ldc {h : Heap} {own text : String} {index : Nat} (X : Stand p l e R (s.setVm vm0) m args below meth c T locs cells slots) (hx : p.tables.exec = Jvm.exec) (hZ : Z.Warmed39 (s.setVm vm0).vm) (hown : (s.setVm vm0).vm.findClass own = some m.cls) (w : (Cond.stringLink own index text).before a0 Z = true) (wS : ∀ a ∈ Bundle.stringAtoms, a.before a0 Z = true)
    (eT : T.heap = h) (I : own_I s Z EL vm0 h) (hEL : EW Z a0 EL) (hmem : (own, index) ∈ EL)
    {vs : List Value} {z : Int32} (ht : (∀ c ∈ text.toList, c.toNat < 256) ∧ text.toList.map (fun c => Value.int (Jvm.Lit.byteI c.toNat.toUInt16)) = vs) (hz : ¬ z < 0) (hl : z.toNatClampNeg = vs.length)
    {g : JFrame} (hg : g.method = m) (hd : decode c.code g.pc = .ok (.ldc index, 2)) {n : Nat} (hn : 4 * text.toList.length ≤ n) (hbig : n ≤ 536870912) (hc : cells + 2 ≤ R.cells) (hl' : slots + (n + 4) ≤ R.slots) :
    ∃ (a : Addr) (T' : State) (h' : Heap) (b : Addr) (k : ClassId), Stand p l e R (s.setVm T'.vm) m args below meth c T' locs (cells + 2) (slots + (n + 4)) ∧ T'.heap = h' ∧ Ext h h' ∧ own_I s Z EL T'.vm h' ∧ Z.Warmed39 (s.setVm T'.vm).vm ∧ (s.setVm T'.vm).vm.findClass own = some m.cls ∧
      Exa Z h' a "java/lang/String" ∧ Fld Z h' a "java/lang/String" "coder" "B" (.int 0) ∧ Fld Z h' a "java/lang/String" "value" "[B" (.ref b) ∧ Arv Z h' b k .byte z vs (.int 0) ∧ (∀ x, x < h.size → Safe Z EL vm0 h x → Safe Z EL T'.vm h' x) ∧ (∀ x, Safe Z EL T'.vm h' x → x ≠ a ∧ x ≠ b) ∧
      ∀ target, Steps p.tables e below (T'.setTop { g with pc := g.pc + 2, stack := .ref a :: g.stack }) target → Steps p.tables e below (T.setTop g) target := by
  obtain ⟨C, k0, hS, hk⟩ := I
  obtain ⟨a, T', h', k1, b, k, r1, r2, r3, r4, r5, r6, r7, r8, r9, r10, r11, -, -, r14, -, r16, st⟩ := ldcCH X hx hZ hown w wS eT hS hk hEL hmem C.1 ht hz hl hg hd hn hbig hc hl'
  exact ⟨a, T', h', b, k, r1, r2, r3, ⟨C.trans r14, k1, r4, r5⟩, r6, r7, r8, r9, r10, r11, fun x hx q => r14.safe hx q, r16, st⟩
theorem wwn_go {U U' : State} (h : ∀ t, Steps p.tables e below U' t → Steps p.tables e below U t) (k : own_W p e below s Z EL Q K N U') : own_W p e below s Z EL Q K N U := by
  obtain ⟨s₂, o, h1, r⟩ := k
  exact ⟨s₂, o, h _ h1, r⟩
theorem wwn_retI (X : Stand p l e R (s.setVm vm0) m args below meth c T locs cells slots) (hx : p.tables.exec = Jvm.exec) (hZ : Z.Warmed39 vm0) (hEL : EW Z a0 EL) {pc : Nat} {Ls : Array Slot} {z : Int32} {rest : List Value} (hret : meth.sig.returnType = some .int) (hlocks : meth.locks = false) (hd : decode c.code pc = .ok (.ireturn, 1))
    {h : Heap} (eT : T.heap = h) (I : own_I s Z EL vm0 h) (hQ : Q (some (.int z)) h locs) (hK : cells ≤ K) (hN : slots ≤ N) : own_W p e below s Z EL Q K N (T.setTop (mkF m pc Ls (.int z :: rest))) :=
  wwn_end X hZ hEL eT I (fun h => by rw [hret] at h; cases h) hlocks (fun fs hr => retOut X hx hret rfl (Or.inl ⟨rfl, Or.inl rfl, _, rfl⟩) hd hr) hQ hK hN
theorem wwn_retJ (X : Stand p l e R (s.setVm vm0) m args below meth c T locs cells slots) (hx : p.tables.exec = Jvm.exec) (hZ : Z.Warmed39 vm0) (hEL : EW Z a0 EL) {pc : Nat} {Ls : Array Slot} {z : Int64} {rest : List Value} (hret : meth.sig.returnType = some .long) (hlocks : meth.locks = false) (hd : decode c.code pc = .ok (.lreturn, 1))
    {h : Heap} (eT : T.heap = h) (I : own_I s Z EL vm0 h) (hQ : Q (some (.long z)) h locs) (hK : cells ≤ K) (hN : slots ≤ N) : own_W p e below s Z EL Q K N (T.setTop (mkF m pc Ls (.long z :: rest))) :=
  wwn_end X hZ hEL eT I (fun h => by rw [hret] at h; cases h) hlocks (fun fs hr => retOut X hx hret rfl (Or.inr (Or.inl ⟨rfl, rfl, _, rfl⟩)) hd hr) hQ hK hN
theorem wwn_retD (X : Stand p l e R (s.setVm vm0) m args below meth c T locs cells slots) (hx : p.tables.exec = Jvm.exec) (hZ : Z.Warmed39 vm0) (hEL : EW Z a0 EL) {pc : Nat} {Ls : Array Slot} {z : UInt64} {rest : List Value} (hret : meth.sig.returnType = some .double) (hlocks : meth.locks = false) (hd : decode c.code pc = .ok (.dreturn, 1))
    {h : Heap} (eT : T.heap = h) (I : own_I s Z EL vm0 h) (hQ : Q (some (.double z)) h locs) (hK : cells ≤ K) (hN : slots ≤ N) : own_W p e below s Z EL Q K N (T.setTop (mkF m pc Ls (.double z :: rest))) :=
  wwn_end X hZ hEL eT I (fun h => by rw [hret] at h; cases h) hlocks (fun fs hr => retOut X hx hret rfl (Or.inr (Or.inr (Or.inl ⟨rfl, rfl, _, rfl⟩))) hd hr) hQ hK hN
theorem wwn_retA {t : FieldType} (ht : t.isReference = true) {w : Value} (hv : w.isRef = true) (X : Stand p l e R (s.setVm vm0) m args below meth c T locs cells slots) (hx : p.tables.exec = Jvm.exec) (hZ : Z.Warmed39 vm0) (hEL : EW Z a0 EL) {pc : Nat} {Ls : Array Slot} {rest : List Value} (hret : meth.sig.returnType = some t) (hlocks : meth.locks = false) (hd : decode c.code pc = .ok (.areturn, 1))
    {h : Heap} (eT : T.heap = h) (I : own_I s Z EL vm0 h) (hQ : Q (some w) h locs) (hK : cells ≤ K) (hN : slots ≤ N) : own_W p e below s Z EL Q K N (T.setTop (mkF m pc Ls (w :: rest))) :=
  wwn_end X hZ hEL eT I (fun h => by rw [hret] at h; cases h) hlocks (fun fs hr => retOut X hx hret (by cases t <;> first | rfl | (cases ht)) (Or.inr (Or.inr (Or.inr (Or.inr ⟨rfl, ht, hv⟩)))) hd hr) hQ hK hN
theorem wwn_retN {t : FieldType} (ht : t = .boolean ∨ t = .byte ∨ t = .char ∨ t = .short) (X : Stand p l e R (s.setVm vm0) m args below meth c T locs cells slots) (hx : p.tables.exec = Jvm.exec) (hZ : Z.Warmed39 vm0) (hEL : EW Z a0 EL) {pc : Nat} {Ls : Array Slot} {z : Int32} {rest : List Value} (hret : meth.sig.returnType = some t) (hlocks : meth.locks = false) (hd : decode c.code pc = .ok (.ireturn, 1))
    {h : Heap} (eT : T.heap = h) (I : own_I s Z EL vm0 h) (hQ : Q (some (.int (nar t z))) h locs) (hK : cells ≤ K) (hN : slots ≤ N) : own_W p e below s Z EL Q K N (T.setTop (mkF m pc Ls (.int z :: rest))) :=
  wwn_end X hZ hEL eT I (fun h => by rw [hret] at h; cases h) hlocks (fun fs hr => retN X hx hret ht hd hr) hQ hK hN
theorem wwn_ret0 (X : Stand p l e R (s.setVm vm0) m args below meth c T locs cells slots) (hx : p.tables.exec = Jvm.exec) (hZ : Z.Warmed39 vm0) (hEL : EW Z a0 EL) {pc : Nat} {Ls : Array Slot} (hret : meth.sig.returnType = none) (hlocks : meth.locks = false) (hd : decode c.code pc = .ok (.return_, 1))
    {h : Heap} (eT : T.heap = h) (I : own_I s Z EL vm0 h) (hQ : Q none h locs) (hK : cells ≤ K) (hN : slots ≤ N) : own_W p e below s Z EL Q K N (T.setTop (mkF m pc Ls [])) :=
  wwn_end X hZ hEL eT I (fun _ => rfl) hlocks (fun fs hr => X.returnOut hx hret hd hr) hQ hK hN
theorem wwn_ic_ltY (X : Stand p l e R (s.setVm vm0) m args below meth c T locs cells slots) (hx : p.tables.exec = Jvm.exec) {pc pc' : Nat} {Ls : Array Slot} {rest : List Value} {o : Int} {x y : Int32} (hd : decode c.code pc = .ok (.if_icmp .lt o, 3)) (ho : 0 ≤ (pc : Int) + o) (hp : ((pc : Int) + o).toNat = pc') (h : x < y) (k : own_W p e below s Z EL Q K N (T.setTop (mkF m pc' Ls rest))) : own_W p e below s Z EL Q K N (T.setTop (mkF m pc Ls (.int y :: .int x :: rest))) :=
  wwn_go (fun _ k => XS.icmpYes X.here hx rfl (pc0 := pc) (pc' := pc') rfl hd rfl (tlt h).1 ho hp k) k
theorem wwn_ic_ltN (X : Stand p l e R (s.setVm vm0) m args below meth c T locs cells slots) (hx : p.tables.exec = Jvm.exec) {pc : Nat} {Ls : Array Slot} {rest : List Value} {o : Int} {x y : Int32} (hd : decode c.code pc = .ok (.if_icmp .lt o, 3)) (h : ¬ (x < y)) (k : own_W p e below s Z EL Q K N (T.setTop (mkF m (pc + 3) Ls rest))) : own_W p e below s Z EL Q K N (T.setTop (mkF m pc Ls (.int y :: .int x :: rest))) :=
  wwn_go (fun _ k => XS.icmpNo X.here hx rfl hd rfl (flt h).1 k) k
theorem wwn_ic_lt (X : Stand p l e R (s.setVm vm0) m args below meth c T locs cells slots) (hx : p.tables.exec = Jvm.exec) {pc pc' : Nat} {Ls : Array Slot} {rest : List Value} {o : Int} {x y : Int32} (hd : decode c.code pc = .ok (.if_icmp .lt o, 3)) (ho : 0 ≤ (pc : Int) + o) (hp : ((pc : Int) + o).toNat = pc') (ky : x < y → own_W p e below s Z EL Q K N (T.setTop (mkF m pc' Ls rest))) (kn : ¬ (x < y) → own_W p e below s Z EL Q K N (T.setTop (mkF m (pc + 3) Ls rest))) : own_W p e below s Z EL Q K N (T.setTop (mkF m pc Ls (.int y :: .int x :: rest))) := by
  by_cases h : x < y
  · exact wwn_ic_ltY X hx hd ho hp h (ky h)
  · exact wwn_ic_ltN X hx hd h (kn h)
theorem wwn_if_ltY (X : Stand p l e R (s.setVm vm0) m args below meth c T locs cells slots) (hx : p.tables.exec = Jvm.exec) {pc pc' : Nat} {Ls : Array Slot} {rest : List Value} {o : Int} {x : Int32} (hd : decode c.code pc = .ok (.ifCond .lt o, 3)) (ho : 0 ≤ (pc : Int) + o) (hp : ((pc : Int) + o).toNat = pc') (h : x < 0) (k : own_W p e below s Z EL Q K N (T.setTop (mkF m pc' Ls rest))) : own_W p e below s Z EL Q K N (T.setTop (mkF m pc Ls (.int x :: rest))) :=
  wwn_go (fun _ k => XS.ifYes X.here hx rfl (pc0 := pc) (pc' := pc') rfl hd rfl ((if0 _ _).trans (tlt h).1) ho hp k) k
theorem wwn_if_ltN (X : Stand p l e R (s.setVm vm0) m args below meth c T locs cells slots) (hx : p.tables.exec = Jvm.exec) {pc : Nat} {Ls : Array Slot} {rest : List Value} {o : Int} {x : Int32} (hd : decode c.code pc = .ok (.ifCond .lt o, 3)) (h : ¬ (x < 0)) (k : own_W p e below s Z EL Q K N (T.setTop (mkF m (pc + 3) Ls rest))) : own_W p e below s Z EL Q K N (T.setTop (mkF m pc Ls (.int x :: rest))) :=
  wwn_go (fun _ k => XS.ifNo X.here hx rfl hd rfl ((if0 _ _).trans (flt h).1) k) k
theorem wwn_if_lt (X : Stand p l e R (s.setVm vm0) m args below meth c T locs cells slots) (hx : p.tables.exec = Jvm.exec) {pc pc' : Nat} {Ls : Array Slot} {rest : List Value} {o : Int} {x : Int32} (hd : decode c.code pc = .ok (.ifCond .lt o, 3)) (ho : 0 ≤ (pc : Int) + o) (hp : ((pc : Int) + o).toNat = pc') (ky : x < 0 → own_W p e below s Z EL Q K N (T.setTop (mkF m pc' Ls rest))) (kn : ¬ (x < 0) → own_W p e below s Z EL Q K N (T.setTop (mkF m (pc + 3) Ls rest))) : own_W p e below s Z EL Q K N (T.setTop (mkF m pc Ls (.int x :: rest))) := by
  by_cases h : x < 0
  · exact wwn_if_ltY X hx hd ho hp h (ky h)
  · exact wwn_if_ltN X hx hd h (kn h)
theorem wwn_ic_geY (X : Stand p l e R (s.setVm vm0) m args below meth c T locs cells slots) (hx : p.tables.exec = Jvm.exec) {pc pc' : Nat} {Ls : Array Slot} {rest : List Value} {o : Int} {x y : Int32} (hd : decode c.code pc = .ok (.if_icmp .ge o, 3)) (ho : 0 ≤ (pc : Int) + o) (hp : ((pc : Int) + o).toNat = pc') (h : ¬ (x < y)) (k : own_W p e below s Z EL Q K N (T.setTop (mkF m pc' Ls rest))) : own_W p e below s Z EL Q K N (T.setTop (mkF m pc Ls (.int y :: .int x :: rest))) :=
  wwn_go (fun _ k => XS.icmpYes X.here hx rfl (pc0 := pc) (pc' := pc') rfl hd rfl (flt h).2.1 ho hp k) k
theorem wwn_ic_geN (X : Stand p l e R (s.setVm vm0) m args below meth c T locs cells slots) (hx : p.tables.exec = Jvm.exec) {pc : Nat} {Ls : Array Slot} {rest : List Value} {o : Int} {x y : Int32} (hd : decode c.code pc = .ok (.if_icmp .ge o, 3)) (h : x < y) (k : own_W p e below s Z EL Q K N (T.setTop (mkF m (pc + 3) Ls rest))) : own_W p e below s Z EL Q K N (T.setTop (mkF m pc Ls (.int y :: .int x :: rest))) :=
  wwn_go (fun _ k => XS.icmpNo X.here hx rfl hd rfl (tlt h).2.1 k) k
theorem wwn_ic_ge (X : Stand p l e R (s.setVm vm0) m args below meth c T locs cells slots) (hx : p.tables.exec = Jvm.exec) {pc pc' : Nat} {Ls : Array Slot} {rest : List Value} {o : Int} {x y : Int32} (hd : decode c.code pc = .ok (.if_icmp .ge o, 3)) (ho : 0 ≤ (pc : Int) + o) (hp : ((pc : Int) + o).toNat = pc') (ky : ¬ (x < y) → own_W p e below s Z EL Q K N (T.setTop (mkF m pc' Ls rest))) (kn : x < y → own_W p e below s Z EL Q K N (T.setTop (mkF m (pc + 3) Ls rest))) : own_W p e below s Z EL Q K N (T.setTop (mkF m pc Ls (.int y :: .int x :: rest))) := by
  by_cases h : x < y
  · exact wwn_ic_geN X hx hd h (kn h)
  · exact wwn_ic_geY X hx hd ho hp h (ky h)
theorem wwn_if_geY (X : Stand p l e R (s.setVm vm0) m args below meth c T locs cells slots) (hx : p.tables.exec = Jvm.exec) {pc pc' : Nat} {Ls : Array Slot} {rest : List Value} {o : Int} {x : Int32} (hd : decode c.code pc = .ok (.ifCond .ge o, 3)) (ho : 0 ≤ (pc : Int) + o) (hp : ((pc : Int) + o).toNat = pc') (h : ¬ (x < 0)) (k : own_W p e below s Z EL Q K N (T.setTop (mkF m pc' Ls rest))) : own_W p e below s Z EL Q K N (T.setTop (mkF m pc Ls (.int x :: rest))) :=
  wwn_go (fun _ k => XS.ifYes X.here hx rfl (pc0 := pc) (pc' := pc') rfl hd rfl ((if0 _ _).trans (flt h).2.1) ho hp k) k
theorem wwn_if_geN (X : Stand p l e R (s.setVm vm0) m args below meth c T locs cells slots) (hx : p.tables.exec = Jvm.exec) {pc : Nat} {Ls : Array Slot} {rest : List Value} {o : Int} {x : Int32} (hd : decode c.code pc = .ok (.ifCond .ge o, 3)) (h : x < 0) (k : own_W p e below s Z EL Q K N (T.setTop (mkF m (pc + 3) Ls rest))) : own_W p e below s Z EL Q K N (T.setTop (mkF m pc Ls (.int x :: rest))) :=
  wwn_go (fun _ k => XS.ifNo X.here hx rfl hd rfl ((if0 _ _).trans (tlt h).2.1) k) k
theorem wwn_if_ge (X : Stand p l e R (s.setVm vm0) m args below meth c T locs cells slots) (hx : p.tables.exec = Jvm.exec) {pc pc' : Nat} {Ls : Array Slot} {rest : List Value} {o : Int} {x : Int32} (hd : decode c.code pc = .ok (.ifCond .ge o, 3)) (ho : 0 ≤ (pc : Int) + o) (hp : ((pc : Int) + o).toNat = pc') (ky : ¬ (x < 0) → own_W p e below s Z EL Q K N (T.setTop (mkF m pc' Ls rest))) (kn : x < 0 → own_W p e below s Z EL Q K N (T.setTop (mkF m (pc + 3) Ls rest))) : own_W p e below s Z EL Q K N (T.setTop (mkF m pc Ls (.int x :: rest))) := by
  by_cases h : x < 0
  · exact wwn_if_geN X hx hd h (kn h)
  · exact wwn_if_geY X hx hd ho hp h (ky h)
theorem wwn_ic_gtY (X : Stand p l e R (s.setVm vm0) m args below meth c T locs cells slots) (hx : p.tables.exec = Jvm.exec) {pc pc' : Nat} {Ls : Array Slot} {rest : List Value} {o : Int} {x y : Int32} (hd : decode c.code pc = .ok (.if_icmp .gt o, 3)) (ho : 0 ≤ (pc : Int) + o) (hp : ((pc : Int) + o).toNat = pc') (h : y < x) (k : own_W p e below s Z EL Q K N (T.setTop (mkF m pc' Ls rest))) : own_W p e below s Z EL Q K N (T.setTop (mkF m pc Ls (.int y :: .int x :: rest))) :=
  wwn_go (fun _ k => XS.icmpYes X.here hx rfl (pc0 := pc) (pc' := pc') rfl hd rfl (tlt h).2.2.1 ho hp k) k
theorem wwn_ic_gtN (X : Stand p l e R (s.setVm vm0) m args below meth c T locs cells slots) (hx : p.tables.exec = Jvm.exec) {pc : Nat} {Ls : Array Slot} {rest : List Value} {o : Int} {x y : Int32} (hd : decode c.code pc = .ok (.if_icmp .gt o, 3)) (h : ¬ (y < x)) (k : own_W p e below s Z EL Q K N (T.setTop (mkF m (pc + 3) Ls rest))) : own_W p e below s Z EL Q K N (T.setTop (mkF m pc Ls (.int y :: .int x :: rest))) :=
  wwn_go (fun _ k => XS.icmpNo X.here hx rfl hd rfl (flt h).2.2.1 k) k
theorem wwn_ic_gt (X : Stand p l e R (s.setVm vm0) m args below meth c T locs cells slots) (hx : p.tables.exec = Jvm.exec) {pc pc' : Nat} {Ls : Array Slot} {rest : List Value} {o : Int} {x y : Int32} (hd : decode c.code pc = .ok (.if_icmp .gt o, 3)) (ho : 0 ≤ (pc : Int) + o) (hp : ((pc : Int) + o).toNat = pc') (ky : y < x → own_W p e below s Z EL Q K N (T.setTop (mkF m pc' Ls rest))) (kn : ¬ (y < x) → own_W p e below s Z EL Q K N (T.setTop (mkF m (pc + 3) Ls rest))) : own_W p e below s Z EL Q K N (T.setTop (mkF m pc Ls (.int y :: .int x :: rest))) := by
  by_cases h : y < x
  · exact wwn_ic_gtY X hx hd ho hp h (ky h)
  · exact wwn_ic_gtN X hx hd h (kn h)
theorem wwn_if_gtY (X : Stand p l e R (s.setVm vm0) m args below meth c T locs cells slots) (hx : p.tables.exec = Jvm.exec) {pc pc' : Nat} {Ls : Array Slot} {rest : List Value} {o : Int} {x : Int32} (hd : decode c.code pc = .ok (.ifCond .gt o, 3)) (ho : 0 ≤ (pc : Int) + o) (hp : ((pc : Int) + o).toNat = pc') (h : 0 < x) (k : own_W p e below s Z EL Q K N (T.setTop (mkF m pc' Ls rest))) : own_W p e below s Z EL Q K N (T.setTop (mkF m pc Ls (.int x :: rest))) :=
  wwn_go (fun _ k => XS.ifYes X.here hx rfl (pc0 := pc) (pc' := pc') rfl hd rfl ((if0 _ _).trans (tlt h).2.2.1) ho hp k) k
theorem wwn_if_gtN (X : Stand p l e R (s.setVm vm0) m args below meth c T locs cells slots) (hx : p.tables.exec = Jvm.exec) {pc : Nat} {Ls : Array Slot} {rest : List Value} {o : Int} {x : Int32} (hd : decode c.code pc = .ok (.ifCond .gt o, 3)) (h : ¬ (0 < x)) (k : own_W p e below s Z EL Q K N (T.setTop (mkF m (pc + 3) Ls rest))) : own_W p e below s Z EL Q K N (T.setTop (mkF m pc Ls (.int x :: rest))) :=
  wwn_go (fun _ k => XS.ifNo X.here hx rfl hd rfl ((if0 _ _).trans (flt h).2.2.1) k) k
theorem wwn_if_gt (X : Stand p l e R (s.setVm vm0) m args below meth c T locs cells slots) (hx : p.tables.exec = Jvm.exec) {pc pc' : Nat} {Ls : Array Slot} {rest : List Value} {o : Int} {x : Int32} (hd : decode c.code pc = .ok (.ifCond .gt o, 3)) (ho : 0 ≤ (pc : Int) + o) (hp : ((pc : Int) + o).toNat = pc') (ky : 0 < x → own_W p e below s Z EL Q K N (T.setTop (mkF m pc' Ls rest))) (kn : ¬ (0 < x) → own_W p e below s Z EL Q K N (T.setTop (mkF m (pc + 3) Ls rest))) : own_W p e below s Z EL Q K N (T.setTop (mkF m pc Ls (.int x :: rest))) := by
  by_cases h : 0 < x
  · exact wwn_if_gtY X hx hd ho hp h (ky h)
  · exact wwn_if_gtN X hx hd h (kn h)
theorem wwn_ic_leY (X : Stand p l e R (s.setVm vm0) m args below meth c T locs cells slots) (hx : p.tables.exec = Jvm.exec) {pc pc' : Nat} {Ls : Array Slot} {rest : List Value} {o : Int} {x y : Int32} (hd : decode c.code pc = .ok (.if_icmp .le o, 3)) (ho : 0 ≤ (pc : Int) + o) (hp : ((pc : Int) + o).toNat = pc') (h : ¬ (y < x)) (k : own_W p e below s Z EL Q K N (T.setTop (mkF m pc' Ls rest))) : own_W p e below s Z EL Q K N (T.setTop (mkF m pc Ls (.int y :: .int x :: rest))) :=
  wwn_go (fun _ k => XS.icmpYes X.here hx rfl (pc0 := pc) (pc' := pc') rfl hd rfl (flt h).2.2.2 ho hp k) k
theorem wwn_ic_leN (X : Stand p l e R (s.setVm vm0) m args below meth c T locs cells slots) (hx : p.tables.exec = Jvm.exec) {pc : Nat} {Ls : Array Slot} {rest : List Value} {o : Int} {x y : Int32} (hd : decode c.code pc = .ok (.if_icmp .le o, 3)) (h : y < x) (k : own_W p e below s Z EL Q K N (T.setTop (mkF m (pc + 3) Ls rest))) : own_W p e below s Z EL Q K N (T.setTop (mkF m pc Ls (.int y :: .int x :: rest))) :=
  wwn_go (fun _ k => XS.icmpNo X.here hx rfl hd rfl (tlt h).2.2.2 k) k
theorem wwn_ic_le (X : Stand p l e R (s.setVm vm0) m args below meth c T locs cells slots) (hx : p.tables.exec = Jvm.exec) {pc pc' : Nat} {Ls : Array Slot} {rest : List Value} {o : Int} {x y : Int32} (hd : decode c.code pc = .ok (.if_icmp .le o, 3)) (ho : 0 ≤ (pc : Int) + o) (hp : ((pc : Int) + o).toNat = pc') (ky : ¬ (y < x) → own_W p e below s Z EL Q K N (T.setTop (mkF m pc' Ls rest))) (kn : y < x → own_W p e below s Z EL Q K N (T.setTop (mkF m (pc + 3) Ls rest))) : own_W p e below s Z EL Q K N (T.setTop (mkF m pc Ls (.int y :: .int x :: rest))) := by
  by_cases h : y < x
  · exact wwn_ic_leN X hx hd h (kn h)
  · exact wwn_ic_leY X hx hd ho hp h (ky h)
theorem wwn_if_leY (X : Stand p l e R (s.setVm vm0) m args below meth c T locs cells slots) (hx : p.tables.exec = Jvm.exec) {pc pc' : Nat} {Ls : Array Slot} {rest : List Value} {o : Int} {x : Int32} (hd : decode c.code pc = .ok (.ifCond .le o, 3)) (ho : 0 ≤ (pc : Int) + o) (hp : ((pc : Int) + o).toNat = pc') (h : ¬ (0 < x)) (k : own_W p e below s Z EL Q K N (T.setTop (mkF m pc' Ls rest))) : own_W p e below s Z EL Q K N (T.setTop (mkF m pc Ls (.int x :: rest))) :=
  wwn_go (fun _ k => XS.ifYes X.here hx rfl (pc0 := pc) (pc' := pc') rfl hd rfl ((if0 _ _).trans (flt h).2.2.2) ho hp k) k
theorem wwn_if_leN (X : Stand p l e R (s.setVm vm0) m args below meth c T locs cells slots) (hx : p.tables.exec = Jvm.exec) {pc : Nat} {Ls : Array Slot} {rest : List Value} {o : Int} {x : Int32} (hd : decode c.code pc = .ok (.ifCond .le o, 3)) (h : 0 < x) (k : own_W p e below s Z EL Q K N (T.setTop (mkF m (pc + 3) Ls rest))) : own_W p e below s Z EL Q K N (T.setTop (mkF m pc Ls (.int x :: rest))) :=
  wwn_go (fun _ k => XS.ifNo X.here hx rfl hd rfl ((if0 _ _).trans (tlt h).2.2.2) k) k
theorem wwn_if_le (X : Stand p l e R (s.setVm vm0) m args below meth c T locs cells slots) (hx : p.tables.exec = Jvm.exec) {pc pc' : Nat} {Ls : Array Slot} {rest : List Value} {o : Int} {x : Int32} (hd : decode c.code pc = .ok (.ifCond .le o, 3)) (ho : 0 ≤ (pc : Int) + o) (hp : ((pc : Int) + o).toNat = pc') (ky : ¬ (0 < x) → own_W p e below s Z EL Q K N (T.setTop (mkF m pc' Ls rest))) (kn : 0 < x → own_W p e below s Z EL Q K N (T.setTop (mkF m (pc + 3) Ls rest))) : own_W p e below s Z EL Q K N (T.setTop (mkF m pc Ls (.int x :: rest))) := by
  by_cases h : 0 < x
  · exact wwn_if_leN X hx hd h (kn h)
  · exact wwn_if_leY X hx hd ho hp h (ky h)
theorem wwn_ic_eqY (X : Stand p l e R (s.setVm vm0) m args below meth c T locs cells slots) (hx : p.tables.exec = Jvm.exec) {pc pc' : Nat} {Ls : Array Slot} {rest : List Value} {o : Int} {x y : Int32} (hd : decode c.code pc = .ok (.if_icmp .eq o, 3)) (ho : 0 ≤ (pc : Int) + o) (hp : ((pc : Int) + o).toNat = pc') (h : x = y) (k : own_W p e below s Z EL Q K N (T.setTop (mkF m pc' Ls rest))) : own_W p e below s Z EL Q K N (T.setTop (mkF m pc Ls (.int y :: .int x :: rest))) :=
  wwn_go (fun _ k => XS.icmpYes X.here hx rfl (pc0 := pc) (pc' := pc') rfl hd rfl (teq h).1 ho hp k) k
theorem wwn_ic_eqN (X : Stand p l e R (s.setVm vm0) m args below meth c T locs cells slots) (hx : p.tables.exec = Jvm.exec) {pc : Nat} {Ls : Array Slot} {rest : List Value} {o : Int} {x y : Int32} (hd : decode c.code pc = .ok (.if_icmp .eq o, 3)) (h : ¬ (x = y)) (k : own_W p e below s Z EL Q K N (T.setTop (mkF m (pc + 3) Ls rest))) : own_W p e below s Z EL Q K N (T.setTop (mkF m pc Ls (.int y :: .int x :: rest))) :=
  wwn_go (fun _ k => XS.icmpNo X.here hx rfl hd rfl (feq h).1 k) k
theorem wwn_ic_eq (X : Stand p l e R (s.setVm vm0) m args below meth c T locs cells slots) (hx : p.tables.exec = Jvm.exec) {pc pc' : Nat} {Ls : Array Slot} {rest : List Value} {o : Int} {x y : Int32} (hd : decode c.code pc = .ok (.if_icmp .eq o, 3)) (ho : 0 ≤ (pc : Int) + o) (hp : ((pc : Int) + o).toNat = pc') (ky : x = y → own_W p e below s Z EL Q K N (T.setTop (mkF m pc' Ls rest))) (kn : ¬ (x = y) → own_W p e below s Z EL Q K N (T.setTop (mkF m (pc + 3) Ls rest))) : own_W p e below s Z EL Q K N (T.setTop (mkF m pc Ls (.int y :: .int x :: rest))) := by
  by_cases h : x = y
  · exact wwn_ic_eqY X hx hd ho hp h (ky h)
  · exact wwn_ic_eqN X hx hd h (kn h)
theorem wwn_if_eqY (X : Stand p l e R (s.setVm vm0) m args below meth c T locs cells slots) (hx : p.tables.exec = Jvm.exec) {pc pc' : Nat} {Ls : Array Slot} {rest : List Value} {o : Int} {x : Int32} (hd : decode c.code pc = .ok (.ifCond .eq o, 3)) (ho : 0 ≤ (pc : Int) + o) (hp : ((pc : Int) + o).toNat = pc') (h : x = 0) (k : own_W p e below s Z EL Q K N (T.setTop (mkF m pc' Ls rest))) : own_W p e below s Z EL Q K N (T.setTop (mkF m pc Ls (.int x :: rest))) :=
  wwn_go (fun _ k => XS.ifYes X.here hx rfl (pc0 := pc) (pc' := pc') rfl hd rfl ((if0 _ _).trans (teq h).1) ho hp k) k
theorem wwn_if_eqN (X : Stand p l e R (s.setVm vm0) m args below meth c T locs cells slots) (hx : p.tables.exec = Jvm.exec) {pc : Nat} {Ls : Array Slot} {rest : List Value} {o : Int} {x : Int32} (hd : decode c.code pc = .ok (.ifCond .eq o, 3)) (h : ¬ (x = 0)) (k : own_W p e below s Z EL Q K N (T.setTop (mkF m (pc + 3) Ls rest))) : own_W p e below s Z EL Q K N (T.setTop (mkF m pc Ls (.int x :: rest))) :=
  wwn_go (fun _ k => XS.ifNo X.here hx rfl hd rfl ((if0 _ _).trans (feq h).1) k) k
theorem wwn_if_eq (X : Stand p l e R (s.setVm vm0) m args below meth c T locs cells slots) (hx : p.tables.exec = Jvm.exec) {pc pc' : Nat} {Ls : Array Slot} {rest : List Value} {o : Int} {x : Int32} (hd : decode c.code pc = .ok (.ifCond .eq o, 3)) (ho : 0 ≤ (pc : Int) + o) (hp : ((pc : Int) + o).toNat = pc') (ky : x = 0 → own_W p e below s Z EL Q K N (T.setTop (mkF m pc' Ls rest))) (kn : ¬ (x = 0) → own_W p e below s Z EL Q K N (T.setTop (mkF m (pc + 3) Ls rest))) : own_W p e below s Z EL Q K N (T.setTop (mkF m pc Ls (.int x :: rest))) := by
  by_cases h : x = 0
  · exact wwn_if_eqY X hx hd ho hp h (ky h)
  · exact wwn_if_eqN X hx hd h (kn h)
theorem wwn_ic_neY (X : Stand p l e R (s.setVm vm0) m args below meth c T locs cells slots) (hx : p.tables.exec = Jvm.exec) {pc pc' : Nat} {Ls : Array Slot} {rest : List Value} {o : Int} {x y : Int32} (hd : decode c.code pc = .ok (.if_icmp .ne o, 3)) (ho : 0 ≤ (pc : Int) + o) (hp : ((pc : Int) + o).toNat = pc') (h : ¬ (x = y)) (k : own_W p e below s Z EL Q K N (T.setTop (mkF m pc' Ls rest))) : own_W p e below s Z EL Q K N (T.setTop (mkF m pc Ls (.int y :: .int x :: rest))) :=
  wwn_go (fun _ k => XS.icmpYes X.here hx rfl (pc0 := pc) (pc' := pc') rfl hd rfl (feq h).2 ho hp k) k
theorem wwn_ic_neN (X : Stand p l e R (s.setVm vm0) m args below meth c T locs cells slots) (hx : p.tables.exec = Jvm.exec) {pc : Nat} {Ls : Array Slot} {rest : List Value} {o : Int} {x y : Int32} (hd : decode c.code pc = .ok (.if_icmp .ne o, 3)) (h : x = y) (k : own_W p e below s Z EL Q K N (T.setTop (mkF m (pc + 3) Ls rest))) : own_W p e below s Z EL Q K N (T.setTop (mkF m pc Ls (.int y :: .int x :: rest))) :=
  wwn_go (fun _ k => XS.icmpNo X.here hx rfl hd rfl (teq h).2 k) k
theorem wwn_ic_ne (X : Stand p l e R (s.setVm vm0) m args below meth c T locs cells slots) (hx : p.tables.exec = Jvm.exec) {pc pc' : Nat} {Ls : Array Slot} {rest : List Value} {o : Int} {x y : Int32} (hd : decode c.code pc = .ok (.if_icmp .ne o, 3)) (ho : 0 ≤ (pc : Int) + o) (hp : ((pc : Int) + o).toNat = pc') (ky : ¬ (x = y) → own_W p e below s Z EL Q K N (T.setTop (mkF m pc' Ls rest))) (kn : x = y → own_W p e below s Z EL Q K N (T.setTop (mkF m (pc + 3) Ls rest))) : own_W p e below s Z EL Q K N (T.setTop (mkF m pc Ls (.int y :: .int x :: rest))) := by
  by_cases h : x = y
  · exact wwn_ic_neN X hx hd h (kn h)
  · exact wwn_ic_neY X hx hd ho hp h (ky h)
theorem wwn_if_neY (X : Stand p l e R (s.setVm vm0) m args below meth c T locs cells slots) (hx : p.tables.exec = Jvm.exec) {pc pc' : Nat} {Ls : Array Slot} {rest : List Value} {o : Int} {x : Int32} (hd : decode c.code pc = .ok (.ifCond .ne o, 3)) (ho : 0 ≤ (pc : Int) + o) (hp : ((pc : Int) + o).toNat = pc') (h : ¬ (x = 0)) (k : own_W p e below s Z EL Q K N (T.setTop (mkF m pc' Ls rest))) : own_W p e below s Z EL Q K N (T.setTop (mkF m pc Ls (.int x :: rest))) :=
  wwn_go (fun _ k => XS.ifYes X.here hx rfl (pc0 := pc) (pc' := pc') rfl hd rfl ((if0 _ _).trans (feq h).2) ho hp k) k
theorem wwn_if_neN (X : Stand p l e R (s.setVm vm0) m args below meth c T locs cells slots) (hx : p.tables.exec = Jvm.exec) {pc : Nat} {Ls : Array Slot} {rest : List Value} {o : Int} {x : Int32} (hd : decode c.code pc = .ok (.ifCond .ne o, 3)) (h : x = 0) (k : own_W p e below s Z EL Q K N (T.setTop (mkF m (pc + 3) Ls rest))) : own_W p e below s Z EL Q K N (T.setTop (mkF m pc Ls (.int x :: rest))) :=
  wwn_go (fun _ k => XS.ifNo X.here hx rfl hd rfl ((if0 _ _).trans (teq h).2) k) k
theorem wwn_if_ne (X : Stand p l e R (s.setVm vm0) m args below meth c T locs cells slots) (hx : p.tables.exec = Jvm.exec) {pc pc' : Nat} {Ls : Array Slot} {rest : List Value} {o : Int} {x : Int32} (hd : decode c.code pc = .ok (.ifCond .ne o, 3)) (ho : 0 ≤ (pc : Int) + o) (hp : ((pc : Int) + o).toNat = pc') (ky : ¬ (x = 0) → own_W p e below s Z EL Q K N (T.setTop (mkF m pc' Ls rest))) (kn : x = 0 → own_W p e below s Z EL Q K N (T.setTop (mkF m (pc + 3) Ls rest))) : own_W p e below s Z EL Q K N (T.setTop (mkF m pc Ls (.int x :: rest))) := by
  by_cases h : x = 0
  · exact wwn_if_neN X hx hd h (kn h)
  · exact wwn_if_neY X hx hd ho hp h (ky h)
end OwnWide

def own_EL : List (String × Nat) := [("java/lang/String", 7)]
theorem own_hEL {Z : State} {a0 : Array Value} (hw : ∀ d ∈ tables_1, d.before a0 Z = true) : EW Z a0 own_EL := (EW.cons (text := "") (hw _ (List.mem_of_getElem? (i := 41) rfl)) (by decide) EW.nil)
theorem own_wS {Z : State} {a0 : Array Value} (hw : ∀ d ∈ tables_1, d.before a0 Z = true) : ∀ a ∈ Bundle.stringAtoms, a.before a0 Z = true := by
  intro d hd
  simp only [Bundle.stringAtoms, List.mem_cons, List.not_mem_nil, or_false] at hd
  rcases hd with rfl | rfl | rfl | rfl | rfl | rfl | rfl
  · exact (hw _ (List.mem_of_getElem? (i := 31) rfl))
  · exact (hw _ (List.mem_of_getElem? (i := 30) rfl))
  · exact (hw _ (List.mem_of_getElem? (i := 42) rfl))
  · exact (hw _ (List.mem_of_getElem? (i := 43) rfl))
  · exact (hw _ (List.mem_of_getElem? (i := 44) rfl))
  · exact (hw _ (List.mem_of_getElem? (i := 45) rfl))
  · exact (hw _ (List.mem_of_getElem? (i := 46) rfl))
theorem d7_0 : decode jdk_42_method_149_code 0 = .ok (.aload_n 0, 1) := by decide +kernel
theorem d7_1 : decode jdk_42_method_149_code 1 = .ok (.invokespecial 1, 3) := by decide +kernel
theorem d7_4 : decode jdk_42_method_149_code 4 = .ok (.iload_n 3, 1) := by decide +kernel
theorem d7_5 : decode jdk_42_method_149_code 5 = .ok (.ifCond .ne 22, 3) := by decide +kernel
theorem d7_8 : decode jdk_42_method_149_code 8 = .ok (.aload_n 0, 1) := by decide +kernel
theorem d7_9 : decode jdk_42_method_149_code 9 = .ok (.ldc 7, 2) := by decide +kernel
theorem d7_11 : decode jdk_42_method_149_code 11 = .ok (.getfield 9, 3) := by decide +kernel
theorem d7_14 : decode jdk_42_method_149_code 14 = .ok (.putfield 9, 3) := by decide +kernel
theorem d7_17 : decode jdk_42_method_149_code 17 = .ok (.aload_n 0, 1) := by decide +kernel
theorem d7_18 : decode jdk_42_method_149_code 18 = .ok (.ldc 7, 2) := by decide +kernel
theorem d7_20 : decode jdk_42_method_149_code 20 = .ok (.getfield 15, 3) := by decide +kernel
theorem d7_23 : decode jdk_42_method_149_code 23 = .ok (.putfield 15, 3) := by decide +kernel
theorem d7_26 : decode jdk_42_method_149_code 26 = .ok (.return_, 1) := by decide +kernel
theorem pn_0 : plainName "java/lang/String" = true := by first | (simp [plainName, overriddenIn]; done) | decide +kernel
theorem ef_rmE (m : MethodId) (x0 : Addr) (x1 : Addr) (x2 : Int32) (x3 : Int32) : entryFrame m #[(.ref x0), (.ref x1), (.int x2), (.int x3), .null] 6 = mkF m 0 #[.val (.ref x0), .val (.ref x1), .val (.int x2), .val (.int x3), .val .null, .unset] [] := by first | (simp [entryFrame, mkF, argsToLocals, Value.category]; done) | rfl
def Q_rmE (Z : State) (x b : Addr) (h0 : Heap) (n0 : Nat) : Option Value → Heap → List Loc → Prop := fun v h L => v = none ∧ Fr n0 L ∧ Keep h0 h [x] ∧ Exa Z h x "java/lang/String"
set_option maxRecDepth 65536 in
set_option maxHeartbeats 40000000 in
theorem rmE (l : Launch) (Z : State) (a0 : Array Value) (hw : ∀ d ∈ tables_1, d.before a0 Z = true) (ws : List Jvm.Cond) (x b : Addr) (h0 : Heap) (n0 : Nat) (Z0 : n0 ≤ h0.size) (E_x : Exa Z h0 x "java/lang/String") (F_v : Fld Z h0 x "java/lang/String" "value" "[B" .null) (F_c : Fld Z h0 x "java/lang/String" "coder" "B" (.int (0 : Int32))) (g_x : n0 ≤ x) :
    MetFree l (⟨"java/lang/String", "<init>", "([CIILjava/lang/Void;)V"⟩ : MethodName) (head1 (Jvm.Cond.code (⟨"java/lang/String", "<init>", "([CIILjava/lang/Void;)V"⟩ : MethodName) jdk_42_method_149_code 6 none :: ws) ({ frames := 1, cells := 4, slots := 8, locals := 12 } : Room)) (fun as_ U => as_ = #[(.ref x), (.ref b), (.int (0 : Int32)), (.int (0 : Int32)), .null] ∧ Z.Warmed39 U.vm ∧ U.heap = h0 ∧ CHv Z own_EL U.vm h0) (fun _ _ _ _ _ => True) (fun _ U o U' => ∃ v L, o = .returned v ∧ (Q_rmE Z x b h0 n0) v U'.heap L ∧ CHr Z own_EL U.vm U.heap U'.vm U'.heap ∧ ReturnedEndW U o U' L ({ frames := 1, cells := 4, slots := 8, locals := 12 } : Room).cells ({ frames := 1, cells := 4, slots := 8, locals := 12 } : Room).slots) := by
  refine MetFree.of_bodySF (plainFor_of_name pn_0) hisR ?_
  intro p e s m args below meth c s₁ Bd hml0 hP hK
  obtain ⟨rfl, hZ, hh, hC⟩ := hP
  have hZ : Z.Warmed39 (s.setVm s.vm).vm := hZ
  have I0 : own_I s Z own_EL s.vm h0 := by subst hh; exact own_I.start hC
  have hEL := own_hEL hw
  have wS := own_wS hw
  have hx := Bd.exec
  have hby := Bd.bytes
  have hml : c.maxLocals = 6 := hml0
  have hown : (s.setVm s.vm).vm.findClass "java/lang/String" = some m.cls := findClass_of_methodNamed Bd.named
  have hnm := (name_of_methodNamed Bd.named Bd.method).1
  have X0 : Stand p l e ({ frames := 1, cells := 4, slots := 8, locals := 12 } : Room) (s.setVm s.vm) m #[(.ref x), (.ref b), (.int (0 : Int32)), (.int (0 : Int32)), .null] below meth c s₁ [] 0 0 := Stand.of_body Bd
  have e0 : s₁.heap = h0 := by rw [← hh, Bd.state]; rfl
  have N0 := Fr.nil n0
  show own_W p e below s Z own_EL (Q_rmE Z x b h0 n0) ({ frames := 1, cells := 4, slots := 8, locals := 12 } : Room).cells ({ frames := 1, cells := 4, slots := 8, locals := 12 } : Room).slots (s₁.setTop (entryFrame m #[(.ref x), (.ref b), (.int (0 : Int32)), (.int (0 : Int32)), .null] 6))
  rw [ef_rmE m x b (0 : Int32) (0 : Int32)]
  have Y_x : Safe Z own_EL s.vm h0 x := own_safeNull hZ.alike (hw _ (List.mem_of_getElem? (i := 30) rfl)) E_x F_v
  have K_0 := Keep.refl h0 [x]
  show own_W p e below s Z own_EL _ _ _ (s₁.setTop (mkF m 0 #[.val (.ref x), .val (.ref b), .val (.int (0 : Int32)), .val (.int (0 : Int32)), .val .null, .unset] []))
  refine wwn_go (fun _ kk_ => XS.aloadN X0.here hx rfl (hb hby d7_0) rfl rfl kk_) ?_
  show own_W p e below s Z own_EL _ _ _ (s₁.setTop (mkF m 1 #[.val (.ref x), .val (.ref b), .val (.int (0 : Int32)), .val (.int (0 : Int32)), .val .null, .unset] [(.ref x)]))
  obtain ⟨T1, X1, e1, st1⟩ := initO X0 hx hZ hown (hw _ (List.mem_of_getElem? (i := 40) rfl)) (hw _ (List.mem_of_getElem? (i := 12) rfl)) (hw _ (List.mem_of_getElem? (i := 13) rfl)) e0 (g := (mkF m 1 #[.val (.ref x), .val (.ref b), .val (.int (0 : Int32)), .val (.int (0 : Int32)), .val .null, .unset] [(.ref x)])) rfl (by rw [hml]; rfl) rfl (hb hby d7_1) (by decide) (W := 0) (by show 2 * 0 + _ ≤ _; exact Nat.le_of_eq rfl) (by decide)
  refine wwn_go st1 ?_
  show own_W p e below s Z own_EL _ _ _ (T1.setTop (mkF m 4 #[.val (.ref x), .val (.ref b), .val (.int (0 : Int32)), .val (.int (0 : Int32)), .val .null, .unset] []))
  refine wwn_go (fun _ kk_ => XS.iloadN X1.here hx rfl (hb hby d7_4) rfl kk_) ?_
  show own_W p e below s Z own_EL _ _ _ (T1.setTop (mkF m 5 #[.val (.ref x), .val (.ref b), .val (.int (0 : Int32)), .val (.int (0 : Int32)), .val .null, .unset] [(.int (0 : Int32))]))
  refine wwn_if_neN X1 hx (pc := 5) (hb hby d7_5) (by decide) ?_
  show own_W p e below s Z own_EL _ _ _ (T1.setTop (mkF m 8 #[.val (.ref x), .val (.ref b), .val (.int (0 : Int32)), .val (.int (0 : Int32)), .val .null, .unset] []))
  refine wwn_go (fun _ kk_ => XS.aloadN X1.here hx rfl (hb hby d7_8) rfl rfl kk_) ?_
  show own_W p e below s Z own_EL _ _ _ (T1.setTop (mkF m 9 #[.val (.ref x), .val (.ref b), .val (.int (0 : Int32)), .val (.int (0 : Int32)), .val .null, .unset] [(.ref x)]))
  obtain ⟨a2, T2, h2, v2, k2, X2, e2, E2, I2, hZ, hown, A2, Fc2, Fv2, Av2, sy2, sn2, st2⟩ := own_ldc (text := "") X1 hx hZ hown (hw _ (List.mem_of_getElem? (i := 41) rfl)) wS e1 I0 hEL (by decide) (vs := []) (z := 0) ⟨(by decide), (by decide)⟩ (by decide) rfl (g := (mkF m 9 #[.val (.ref x), .val (.ref b), .val (.int (0 : Int32)), .val (.int (0 : Int32)), .val .null, .unset] [(.ref x)])) rfl (hb hby d7_9) (n := 0) (by decide) (by decide) (by decide) (by decide)
  refine wwn_go st2 ?_
  have E2_x := E_x.ext E2
  have F2_x_value := F_v.ext E2
  have F2_x_coder := F_c.ext E2
  have Y2_x := sy2 x E_x.lt Y_x
  obtain ⟨nea2_x, nev2_x⟩ := sn2 x Y2_x
  have K2_ := K_0.ext E2
  have Z2 : n0 ≤ h2.size := Nat.le_trans Z0 E2.1
  show own_W p e below s Z own_EL _ _ _ (T2.setTop (mkF m 11 #[.val (.ref x), .val (.ref b), .val (.int (0 : Int32)), .val (.int (0 : Int32)), .val .null, .unset] [(.ref a2), (.ref x)]))
  obtain ⟨T3, X3, e3, st3⟩ := getF X2 hx hZ hown (host := "") (Or.inl (hw _ (List.mem_of_getElem? (i := 47) rfl))) Via.refl e2 Fv2 (g := (mkF m 11 #[.val (.ref x), .val (.ref b), .val (.int (0 : Int32)), .val (.int (0 : Int32)), .val .null, .unset] [(.ref a2), (.ref x)])) rfl rfl (hb hby d7_11)
  refine wwn_go st3 ?_
  show own_W p e below s Z own_EL _ _ _ (T3.setTop (mkF m 14 #[.val (.ref x), .val (.ref b), .val (.int (0 : Int32)), .val (.int (0 : Int32)), .val .null, .unset] [(.ref v2), (.ref x)]))
  obtain ⟨T4, h4, X4, e4, W4, st4⟩ := putF X3 hx hZ hown (host := "") (Or.inl (hw _ (List.mem_of_getElem? (i := 47) rfl))) Via.refl e3 F2_x_value E2_x (Or.inr ⟨(hw _ (List.mem_of_getElem? (i := 43) rfl)), rfl, hnm⟩) (hw _ (List.mem_of_getElem? (i := 30) rfl)) (ty := (.array .byte)) (by decide) rfl rfl (g := (mkF m 14 #[.val (.ref x), .val (.ref b), .val (.int (0 : Int32)), .val (.int (0 : Int32)), .val .null, .unset] [(.ref v2), (.ref x)])) rfl rfl (hb hby d7_14)
  refine wwn_go st4 ?_
  have sf4 : Safe Z own_EL T2.vm h2 x := Y2_x
  have Y4_x := Safe.wr W4 sf4 I2.1.1 Y2_x
  have I4 := I2.wr W4 sf4
  have E4_x := E2_x.wr W4
  have F4_x_value := F2_x_value.same W4
  have F4_x_coder := F2_x_coder.other W4 (Or.inr (slot_ne (Or.inr (hw _ (List.mem_of_getElem? (i := 44) rfl))) (Or.inr (hw _ (List.mem_of_getElem? (i := 43) rfl))) (by decide) (t := .byte) (t' := (.array .byte)) (by decide) (by decide)))
  have K4_ := K2_.wr W4 (Or.inl (List.mem_singleton.mpr rfl))
  have E4_a2 := A2.wr W4
  have F4_a2_coder := Fc2.other W4 (Or.inl (Ne.symm nea2_x))
  have F4_a2_value := Fv2.other W4 (Or.inl (Ne.symm nea2_x))
  have V4_v2 := Av2.other W4 (Ne.symm nev2_x)
  have Z4 : n0 ≤ h4.size := by rw [W4.size]; exact Z2
  have N4 := Fr.snoc X4 N0 g_x
  show own_W p e below s Z own_EL _ _ _ (T4.setTop (mkF m 17 #[.val (.ref x), .val (.ref b), .val (.int (0 : Int32)), .val (.int (0 : Int32)), .val .null, .unset] []))
  refine wwn_go (fun _ kk_ => XS.aloadN X4.here hx rfl (hb hby d7_17) rfl rfl kk_) ?_
  show own_W p e below s Z own_EL _ _ _ (T4.setTop (mkF m 18 #[.val (.ref x), .val (.ref b), .val (.int (0 : Int32)), .val (.int (0 : Int32)), .val .null, .unset] [(.ref x)]))
  obtain ⟨a5, T5, h5, v5, k5, X5, e5, E5, I5, hZ, hown, A5, Fc5, Fv5, Av5, sy5, sn5, st5⟩ := own_ldc (text := "") X4 hx hZ hown (hw _ (List.mem_of_getElem? (i := 41) rfl)) wS e4 I4 hEL (by decide) (vs := []) (z := 0) ⟨(by decide), (by decide)⟩ (by decide) rfl (g := (mkF m 18 #[.val (.ref x), .val (.ref b), .val (.int (0 : Int32)), .val (.int (0 : Int32)), .val .null, .unset] [(.ref x)])) rfl (hb hby d7_18) (n := 0) (by decide) (by decide) (by decide) (by decide)
  refine wwn_go st5 ?_
  have E5_x := E4_x.ext E5
  have F5_x_value := F4_x_value.ext E5
  have F5_x_coder := F4_x_coder.ext E5
  have Y5_x := sy5 x E4_x.lt Y4_x
  obtain ⟨nea5_x, nev5_x⟩ := sn5 x Y5_x
  have K5_ := K4_.ext E5
  have E5_a2 := E4_a2.ext E5
  have F5_a2_coder := F4_a2_coder.ext E5
  have F5_a2_value := F4_a2_value.ext E5
  have V5_v2 := V4_v2.ext E5
  have Z5 : n0 ≤ h5.size := Nat.le_trans Z4 E5.1
  show own_W p e below s Z own_EL _ _ _ (T5.setTop (mkF m 20 #[.val (.ref x), .val (.ref b), .val (.int (0 : Int32)), .val (.int (0 : Int32)), .val .null, .unset] [(.ref a5), (.ref x)]))
  obtain ⟨T6, X6, e6, st6⟩ := getF X5 hx hZ hown (host := "") (Or.inl (hw _ (List.mem_of_getElem? (i := 48) rfl))) Via.refl e5 Fc5 (g := (mkF m 20 #[.val (.ref x), .val (.ref b), .val (.int (0 : Int32)), .val (.int (0 : Int32)), .val .null, .unset] [(.ref a5), (.ref x)])) rfl rfl (hb hby d7_20)
  refine wwn_go st6 ?_
  show own_W p e below s Z own_EL _ _ _ (T6.setTop (mkF m 23 #[.val (.ref x), .val (.ref b), .val (.int (0 : Int32)), .val (.int (0 : Int32)), .val .null, .unset] [(.int (0 : Int32)), (.ref x)]))
  obtain ⟨T7, h7, X7, e7, W7, st7⟩ := putFN X6 hx hZ hown (hw _ (List.mem_of_getElem? (i := 48) rfl)) Via.refl e6 F5_x_coder E5_x (Or.inr ⟨(hw _ (List.mem_of_getElem? (i := 44) rfl)), rfl, hnm⟩) (hw _ (List.mem_of_getElem? (i := 30) rfl)) (ty := .byte) (v := (.int (0 : Int32))) (v' := (.int (nar .byte (0 : Int32)))) (by decide) rfl (fits_nar_byte _) (g := (mkF m 23 #[.val (.ref x), .val (.ref b), .val (.int (0 : Int32)), .val (.int (0 : Int32)), .val .null, .unset] [(.int (0 : Int32)), (.ref x)])) rfl rfl (hb hby d7_23)
  refine wwn_go st7 ?_
  have sf7 : Safe Z own_EL T5.vm h5 x := Y5_x
  have Y7_x := Safe.wr W7 sf7 I5.1.1 Y5_x
  have I7 := I5.wr W7 sf7
  have E7_x := E5_x.wr W7
  have F7_x_value := F5_x_value.other W7 (Or.inr (slot_ne (Or.inr (hw _ (List.mem_of_getElem? (i := 43) rfl))) (Or.inr (hw _ (List.mem_of_getElem? (i := 44) rfl))) (by decide) (t := (.array .byte)) (t' := .byte) (by decide) (by decide)))
  have F7_x_coder := F5_x_coder.same W7
  have K7_ := K5_.wr W7 (Or.inl (List.mem_singleton.mpr rfl))
  have E7_a2 := E5_a2.wr W7
  have F7_a2_coder := F5_a2_coder.other W7 (Or.inl (Ne.symm nea2_x))
  have F7_a2_value := F5_a2_value.other W7 (Or.inl (Ne.symm nea2_x))
  have V7_v2 := V5_v2.other W7 (Ne.symm nev2_x)
  have E7_a5 := A5.wr W7
  have F7_a5_coder := Fc5.other W7 (Or.inl (Ne.symm nea5_x))
  have F7_a5_value := Fv5.other W7 (Or.inl (Ne.symm nea5_x))
  have V7_v5 := Av5.other W7 (Ne.symm nev5_x)
  have Z7 : n0 ≤ h7.size := by rw [W7.size]; exact Z5
  have N7 := Fr.snoc X7 N4 g_x
  show own_W p e below s Z own_EL _ _ _ (T7.setTop (mkF m 26 #[.val (.ref x), .val (.ref b), .val (.int (0 : Int32)), .val (.int (0 : Int32)), .val .null, .unset] []))
  exact wwn_ret0 X7 hx hZ hEL Bd.returns (BodyLoose.notSynchronized Bd) (hb hby d7_26) e7 I7 ⟨rfl, N7, K7_, E7_x⟩ (by decide) (by decide)
theorem d6_0 : decode jdk_42_method_3_code 0 = .ok (.aload_n 0, 1) := by decide +kernel
theorem d6_1 : decode jdk_42_method_3_code 1 = .ok (.aload_n 1, 1) := by decide +kernel
theorem d6_2 : decode jdk_42_method_3_code 2 = .ok (.iconst 0, 1) := by decide +kernel
theorem d6_3 : decode jdk_42_method_3_code 3 = .ok (.aload_n 1, 1) := by decide +kernel
theorem d6_4 : decode jdk_42_method_3_code 4 = .ok (.arraylength, 1) := by decide +kernel
theorem d6_5 : decode jdk_42_method_3_code 5 = .ok (.aconst_null, 1) := by decide +kernel
theorem d6_6 : decode jdk_42_method_3_code 6 = .ok (.invokespecial 27, 3) := by decide +kernel
theorem d6_9 : decode jdk_42_method_3_code 9 = .ok (.return_, 1) := by decide +kernel
theorem pd_0 : parseMethodDescriptor "([CIILjava/lang/Void;)V" = some ⟨[(.array .char), .int, .int, (.object "java/lang/Void")], none⟩ := by decide +kernel
theorem ef_rmF (m : MethodId) (x0 : Addr) (x1 : Addr) : entryFrame m #[(.ref x0), (.ref x1)] 2 = mkF m 0 #[.val (.ref x0), .val (.ref x1)] [] := by first | (simp [entryFrame, mkF, argsToLocals, Value.category]; done) | rfl
def Q_rmF (Z : State) (x b : Addr) (h0 : Heap) (n0 : Nat) : Option Value → Heap → List Loc → Prop := fun v h L => v = none ∧ Fr n0 L ∧ Keep h0 h [x] ∧ Exa Z h x "java/lang/String"
set_option maxRecDepth 65536 in
set_option maxHeartbeats 40000000 in
theorem rmF (l : Launch) (Z : State) (a0 : Array Value) (hw : ∀ d ∈ tables_1, d.before a0 Z = true) (ws : List Jvm.Cond) (x b : Addr) (h0 : Heap) (n0 : Nat) (Z0 : n0 ≤ h0.size) (E_x : Exa Z h0 x "java/lang/String") (F_v : Fld Z h0 x "java/lang/String" "value" "[B" .null) (F_c : Fld Z h0 x "java/lang/String" "coder" "B" (.int (0 : Int32))) (g_x : n0 ≤ x) (kb : ClassId) (V_b : Arv Z h0 b kb .char (0 : Int32) [] (.int (0 : Int32))) :
    MetFree l (⟨"java/lang/String", "<init>", "([C)V"⟩ : MethodName) (head1 (Jvm.Cond.code (⟨"java/lang/String", "<init>", "([C)V"⟩ : MethodName) jdk_42_method_3_code 2 none :: ws) ({ frames := 2, cells := 4, slots := 8, locals := 29 } : Room)) (fun as_ U => as_ = #[(.ref x), (.ref b)] ∧ Z.Warmed39 U.vm ∧ U.heap = h0 ∧ CHv Z own_EL U.vm h0) (fun _ _ _ _ _ => True) (fun _ U o U' => ∃ v L, o = .returned v ∧ (Q_rmF Z x b h0 n0) v U'.heap L ∧ CHr Z own_EL U.vm U.heap U'.vm U'.heap ∧ ReturnedEndW U o U' L ({ frames := 2, cells := 4, slots := 8, locals := 29 } : Room).cells ({ frames := 2, cells := 4, slots := 8, locals := 29 } : Room).slots) := by
  refine MetFree.of_bodySF (plainFor_of_name pn_0) hisR ?_
  intro p e s m args below meth c s₁ Bd hml0 hP hK
  obtain ⟨rfl, hZ, hh, hC⟩ := hP
  have hZ : Z.Warmed39 (s.setVm s.vm).vm := hZ
  have I0 : own_I s Z own_EL s.vm h0 := by subst hh; exact own_I.start hC
  have hEL := own_hEL hw
  have wS := own_wS hw
  have hx := Bd.exec
  have hby := Bd.bytes
  have hml : c.maxLocals = 2 := hml0
  have hown : (s.setVm s.vm).vm.findClass "java/lang/String" = some m.cls := findClass_of_methodNamed Bd.named
  have hnm := (name_of_methodNamed Bd.named Bd.method).1
  have X0 : Stand p l e ({ frames := 2, cells := 4, slots := 8, locals := 29 } : Room) (s.setVm s.vm) m #[(.ref x), (.ref b)] below meth c s₁ [] 0 0 := Stand.of_body Bd
  have e0 : s₁.heap = h0 := by rw [← hh, Bd.state]; rfl
  have N0 := Fr.nil n0
  show own_W p e below s Z own_EL (Q_rmF Z x b h0 n0) ({ frames := 2, cells := 4, slots := 8, locals := 29 } : Room).cells ({ frames := 2, cells := 4, slots := 8, locals := 29 } : Room).slots (s₁.setTop (entryFrame m #[(.ref x), (.ref b)] 2))
  rw [ef_rmF m x b]
  show own_W p e below s Z own_EL _ _ _ (s₁.setTop (mkF m 0 #[.val (.ref x), .val (.ref b)] []))
  refine wwn_go (fun _ kk_ => XS.aloadN X0.here hx rfl (hb hby d6_0) rfl rfl kk_) ?_
  show own_W p e below s Z own_EL _ _ _ (s₁.setTop (mkF m 1 #[.val (.ref x), .val (.ref b)] [(.ref x)]))
  refine wwn_go (fun _ kk_ => XS.aloadN X0.here hx rfl (hb hby d6_1) rfl rfl kk_) ?_
  show own_W p e below s Z own_EL _ _ _ (s₁.setTop (mkF m 2 #[.val (.ref x), .val (.ref b)] [(.ref b), (.ref x)]))
  refine wwn_go (fun _ kk_ => XS.iconst X0.here hx rfl (hb hby d6_2) kk_) ?_
  show own_W p e below s Z own_EL _ _ _ (s₁.setTop (mkF m 3 #[.val (.ref x), .val (.ref b)] [(.int (0 : Int32)), (.ref b), (.ref x)]))
  refine wwn_go (fun _ kk_ => XS.aloadN X0.here hx rfl (hb hby d6_3) rfl rfl kk_) ?_
  show own_W p e below s Z own_EL _ _ _ (s₁.setTop (mkF m 4 #[.val (.ref x), .val (.ref b)] [(.ref b), (.int (0 : Int32)), (.ref b), (.ref x)]))
  have Vc1 := V_b
  obtain ⟨cl1, Ar1, q1, S1, M1, H1, G1⟩ := Vc1
  refine wwn_go (X0.arraylength hx (cell := cl1) (by rw [e0]; exact Ar1.1) (State.isArrayOf_alike hZ.alike Ar1.2.1) (g := (mkF m 4 #[.val (.ref x), .val (.ref b)] [(.ref b), (.int (0 : Int32)), (.ref b), (.ref x)])) rfl (rest := [(.int (0 : Int32)), (.ref b), (.ref x)]) rfl (hb hby d6_4)) ?_
  rw [len_of S1 M1]
  show own_W p e below s Z own_EL _ _ _ (s₁.setTop (mkF m 5 #[.val (.ref x), .val (.ref b)] [(.int (0 : Int32)), (.int (0 : Int32)), (.ref b), (.ref x)]))
  refine wwn_go (fun _ kk_ => XS.aconstNull X0.here hx rfl (hb hby d6_5) kk_) ?_
  show own_W p e below s Z own_EL _ _ _ (s₁.setTop (mkF m 6 #[.val (.ref x), .val (.ref b)] [.null, (.int (0 : Int32)), (.int (0 : Int32)), (.ref b), (.ref x)]))
  obtain ⟨_, _, ⟨T2, L2, k2, n2⟩, -, X2, S2, gr2, ⟨Lc2, hQ2, l2, y2, z2, C2⟩, st2⟩ := X0.specialBackS hx (y := (⟨"java/lang/String", "<init>", "([CIILjava/lang/Void;)V"⟩ : MethodName)) rfl hown (mvT hZ (hw _ (List.mem_of_getElem? (i := 36) rfl))) (mvT hZ (hw _ (List.mem_of_getElem? (i := 37) rfl))) (mvT hZ (hw _ (List.mem_of_getElem? (i := 39) rfl))) (by decide) (backOfSH (W := 0) (rmE l Z a0 hw [] x b h0 n0 Z0 E_x F_v F_c g_x) hZ (hw _ (List.mem_of_getElem? (i := 39) rfl)) (hw _ (List.mem_of_getElem? (i := 31) rfl)) (by decide) (by decide) hEL I0.1.1) (g := (mkF m 6 #[.val (.ref x), .val (.ref b)] [.null, (.int (0 : Int32)), (.int (0 : Int32)), (.ref b), (.ref x)])) rfl (by rw [hml]; rfl) (Steps.refl _) (a := x) (argsL := [(.ref b), (.int (0 : Int32)), (.int (0 : Int32)), .null]) (rest := []) (lenOf pd_0 rfl) rfl (by show 2 * 0 + _ ≤ _; exact Nat.le_of_eq rfl) (hb hby d6_6) (fun _ _ => ⟨rfl, e0, (by decide : 0 + 4 ≤ _), (by decide : 0 + 8 ≤ _)⟩)
  dsimp only [Pt.U, Pt.locs, Pt.cells, Pt.slots] at X2 S2 gr2 l2 y2 z2 C2 st2 hQ2
  subst l2 y2 z2
  obtain ⟨X2, I2, hZ, hown⟩ := own_I.reb I0 e0 X2 S2 gr2 hZ hown C2
  generalize e2 : T2.heap = h2 at hQ2 I2
  obtain ⟨rfl, N2q, Kq2, Eq2⟩ := hQ2
  have N2 := Fr.app N0 N2q
  refine wwn_go (fun _ kk_ => st2.trans kk_) ?_
  show own_W p e below s Z own_EL _ _ _ (T2.setTop (mkF m 9 #[.val (.ref x), .val (.ref b)] []))
  exact wwn_ret0 X2 hx hZ hEL Bd.returns (BodyLoose.notSynchronized Bd) (hb hby d6_9) e2 I2 ⟨rfl, N2, Kq2, Eq2⟩ (by decide) (by decide)
theorem own_and255 (x : Int32) : ¬ (x &&& (255 : Int32)) < 0 ∧ ¬ (255 : Int32) < (x &&& (255 : Int32)) := by
  obtain ⟨n, hn, e⟩ := own_mask x 255 (by decide)
  rw [show (255 : Int32) = Int32.ofNat 255 from rfl, e]
  constructor
  · rw [Int32.lt_iff_toInt_lt, Int32.toInt_ofNat_of_lt (by omega), show (0 : Int32).toInt = 0 from rfl]; omega
  · rw [Int32.lt_iff_toInt_lt, Int32.toInt_ofNat_of_lt (by omega), Int32.toInt_ofNat_of_lt (by omega)]; omega
theorem own_lat1 (x0 : Int32) : ∀ c ∈ [nar .char ((x0 &&& (255 : Int32)).toUInt32.toUInt16.toUInt32.toInt32)], ¬ c < 0 ∧ ¬ (255 : Int32) < c := by
  intro c hc
  rw [List.mem_singleton.mp hc, show nar .char ((x0 &&& (255 : Int32)).toUInt32.toUInt16.toUInt32.toInt32) = x0 &&& 255 from by simp only [nar, i2c_mask]]
  exact own_and255 x0
theorem d5_0 : decode method_3_code 0 = .ok (.iload_n 0, 1) := by decide +kernel
theorem d5_1 : decode method_3_code 1 = .ok (.bipush 16, 2) := by decide +kernel
theorem d5_3 : decode method_3_code 3 = .ok (.iushr, 1) := by decide +kernel
theorem d5_4 : decode method_3_code 4 = .ok (.iconst 1, 1) := by decide +kernel
theorem d5_5 : decode method_3_code 5 = .ok (.iand, 1) := by decide +kernel
theorem d5_6 : decode method_3_code 6 = .ok (.ifCond .ne 14, 3) := by decide +kernel
theorem d5_9 : decode method_3_code 9 = .ok (.new 22, 3) := by decide +kernel
theorem d5_12 : decode method_3_code 12 = .ok (.dup, 1) := by decide +kernel
theorem d5_13 : decode method_3_code 13 = .ok (.iconst 0, 1) := by decide +kernel
theorem d5_14 : decode method_3_code 14 = .ok (.newarray .char, 2) := by decide +kernel
theorem d5_16 : decode method_3_code 16 = .ok (.invokespecial 24, 3) := by decide +kernel
theorem d5_19 : decode method_3_code 19 = .ok (.areturn, 1) := by decide +kernel
theorem d5_20 : decode method_3_code 20 = .ok (.new 22, 3) := by decide +kernel
theorem d5_23 : decode method_3_code 23 = .ok (.dup, 1) := by decide +kernel
theorem d5_24 : decode method_3_code 24 = .ok (.iconst 1, 1) := by decide +kernel
theorem d5_25 : decode method_3_code 25 = .ok (.newarray .char, 2) := by decide +kernel
theorem d5_27 : decode method_3_code 27 = .ok (.dup, 1) := by decide +kernel
theorem d5_28 : decode method_3_code 28 = .ok (.iconst 0, 1) := by decide +kernel
theorem d5_29 : decode method_3_code 29 = .ok (.iload_n 0, 1) := by decide +kernel
theorem d5_30 : decode method_3_code 30 = .ok (.sipush 255, 3) := by decide +kernel
theorem d5_33 : decode method_3_code 33 = .ok (.iand, 1) := by decide +kernel
theorem d5_34 : decode method_3_code 34 = .ok (.i2c, 1) := by decide +kernel
theorem d5_35 : decode method_3_code 35 = .ok (.castore, 1) := by decide +kernel
theorem d5_36 : decode method_3_code 36 = .ok (.invokespecial 24, 3) := by decide +kernel
theorem d5_39 : decode method_3_code 39 = .ok (.areturn, 1) := by decide +kernel
theorem pn_1 : plainName "com/example/accordant/accordant/policy/ScopeShapePinLaw" = true := by first | (simp [plainName, overriddenIn]; done) | decide +kernel
theorem pd_1 : parseMethodDescriptor "([C)V" = some ⟨[(.array .char)], none⟩ := by decide +kernel
theorem ef_rmStr (m : MethodId) (x0 : Int32) : entryFrame m #[(.int x0)] 1 = mkF m 0 #[.val (.int x0)] [] := by first | (simp [entryFrame, mkF, argsToLocals, Value.category]; done) | rfl
def Q_rmStr (Z : State) (x0 zc : Int32) (h0 : Heap) (n0 : Nat) : Option Value → Heap → List Loc → Prop := fun v h L => ∃ x : Addr, v = some (.ref x) ∧ Fr n0 L ∧ n0 ≤ x ∧ Keep h0 h [] ∧ Exa Z h x "java/lang/String" ∧ Old Z n0 h
set_option maxRecDepth 65536 in
set_option maxHeartbeats 40000000 in
theorem rmStr (l : Launch) (Z : State) (a0 : Array Value) (hw : ∀ d ∈ tables_1, d.before a0 Z = true) (ws : List Jvm.Cond) (x0 zc : Int32) (h0 : Heap) (n0 : Nat) (Z0 : n0 ≤ h0.size) (O_0 : Old Z n0 h0) (O2 : Sta Z Z.heap "java/lang/String" "COMPACT_STRINGS" "Z" (.int zc)) (hz : ¬ zc = 0) :
    MetFree l (⟨"com/example/accordant/accordant/policy/ScopeShapePinLaw", "str", "(I)Ljava/lang/String;"⟩ : MethodName) (head1 (Jvm.Cond.code (⟨"com/example/accordant/accordant/policy/ScopeShapePinLaw", "str", "(I)Ljava/lang/String;"⟩ : MethodName) method_3_code 1 (some (.object "java/lang/String")) :: ws) ({ frames := 4, cells := 6, slots := 12, locals := 66 } : Room)) (fun as_ U => as_ = #[(.int x0)] ∧ Z.Warmed39 U.vm ∧ U.heap = h0 ∧ CHv Z own_EL U.vm h0) (fun _ _ _ _ _ => True) (fun _ U o U' => ∃ v L, o = .returned v ∧ (Q_rmStr Z x0 zc h0 n0) v U'.heap L ∧ CHr Z own_EL U.vm U.heap U'.vm U'.heap ∧ ReturnedEndW U o U' L ({ frames := 4, cells := 6, slots := 12, locals := 66 } : Room).cells ({ frames := 4, cells := 6, slots := 12, locals := 66 } : Room).slots) := by
  refine MetFree.of_bodySF (plainFor_of_name pn_1) hisR ?_
  intro p e s m args below meth c s₁ Bd hml0 hP hK
  obtain ⟨rfl, hZ, hh, hC⟩ := hP
  have hZ : Z.Warmed39 (s.setVm s.vm).vm := hZ
  have I0 : own_I s Z own_EL s.vm h0 := by subst hh; exact own_I.start hC
  have hEL := own_hEL hw
  have wS := own_wS hw
  have hx := Bd.exec
  have hby := Bd.bytes
  have hml : c.maxLocals = 1 := hml0
  have hown : (s.setVm s.vm).vm.findClass "com/example/accordant/accordant/policy/ScopeShapePinLaw" = some m.cls := findClass_of_methodNamed Bd.named
  have hnm := (name_of_methodNamed Bd.named Bd.method).1
  have X0 : Stand p l e ({ frames := 4, cells := 6, slots := 12, locals := 66 } : Room) (s.setVm s.vm) m #[(.int x0)] below meth c s₁ [] 0 0 := Stand.of_body Bd
  have e0 : s₁.heap = h0 := by rw [← hh, Bd.state]; rfl
  have N0 := Fr.nil n0
  show own_W p e below s Z own_EL (Q_rmStr Z x0 zc h0 n0) ({ frames := 4, cells := 6, slots := 12, locals := 66 } : Room).cells ({ frames := 4, cells := 6, slots := 12, locals := 66 } : Room).slots (s₁.setTop (entryFrame m #[(.int x0)] 1))
  rw [ef_rmStr m x0]
  have K_0 := Keep.refl h0 []
  show own_W p e below s Z own_EL _ _ _ (s₁.setTop (mkF m 0 #[.val (.int x0)] []))
  refine wwn_go (fun _ kk_ => XS.iloadN X0.here hx rfl (hb hby d5_0) rfl kk_) ?_
  show own_W p e below s Z own_EL _ _ _ (s₁.setTop (mkF m 1 #[.val (.int x0)] [(.int x0)]))
  refine wwn_go (fun _ kk_ => XS.bipush X0.here hx rfl (hb hby d5_1) kk_) ?_
  show own_W p e below s Z own_EL _ _ _ (s₁.setTop (mkF m 3 #[.val (.int x0)] [(.int (16 : Int32)), (.int x0)]))
  refine wwn_go (fun _ kk_ => XS.iushr X0.here hx rfl (hb hby d5_3) rfl kk_) ?_
  show own_W p e below s Z own_EL _ _ _ (s₁.setTop (mkF m 4 #[.val (.int x0)] [(.int ((x0.toUInt32 >>> ((16 : Int32) &&& 31).toUInt32).toInt32))]))
  refine wwn_go (fun _ kk_ => XS.iconst X0.here hx rfl (hb hby d5_4) kk_) ?_
  show own_W p e below s Z own_EL _ _ _ (s₁.setTop (mkF m 5 #[.val (.int x0)] [(.int (1 : Int32)), (.int ((x0.toUInt32 >>> ((16 : Int32) &&& 31).toUInt32).toInt32))]))
  refine wwn_go (fun _ kk_ => XS.iand X0.here hx rfl (hb hby d5_5) rfl kk_) ?_
  show own_W p e below s Z own_EL _ _ _ (s₁.setTop (mkF m 6 #[.val (.int x0)] [(.int (((x0.toUInt32 >>> ((16 : Int32) &&& 31).toUInt32).toInt32) &&& (1 : Int32)))]))
  refine wwn_if_ne X0 hx (pc := 6) (pc' := 20) (hb hby d5_6) (by decide) (by decide) (fun hc6 => ?_) (fun hc6 => ?_)
  · show own_W p e below s Z own_EL _ _ _ (s₁.setTop (mkF m 20 #[.val (.int x0)] []))
    obtain ⟨T1, h1, X1, e1, E1, A1, D1, -, st1⟩ := newO X0 hx hZ hown (hw _ (List.mem_of_getElem? (i := 29) rfl)) (hw _ (List.mem_of_getElem? (i := 30) rfl)) (hw _ (List.mem_of_getElem? (i := 31) rfl)) e0 (g := (mkF m 20 #[.val (.int x0)] [])) rfl (hb hby d5_20) (by decide) (by decide)
    obtain ⟨b1, g1⟩ : ∃ z, z = h0.size := ⟨_, rfl⟩
    rw [← g1] at A1 D1 st1
    refine wwn_go st1 ?_
    have I1 := I0.ext E1
    have K1_ := K_0.ext E1
    have O1_ := O_0.ext E1
    have g_b1 : n0 ≤ b1 := Nat.le_trans Z0 (Nat.le_of_eq g1.symm)
    have Z1 : n0 ≤ h1.size := Nat.le_trans Z0 E1.1
    have ko_b1 : h0.size ≤ b1 := Nat.le_trans K_0.1 (Nat.le_of_eq g1.symm)
    have F1_b1_value : Fld Z h1 b1 "java/lang/String" "value" "[B" .null := D1 (Or.inr (hw _ (List.mem_of_getElem? (i := 43) rfl))) (ty := (.array .byte)) (by decide)
    have F1_b1_coder : Fld Z h1 b1 "java/lang/String" "coder" "B" (.int (0 : Int32)) := D1 (Or.inr (hw _ (List.mem_of_getElem? (i := 44) rfl))) (ty := .byte) (by decide)
    show own_W p e below s Z own_EL _ _ _ (T1.setTop (mkF m 23 #[.val (.int x0)] [(.ref b1)]))
    refine wwn_go (fun _ kk_ => XS.dup X1.here hx rfl (hb hby d5_23) rfl rfl kk_) ?_
    show own_W p e below s Z own_EL _ _ _ (T1.setTop (mkF m 24 #[.val (.int x0)] [(.ref b1), (.ref b1)]))
    refine wwn_go (fun _ kk_ => XS.iconst X1.here hx rfl (hb hby d5_24) kk_) ?_
    show own_W p e below s Z own_EL _ _ _ (T1.setTop (mkF m 25 #[.val (.int x0)] [(.int (1 : Int32)), (.ref b1), (.ref b1)]))
    obtain ⟨T2, h2, k2, X2, e2, E2, A2, st2⟩ := newP X1 hx hZ (hw _ (List.mem_of_getElem? (i := 32) rfl)) e1 (g := (mkF m 25 #[.val (.int x0)] [(.int (1 : Int32)), (.ref b1), (.ref b1)])) rfl (hb hby d5_25) rfl (by decide) (cap := 1) (by decide) (by decide) (by decide) (by decide)
    obtain ⟨b2, g2⟩ : ∃ z, z = h1.size := ⟨_, rfl⟩
    rw [← g2] at A2 st2
    refine wwn_go st2 ?_
    have I2 := I1.ext E2
    have K2_ := K1_.ext E2
    have O2_ := O1_.ext E2
    have E2_b1 := A1.ext E2
    have F2_b1_value := F1_b1_value.ext E2
    have F2_b1_coder := F1_b1_coder.ext E2
    have ne_b1_b2 : b1 ≠ b2 := Nat.ne_of_lt (Nat.lt_of_lt_of_le A1.lt (Nat.le_of_eq g2.symm))
    have g_b2 : n0 ≤ b2 := Nat.le_trans Z1 (Nat.le_of_eq g2.symm)
    have Z2 : n0 ≤ h2.size := Nat.le_trans Z1 E2.1
    have ko_b2 : h0.size ≤ b2 := Nat.le_trans K1_.1 (Nat.le_of_eq g2.symm)
    have V2_b2 : Arv Z h2 b2 k2 .char (1 : Int32) [(.int (0 : Int32))] (.int (0 : Int32)) := (Arv.new A2 (by decide)).pad (pad_rep [] (.int (0 : Int32)) 1)
    show own_W p e below s Z own_EL _ _ _ (T2.setTop (mkF m 27 #[.val (.int x0)] [(.ref b2), (.ref b1), (.ref b1)]))
    refine wwn_go (fun _ kk_ => XS.dup X2.here hx rfl (hb hby d5_27) rfl rfl kk_) ?_
    show own_W p e below s Z own_EL _ _ _ (T2.setTop (mkF m 28 #[.val (.int x0)] [(.ref b2), (.ref b2), (.ref b1), (.ref b1)]))
    refine wwn_go (fun _ kk_ => XS.iconst X2.here hx rfl (hb hby d5_28) kk_) ?_
    show own_W p e below s Z own_EL _ _ _ (T2.setTop (mkF m 29 #[.val (.int x0)] [(.int (0 : Int32)), (.ref b2), (.ref b2), (.ref b1), (.ref b1)]))
    refine wwn_go (fun _ kk_ => XS.iloadN X2.here hx rfl (hb hby d5_29) rfl kk_) ?_
    show own_W p e below s Z own_EL _ _ _ (T2.setTop (mkF m 30 #[.val (.int x0)] [(.int x0), (.int (0 : Int32)), (.ref b2), (.ref b2), (.ref b1), (.ref b1)]))
    refine wwn_go (fun _ kk_ => XS.sipush X2.here hx rfl (hb hby d5_30) kk_) ?_
    show own_W p e below s Z own_EL _ _ _ (T2.setTop (mkF m 33 #[.val (.int x0)] [(.int (255 : Int32)), (.int x0), (.int (0 : Int32)), (.ref b2), (.ref b2), (.ref b1), (.ref b1)]))
    refine wwn_go (fun _ kk_ => XS.iand X2.here hx rfl (hb hby d5_33) rfl kk_) ?_
    show own_W p e below s Z own_EL _ _ _ (T2.setTop (mkF m 34 #[.val (.int x0)] [(.int (x0 &&& (255 : Int32))), (.int (0 : Int32)), (.ref b2), (.ref b2), (.ref b1), (.ref b1)]))
    refine wwn_go (fun _ kk_ => XS.i2c X2.here hx rfl (hb hby d5_34) rfl kk_) ?_
    show own_W p e below s Z own_EL _ _ _ (T2.setTop (mkF m 35 #[.val (.int x0)] [(.int ((x0 &&& (255 : Int32)).toUInt32.toUInt16.toUInt32.toInt32)), (.int (0 : Int32)), (.ref b2), (.ref b2), (.ref b1), (.ref b1)]))
    have Vc3 := V2_b2
    obtain ⟨cl3, Ar3, q3, S3, M3, H3, G3⟩ := Vc3
    have hin3 := inb_of (j := (0 : Int32)) S3 ⟨(by decide), (by decide)⟩
    obtain ⟨T4, h4, X4, e4, W4, st4⟩ := stC X2 hx hZ e2 Ar3 (j := (0 : Int32)) hin3 (g := (mkF m 35 #[.val (.int x0)] [(.int ((x0 &&& (255 : Int32)).toUInt32.toUInt16.toUInt32.toInt32)), (.int (0 : Int32)), (.ref b2), (.ref b2), (.ref b1), (.ref b1)])) rfl rfl (hb hby d5_35)
    refine wwn_go st4 ?_
    have sf4 : Safe Z own_EL s.vm h2 b2 := (by obtain ⟨cq, Aq, -⟩ := V2_b2; exact Safe.arr hZ.alike Aq (by decide))
    have I4 := I2.wr W4 sf4
    have K4_ := K2_.wr W4 (Or.inr ko_b2)
    have O4_ := O2_.wr W4 g_b2
    have E4_b1 := E2_b1.wr W4
    have F4_b1_value := F2_b1_value.other W4 (Or.inl ne_b1_b2)
    have F4_b1_coder := F2_b1_coder.other W4 (Or.inl ne_b1_b2)
    have V4_b2 : Arv Z h4 b2 k2 .char (1 : Int32) [(.int (nar .char ((x0 &&& (255 : Int32)).toUInt32.toUInt16.toUInt32.toInt32)))] (.int (0 : Int32)) := Arv.set Ar3 q3 S3 M3 H3 G3 (fits_nar_char _) W4 0 rfl (Nat.le_of_ble_eq_true rfl)
    have Z4 : n0 ≤ h4.size := by rw [W4.size]; exact Z2
    have N4 := Fr.snoc X4 N0 g_b2
    show own_W p e below s Z own_EL _ _ _ (T4.setTop (mkF m 36 #[.val (.int x0)] [(.ref b2), (.ref b1), (.ref b1)]))
    have Y5_b1 : Safe Z own_EL s.vm h4 b1 := own_safeNull hZ.alike (hw _ (List.mem_of_getElem? (i := 30) rfl)) E4_b1 F4_b1_value
    obtain ⟨_, _, ⟨T6, L6, k6, n6⟩, -, X6, ⟨Lc6, hQ6, l6, y6, z6⟩, st6⟩ := X4.specialBack hx (y := (⟨"java/lang/String", "<init>", "([C)V"⟩ : MethodName)) rfl hown (mvT hZ (hw _ (List.mem_of_getElem? (i := 33) rfl))) (mvT hZ (hw _ (List.mem_of_getElem? (i := 34) rfl))) (mvT hZ (hw _ (List.mem_of_getElem? (i := 35) rfl))) (by decide) (StrChars.Road.backV (W := 1) hZ (own_hws hw) (kI := 4) (hw _ (List.mem_of_getElem? (i := 30) rfl)) (cs := [(nar .char ((x0 &&& (255 : Int32)).toUInt32.toUInt16.toUInt32.toInt32))]) (bs := [((nar .char ((x0 &&& (255 : Int32)).toUInt32.toUInt16.toUInt32.toInt32))).toInt8.toInt32]) (n := 1) g_b1 Z4 E4_b1 F4_b1_value F4_b1_coder V4_b2 (O2.ext O4_.2) hz rfl rfl (by decide) (by decide) (own_lat1 x0) rfl (by decide) (by decide)) (g := (mkF m 36 #[.val (.int x0)] [(.ref b2), (.ref b1), (.ref b1)])) rfl (by rw [hml]; rfl) (Steps.refl _) (a := b1) (argsL := [(.ref b2)]) (rest := [(.ref b1)]) (lenOf pd_1 rfl) rfl (by show 2 * 0 + _ ≤ _; exact Nat.le_of_eq rfl) (hb hby d5_36) (fun _ _ => ⟨rfl, e4, (by decide : 2 + 1 ≤ _), (by decide : 5 + 1 ≤ _)⟩)
    dsimp only [Pt.U, Pt.locs, Pt.cells, Pt.slots] at X6 l6 y6 z6 st6 hQ6
    subst l6 y6 z6
    generalize e6 : T6.heap = h6 at hQ6
    obtain ⟨rfl, N6q, Kq6, Eq6, Fc6, t6, kt6, gt6, gh6, nt6, Fv6, At6⟩ := hQ6
    have N6 := Fr.app N4 N6q
    refine wwn_go (fun _ kk_ => st6.trans kk_) ?_
    have I6 := I4.keep Kq6 (fun y hy => by cases List.mem_singleton.mp hy; exact Y5_b1)
    have K6_ := K4_.trans Kq6 (fun y_ q_ => by cases List.mem_singleton.mp q_; exact (Or.inr ko_b1))
    have O6_ := O4_.keep Kq6 (fun y_ q_ => by cases List.mem_singleton.mp q_; exact g_b1)
    have E6_b1 := E4_b1.keep Kq6
    have V6_b2 := V4_b2.keep Kq6 (fun q_ => (Ne.symm ne_b1_b2) (List.mem_singleton.mp q_))
    have Z6 : n0 ≤ h6.size := Nat.le_trans Z4 Kq6.1
    show own_W p e below s Z own_EL _ _ _ (T6.setTop (mkF m 39 #[.val (.int x0)] [(.ref b1)]))
    exact wwn_retA (ht := rfl) (hv := rfl) X6 hx hZ hEL Bd.returns (BodyLoose.notSynchronized Bd) (hb hby d5_39) e6 I6 ⟨_, rfl, N6, g_b1, K6_, Eq6, O6_⟩ (by decide) (by decide)
  · show own_W p e below s Z own_EL _ _ _ (s₁.setTop (mkF m 9 #[.val (.int x0)] []))
    obtain ⟨T7, h7, X7, e7, E7, A7, D7, -, st7⟩ := newO X0 hx hZ hown (hw _ (List.mem_of_getElem? (i := 29) rfl)) (hw _ (List.mem_of_getElem? (i := 30) rfl)) (hw _ (List.mem_of_getElem? (i := 31) rfl)) e0 (g := (mkF m 9 #[.val (.int x0)] [])) rfl (hb hby d5_9) (by decide) (by decide)
    obtain ⟨b7, g7⟩ : ∃ z, z = h0.size := ⟨_, rfl⟩
    rw [← g7] at A7 D7 st7
    refine wwn_go st7 ?_
    have I7 := I0.ext E7
    have K7_ := K_0.ext E7
    have O7_ := O_0.ext E7
    have g_b7 : n0 ≤ b7 := Nat.le_trans Z0 (Nat.le_of_eq g7.symm)
    have Z7 : n0 ≤ h7.size := Nat.le_trans Z0 E7.1
    have ko_b7 : h0.size ≤ b7 := Nat.le_trans K_0.1 (Nat.le_of_eq g7.symm)
    have F7_b7_value : Fld Z h7 b7 "java/lang/String" "value" "[B" .null := D7 (Or.inr (hw _ (List.mem_of_getElem? (i := 43) rfl))) (ty := (.array .byte)) (by decide)
    have F7_b7_coder : Fld Z h7 b7 "java/lang/String" "coder" "B" (.int (0 : Int32)) := D7 (Or.inr (hw _ (List.mem_of_getElem? (i := 44) rfl))) (ty := .byte) (by decide)
    show own_W p e below s Z own_EL _ _ _ (T7.setTop (mkF m 12 #[.val (.int x0)] [(.ref b7)]))
    refine wwn_go (fun _ kk_ => XS.dup X7.here hx rfl (hb hby d5_12) rfl rfl kk_) ?_
    show own_W p e below s Z own_EL _ _ _ (T7.setTop (mkF m 13 #[.val (.int x0)] [(.ref b7), (.ref b7)]))
    refine wwn_go (fun _ kk_ => XS.iconst X7.here hx rfl (hb hby d5_13) kk_) ?_
    show own_W p e below s Z own_EL _ _ _ (T7.setTop (mkF m 14 #[.val (.int x0)] [(.int (0 : Int32)), (.ref b7), (.ref b7)]))
    obtain ⟨T8, h8, k8, X8, e8, E8, A8, st8⟩ := newP X7 hx hZ (hw _ (List.mem_of_getElem? (i := 32) rfl)) e7 (g := (mkF m 14 #[.val (.int x0)] [(.int (0 : Int32)), (.ref b7), (.ref b7)])) rfl (hb hby d5_14) rfl (by decide) (cap := 0) (by decide) (by decide) (by decide) (by decide)
    obtain ⟨b8, g8⟩ : ∃ z, z = h7.size := ⟨_, rfl⟩
    rw [← g8] at A8 st8
    refine wwn_go st8 ?_
    have I8 := I7.ext E8
    have K8_ := K7_.ext E8
    have O8_ := O7_.ext E8
    have E8_b7 := A7.ext E8
    have F8_b7_value := F7_b7_value.ext E8
    have F8_b7_coder := F7_b7_coder.ext E8
    have ne_b7_b8 : b7 ≠ b8 := Nat.ne_of_lt (Nat.lt_of_lt_of_le A7.lt (Nat.le_of_eq g8.symm))
    have g_b8 : n0 ≤ b8 := Nat.le_trans Z7 (Nat.le_of_eq g8.symm)
    have Z8 : n0 ≤ h8.size := Nat.le_trans Z7 E8.1
    have ko_b8 : h0.size ≤ b8 := Nat.le_trans K7_.1 (Nat.le_of_eq g8.symm)
    have V8_b8 : Arv Z h8 b8 k8 .char (0 : Int32) [] (.int (0 : Int32)) := (Arv.new A8 (by decide)).pad (pad_rep [] (.int (0 : Int32)) 0)
    show own_W p e below s Z own_EL _ _ _ (T8.setTop (mkF m 16 #[.val (.int x0)] [(.ref b8), (.ref b7), (.ref b7)]))
    obtain ⟨_, _, ⟨T9, L9, k9, n9⟩, -, X9, S9, gr9, ⟨Lc9, hQ9, l9, y9, z9, C9⟩, st9⟩ := X8.specialBackS hx (y := (⟨"java/lang/String", "<init>", "([C)V"⟩ : MethodName)) rfl hown (mvT hZ (hw _ (List.mem_of_getElem? (i := 33) rfl))) (mvT hZ (hw _ (List.mem_of_getElem? (i := 34) rfl))) (mvT hZ (hw _ (List.mem_of_getElem? (i := 35) rfl))) (by decide) (backOfSH (W := 1) (rmF l Z a0 hw [] b7 b8 h8 n0 Z8 E8_b7 F8_b7_value F8_b7_coder g_b7 k8 V8_b8) hZ (hw _ (List.mem_of_getElem? (i := 35) rfl)) (hw _ (List.mem_of_getElem? (i := 31) rfl)) (by decide) (by decide) hEL I8.1.1) (g := (mkF m 16 #[.val (.int x0)] [(.ref b8), (.ref b7), (.ref b7)])) rfl (by rw [hml]; rfl) (Steps.refl _) (a := b7) (argsL := [(.ref b8)]) (rest := [(.ref b7)]) (lenOf pd_1 rfl) rfl (by show 2 * 0 + _ ≤ _; exact Nat.le_of_eq rfl) (hb hby d5_16) (fun _ _ => ⟨rfl, e8, (by decide : 2 + 4 ≤ _), (by decide : 4 + 8 ≤ _)⟩)
    dsimp only [Pt.U, Pt.locs, Pt.cells, Pt.slots] at X9 S9 gr9 l9 y9 z9 C9 st9 hQ9
    subst l9 y9 z9
    obtain ⟨X9, I9, hZ, hown⟩ := own_I.reb I8 e8 X9 S9 gr9 hZ hown C9
    generalize e9 : T9.heap = h9 at hQ9 I9
    obtain ⟨rfl, N9q, Kq9, Eq9⟩ := hQ9
    have N9 := Fr.app N0 N9q
    have K9_ := K8_.trans Kq9 (fun y_ q_ => by cases List.mem_singleton.mp q_; exact (Or.inr ko_b7))
    have O9_ := O8_.keep Kq9 (fun y_ q_ => by cases List.mem_singleton.mp q_; exact g_b7)
    have E9_b7 := E8_b7.keep Kq9
    have V9_b8 := V8_b8.keep Kq9 (fun q_ => (Ne.symm ne_b7_b8) (List.mem_singleton.mp q_))
    refine wwn_go (fun _ kk_ => st9.trans kk_) ?_
    show own_W p e below s Z own_EL _ _ _ (T9.setTop (mkF m 19 #[.val (.int x0)] [(.ref b7)]))
    exact wwn_retA (ht := rfl) (hv := rfl) X9 hx hZ hEL Bd.returns (BodyLoose.notSynchronized Bd) (hb hby d5_19) e9 I9 ⟨_, rfl, N9, g_b7, K9_, E9_b7, O9_⟩ (by decide) (by decide)
theorem own_bits (x : Int32) : x &&& (7 : Int32) = (if (x &&& (7 : Int32)) &&& (1 : Int32) = 0 then (0 : Int32) else 1) + (if (x &&& (7 : Int32)) &&& (2 : Int32) = 0 then (0 : Int32) else 2) + (if (x &&& (7 : Int32)) &&& (4 : Int32) = 0 then (0 : Int32) else 4) := by
  obtain ⟨n, hn, e⟩ := own_mask x 7 (by decide)
  rw [show (7 : Int32) = Int32.ofNat 7 from rfl, e]
  match n, hn with
  | 0, _ => decide
  | 1, _ => decide
  | 2, _ => decide
  | 3, _ => decide
  | 4, _ => decide
  | 5, _ => decide
  | 6, _ => decide
  | 7, _ => decide
theorem d2_0 : decode jdk_30_method_1_code 0 = .ok (.aload_n 0, 1) := by decide +kernel
theorem d2_1 : decode jdk_30_method_1_code 1 = .ok (.invokespecial 1, 3) := by decide +kernel
theorem d2_4 : decode jdk_30_method_1_code 4 = .ok (.return_, 1) := by decide +kernel
theorem pn_2 : plainName "java/lang/Record" = true := by first | (simp [plainName, overriddenIn]; done) | decide +kernel
theorem ef_rmRec (m : MethodId) (x0 : Addr) : entryFrame m #[(.ref x0)] 1 = mkF m 0 #[.val (.ref x0)] [] := by first | (simp [entryFrame, mkF, argsToLocals, Value.category]; done) | rfl
def Q_rmRec (Z : State) (x : Addr) (h0 : Heap) (n0 : Nat) : Option Value → Heap → List Loc → Prop := fun v h L => v = none ∧ Fr n0 L ∧ h = h0
set_option maxRecDepth 65536 in
set_option maxHeartbeats 40000000 in
theorem rmRec (l : Launch) (Z : State) (a0 : Array Value) (hw : ∀ d ∈ tables_1, d.before a0 Z = true) (ws : List Jvm.Cond) (x : Addr) (h0 : Heap) (n0 : Nat) (Z0 : n0 ≤ h0.size)  :
    MetFree l (⟨"java/lang/Record", "<init>", "()V"⟩ : MethodName) (head1 (Jvm.Cond.code (⟨"java/lang/Record", "<init>", "()V"⟩ : MethodName) jdk_30_method_1_code 1 none :: ws) ({ frames := 1, cells := 0, slots := 0, locals := 12 } : Room)) (fun as_ U => as_ = #[(.ref x)] ∧ Z.Warmed39 U.vm ∧ U.heap = h0) (fun _ _ _ _ _ => True) (fun _ U o U' => ∃ v L, o = .returned v ∧ (Q_rmRec Z x h0 n0) v U'.heap L ∧ FrameEnd U o U' L ({ frames := 1, cells := 0, slots := 0, locals := 12 } : Room).cells ({ frames := 1, cells := 0, slots := 0, locals := 12 } : Room).slots) := by
  refine MetFree.of_bodySF (plainFor_of_name pn_2) hisR ?_
  intro p e s m args below meth c s₁ Bd hml0 hP hK
  obtain ⟨rfl, hZ, hh⟩ := hP
  have hx := Bd.exec
  have hby := Bd.bytes
  have hml : c.maxLocals = 1 := hml0
  have hown : s.vm.findClass "java/lang/Record" = some m.cls := findClass_of_methodNamed Bd.named
  have hnm := (name_of_methodNamed Bd.named Bd.method).1
  have X0 : Stand p l e ({ frames := 1, cells := 0, slots := 0, locals := 12 } : Room) s m #[(.ref x)] below meth c s₁ [] 0 0 := Stand.of_body Bd
  have e0 : s₁.heap = h0 := by rw [← hh, Bd.state]; rfl
  have N0 := Fr.nil n0
  show own_G p e below s (Q_rmRec Z x h0 n0) ({ frames := 1, cells := 0, slots := 0, locals := 12 } : Room).cells ({ frames := 1, cells := 0, slots := 0, locals := 12 } : Room).slots (s₁.setTop (entryFrame m #[(.ref x)] 1))
  rw [ef_rmRec m x]
  show own_G p e below s _ _ _ (s₁.setTop (mkF m 0 #[.val (.ref x)] []))
  refine own_go (fun _ kk_ => XS.aloadN X0.here hx rfl (hb hby d2_0) rfl rfl kk_) ?_
  show own_G p e below s _ _ _ (s₁.setTop (mkF m 1 #[.val (.ref x)] [(.ref x)]))
  obtain ⟨T1, X1, e1, st1⟩ := initO X0 hx hZ hown (hw _ (List.mem_of_getElem? (i := 11) rfl)) (hw _ (List.mem_of_getElem? (i := 12) rfl)) (hw _ (List.mem_of_getElem? (i := 13) rfl)) e0 (g := (mkF m 1 #[.val (.ref x)] [(.ref x)])) rfl (by rw [hml]; rfl) rfl (hb hby d2_1) (by decide) (W := 0) (by show 2 * 0 + _ ≤ _; exact Nat.le_of_eq rfl) (by decide)
  refine own_go st1 ?_
  show own_G p e below s _ _ _ (T1.setTop (mkF m 4 #[.val (.ref x)] []))
  exact own_ret0 X1 hx Bd.returns (BodyLoose.notSynchronized Bd) (hb hby d2_4) e1 ⟨rfl, N0, rfl⟩ (by decide) (by decide)
theorem d1_0 : decode prog_47_method_1_code 0 = .ok (.aload_n 0, 1) := by decide +kernel
theorem d1_1 : decode prog_47_method_1_code 1 = .ok (.invokespecial 1, 3) := by decide +kernel
theorem d1_4 : decode prog_47_method_1_code 4 = .ok (.aload_n 0, 1) := by decide +kernel
theorem d1_5 : decode prog_47_method_1_code 5 = .ok (.aload_n 1, 1) := by decide +kernel
theorem d1_6 : decode prog_47_method_1_code 6 = .ok (.putfield 7, 3) := by decide +kernel
theorem d1_9 : decode prog_47_method_1_code 9 = .ok (.aload_n 0, 1) := by decide +kernel
theorem d1_10 : decode prog_47_method_1_code 10 = .ok (.aload_n 2, 1) := by decide +kernel
theorem d1_11 : decode prog_47_method_1_code 11 = .ok (.putfield 13, 3) := by decide +kernel
theorem d1_14 : decode prog_47_method_1_code 14 = .ok (.aload_n 0, 1) := by decide +kernel
theorem d1_15 : decode prog_47_method_1_code 15 = .ok (.aload_n 3, 1) := by decide +kernel
theorem d1_16 : decode prog_47_method_1_code 16 = .ok (.putfield 16, 3) := by decide +kernel
theorem d1_19 : decode prog_47_method_1_code 19 = .ok (.return_, 1) := by decide +kernel
theorem pn_3 : plainName "com/example/accordant/accordant/policy/Scope" = true := by first | (simp [plainName, overriddenIn]; done) | decide +kernel
theorem pd_2 : parseMethodDescriptor "()V" = some ⟨[], none⟩ := by decide +kernel
theorem ef_rmI000 (m : MethodId) (x0 : Addr) : entryFrame m #[(.ref x0), .null, .null, .null] 4 = mkF m 0 #[.val (.ref x0), .val .null, .val .null, .val .null] [] := by first | (simp [entryFrame, mkF, argsToLocals, Value.category]; done) | rfl
def Q_rmI000 (Z : State) (x : Addr) (h0 : Heap) (n0 : Nat) : Option Value → Heap → List Loc → Prop := fun v h L => v = none ∧ Fr n0 L ∧ Keep h0 h [x] ∧ Exa Z h x "com/example/accordant/accordant/policy/Scope" ∧ Fld Z h x "com/example/accordant/accordant/policy/Scope" "vendor" "Ljava/lang/String;" .null ∧ Fld Z h x "com/example/accordant/accordant/policy/Scope" "item" "Ljava/lang/String;" .null ∧ Fld Z h x "com/example/accordant/accordant/policy/Scope" "itemGroup" "Ljava/lang/String;" .null
set_option maxRecDepth 65536 in
set_option maxHeartbeats 40000000 in
theorem rmI000 (l : Launch) (Z : State) (a0 : Array Value) (hw : ∀ d ∈ tables_1, d.before a0 Z = true) (ws : List Jvm.Cond) (x : Addr) (h0 : Heap) (n0 : Nat) (Z0 : n0 ≤ h0.size) (E_x : Exa Z h0 x "com/example/accordant/accordant/policy/Scope") (g_x : n0 ≤ x) (F_0 : Fld Z h0 x "com/example/accordant/accordant/policy/Scope" "vendor" "Ljava/lang/String;" .null) (F_1 : Fld Z h0 x "com/example/accordant/accordant/policy/Scope" "item" "Ljava/lang/String;" .null) (F_2 : Fld Z h0 x "com/example/accordant/accordant/policy/Scope" "itemGroup" "Ljava/lang/String;" .null) :
    MetFree l (⟨"com/example/accordant/accordant/policy/Scope", "<init>", "(Ljava/lang/String;Ljava/lang/String;Ljava/lang/String;)V"⟩ : MethodName) (head1 (Jvm.Cond.code (⟨"com/example/accordant/accordant/policy/Scope", "<init>", "(Ljava/lang/String;Ljava/lang/String;Ljava/lang/String;)V"⟩ : MethodName) prog_47_method_1_code 4 none :: ws) ({ frames := 2, cells := 0, slots := 0, locals := 24 } : Room)) (fun as_ U => as_ = #[(.ref x), .null, .null, .null] ∧ Z.Warmed39 U.vm ∧ U.heap = h0) (fun _ _ _ _ _ => True) (fun _ U o U' => ∃ v L, o = .returned v ∧ (Q_rmI000 Z x h0 n0) v U'.heap L ∧ FrameEnd U o U' L ({ frames := 2, cells := 0, slots := 0, locals := 24 } : Room).cells ({ frames := 2, cells := 0, slots := 0, locals := 24 } : Room).slots) := by
  refine MetFree.of_bodySF (plainFor_of_name pn_3) hisR ?_
  intro p e s m args below meth c s₁ Bd hml0 hP hK
  obtain ⟨rfl, hZ, hh⟩ := hP
  have hx := Bd.exec
  have hby := Bd.bytes
  have hml : c.maxLocals = 4 := hml0
  have hown : s.vm.findClass "com/example/accordant/accordant/policy/Scope" = some m.cls := findClass_of_methodNamed Bd.named
  have hnm := (name_of_methodNamed Bd.named Bd.method).1
  have X0 : Stand p l e ({ frames := 2, cells := 0, slots := 0, locals := 24 } : Room) s m #[(.ref x), .null, .null, .null] below meth c s₁ [] 0 0 := Stand.of_body Bd
  have e0 : s₁.heap = h0 := by rw [← hh, Bd.state]; rfl
  have N0 := Fr.nil n0
  show own_G p e below s (Q_rmI000 Z x h0 n0) ({ frames := 2, cells := 0, slots := 0, locals := 24 } : Room).cells ({ frames := 2, cells := 0, slots := 0, locals := 24 } : Room).slots (s₁.setTop (entryFrame m #[(.ref x), .null, .null, .null] 4))
  rw [ef_rmI000 m x]
  have K_0 := Keep.refl h0 [x]
  show own_G p e below s _ _ _ (s₁.setTop (mkF m 0 #[.val (.ref x), .val .null, .val .null, .val .null] []))
  refine own_go (fun _ kk_ => XS.aloadN X0.here hx rfl (hb hby d1_0) rfl rfl kk_) ?_
  show own_G p e below s _ _ _ (s₁.setTop (mkF m 1 #[.val (.ref x), .val .null, .val .null, .val .null] [(.ref x)]))
  obtain ⟨_, _, ⟨T1, L1, k1, n1⟩, -, X1, ⟨Lc1, hQ1, l1, y1, z1⟩, st1⟩ := X0.specialBack hx (y := (⟨"java/lang/Record", "<init>", "()V"⟩ : MethodName)) rfl hown (mvT hZ (hw _ (List.mem_of_getElem? (i := 6) rfl))) (mvT hZ (hw _ (List.mem_of_getElem? (i := 7) rfl))) (mvT hZ (hw _ (List.mem_of_getElem? (i := 10) rfl))) (by decide) (backOf (W := 0) (rmRec l Z a0 hw [] x h0 n0 Z0) hZ (hw _ (List.mem_of_getElem? (i := 10) rfl)) (hw _ (List.mem_of_getElem? (i := 9) rfl)) (by decide) (by decide)) (g := (mkF m 1 #[.val (.ref x), .val .null, .val .null, .val .null] [(.ref x)])) rfl (by rw [hml]; rfl) (Steps.refl _) (a := x) (argsL := []) (rest := []) (lenOf pd_2 rfl) rfl (by show 2 * 0 + _ ≤ _; exact Nat.le_of_eq rfl) (hb hby d1_1) (fun _ _ => ⟨rfl, e0, (by decide : 0 + 0 ≤ _), (by decide : 0 + 0 ≤ _)⟩)
  dsimp only [Pt.U, Pt.locs, Pt.cells, Pt.slots] at X1 l1 y1 z1 st1 hQ1
  subst l1 y1 z1
  obtain ⟨rfl, N1q, e1⟩ := hQ1
  have N1 := Fr.app N0 N1q
  refine own_go (fun _ kk_ => st1.trans kk_) ?_
  show own_G p e below s _ _ _ (T1.setTop (mkF m 4 #[.val (.ref x), .val .null, .val .null, .val .null] []))
  refine own_go (fun _ kk_ => XS.aloadN X1.here hx rfl (hb hby d1_4) rfl rfl kk_) ?_
  show own_G p e below s _ _ _ (T1.setTop (mkF m 5 #[.val (.ref x), .val .null, .val .null, .val .null] [(.ref x)]))
  refine own_go (fun _ kk_ => XS.aloadN X1.here hx rfl (hb hby d1_5) rfl rfl kk_) ?_
  show own_G p e below s _ _ _ (T1.setTop (mkF m 6 #[.val (.ref x), .val .null, .val .null, .val .null] [.null, (.ref x)]))
  obtain ⟨T2, h2, X2, e2, W2, st2⟩ := putF X1 hx hZ hown (host := "") (Or.inl (hw _ (List.mem_of_getElem? (i := 14) rfl))) Via.refl e1 F_0 E_x (Or.inr ⟨(hw _ (List.mem_of_getElem? (i := 15) rfl)), rfl, hnm⟩) (hw _ (List.mem_of_getElem? (i := 1) rfl)) (ty := (.object "java/lang/String")) (by decide) rfl rfl (g := (mkF m 6 #[.val (.ref x), .val .null, .val .null, .val .null] [.null, (.ref x)])) rfl rfl (hb hby d1_6)
  refine own_go st2 ?_
  have E2_x := E_x.wr W2
  have K2_ := K_0.wr W2 (Or.inl (List.mem_singleton.mpr rfl))
  have F2_x_vendor := F_0.same W2
  have F2_x_item := F_1.other W2 (Or.inr (slot_ne (Or.inr (hw _ (List.mem_of_getElem? (i := 17) rfl))) (Or.inr (hw _ (List.mem_of_getElem? (i := 15) rfl))) (by decide) (t := (.object "java/lang/String")) (t' := (.object "java/lang/String")) (by decide) (by decide)))
  have F2_x_itemGroup := F_2.other W2 (Or.inr (slot_ne (Or.inr (hw _ (List.mem_of_getElem? (i := 19) rfl))) (Or.inr (hw _ (List.mem_of_getElem? (i := 15) rfl))) (by decide) (t := (.object "java/lang/String")) (t' := (.object "java/lang/String")) (by decide) (by decide)))
  have Z2 : n0 ≤ h2.size := by rw [W2.size]; exact Z0
  have N2 := Fr.snoc X2 N1 g_x
  show own_G p e below s _ _ _ (T2.setTop (mkF m 9 #[.val (.ref x), .val .null, .val .null, .val .null] []))
  refine own_go (fun _ kk_ => XS.aloadN X2.here hx rfl (hb hby d1_9) rfl rfl kk_) ?_
  show own_G p e below s _ _ _ (T2.setTop (mkF m 10 #[.val (.ref x), .val .null, .val .null, .val .null] [(.ref x)]))
  refine own_go (fun _ kk_ => XS.aloadN X2.here hx rfl (hb hby d1_10) rfl rfl kk_) ?_
  show own_G p e below s _ _ _ (T2.setTop (mkF m 11 #[.val (.ref x), .val .null, .val .null, .val .null] [.null, (.ref x)]))
  obtain ⟨T3, h3, X3, e3, W3, st3⟩ := putF X2 hx hZ hown (host := "") (Or.inl (hw _ (List.mem_of_getElem? (i := 16) rfl))) Via.refl e2 F2_x_item E2_x (Or.inr ⟨(hw _ (List.mem_of_getElem? (i := 17) rfl)), rfl, hnm⟩) (hw _ (List.mem_of_getElem? (i := 1) rfl)) (ty := (.object "java/lang/String")) (by decide) rfl rfl (g := (mkF m 11 #[.val (.ref x), .val .null, .val .null, .val .null] [.null, (.ref x)])) rfl rfl (hb hby d1_11)
  refine own_go st3 ?_
  have E3_x := E2_x.wr W3
  have K3_ := K2_.wr W3 (Or.inl (List.mem_singleton.mpr rfl))
  have F3_x_vendor := F2_x_vendor.other W3 (Or.inr (slot_ne (Or.inr (hw _ (List.mem_of_getElem? (i := 15) rfl))) (Or.inr (hw _ (List.mem_of_getElem? (i := 17) rfl))) (by decide) (t := (.object "java/lang/String")) (t' := (.object "java/lang/String")) (by decide) (by decide)))
  have F3_x_item := F2_x_item.same W3
  have F3_x_itemGroup := F2_x_itemGroup.other W3 (Or.inr (slot_ne (Or.inr (hw _ (List.mem_of_getElem? (i := 19) rfl))) (Or.inr (hw _ (List.mem_of_getElem? (i := 17) rfl))) (by decide) (t := (.object "java/lang/String")) (t' := (.object "java/lang/String")) (by decide) (by decide)))
  have Z3 : n0 ≤ h3.size := by rw [W3.size]; exact Z2
  have N3 := Fr.snoc X3 N2 g_x
  show own_G p e below s _ _ _ (T3.setTop (mkF m 14 #[.val (.ref x), .val .null, .val .null, .val .null] []))
  refine own_go (fun _ kk_ => XS.aloadN X3.here hx rfl (hb hby d1_14) rfl rfl kk_) ?_
  show own_G p e below s _ _ _ (T3.setTop (mkF m 15 #[.val (.ref x), .val .null, .val .null, .val .null] [(.ref x)]))
  refine own_go (fun _ kk_ => XS.aloadN X3.here hx rfl (hb hby d1_15) rfl rfl kk_) ?_
  show own_G p e below s _ _ _ (T3.setTop (mkF m 16 #[.val (.ref x), .val .null, .val .null, .val .null] [.null, (.ref x)]))
  obtain ⟨T4, h4, X4, e4, W4, st4⟩ := putF X3 hx hZ hown (host := "") (Or.inl (hw _ (List.mem_of_getElem? (i := 18) rfl))) Via.refl e3 F3_x_itemGroup E3_x (Or.inr ⟨(hw _ (List.mem_of_getElem? (i := 19) rfl)), rfl, hnm⟩) (hw _ (List.mem_of_getElem? (i := 1) rfl)) (ty := (.object "java/lang/String")) (by decide) rfl rfl (g := (mkF m 16 #[.val (.ref x), .val .null, .val .null, .val .null] [.null, (.ref x)])) rfl rfl (hb hby d1_16)
  refine own_go st4 ?_
  have E4_x := E3_x.wr W4
  have K4_ := K3_.wr W4 (Or.inl (List.mem_singleton.mpr rfl))
  have F4_x_vendor := F3_x_vendor.other W4 (Or.inr (slot_ne (Or.inr (hw _ (List.mem_of_getElem? (i := 15) rfl))) (Or.inr (hw _ (List.mem_of_getElem? (i := 19) rfl))) (by decide) (t := (.object "java/lang/String")) (t' := (.object "java/lang/String")) (by decide) (by decide)))
  have F4_x_item := F3_x_item.other W4 (Or.inr (slot_ne (Or.inr (hw _ (List.mem_of_getElem? (i := 17) rfl))) (Or.inr (hw _ (List.mem_of_getElem? (i := 19) rfl))) (by decide) (t := (.object "java/lang/String")) (t' := (.object "java/lang/String")) (by decide) (by decide)))
  have F4_x_itemGroup := F3_x_itemGroup.same W4
  have Z4 : n0 ≤ h4.size := by rw [W4.size]; exact Z3
  have N4 := Fr.snoc X4 N3 g_x
  show own_G p e below s _ _ _ (T4.setTop (mkF m 19 #[.val (.ref x), .val .null, .val .null, .val .null] []))
  exact own_ret0 X4 hx Bd.returns (BodyLoose.notSynchronized Bd) (hb hby d1_19) e4 ⟨rfl, N4, K4_, E4_x, F4_x_vendor, F4_x_item, F4_x_itemGroup⟩ (by decide) (by decide)
theorem d4_0 : decode prog_47_method_2_code 0 = .ok (.aload_n 0, 1) := by decide +kernel
theorem d4_1 : decode prog_47_method_2_code 1 = .ok (.getfield 7, 3) := by decide +kernel
theorem d4_4 : decode prog_47_method_2_code 4 = .ok (.ifnonnull 7, 3) := by decide +kernel
theorem d4_7 : decode prog_47_method_2_code 7 = .ok (.iconst 0, 1) := by decide +kernel
theorem d4_8 : decode prog_47_method_2_code 8 = .ok (.goto 4, 3) := by decide +kernel
theorem d4_12 : decode prog_47_method_2_code 12 = .ok (.aload_n 0, 1) := by decide +kernel
theorem d4_13 : decode prog_47_method_2_code 13 = .ok (.getfield 13, 3) := by decide +kernel
theorem d4_16 : decode prog_47_method_2_code 16 = .ok (.ifnonnull 7, 3) := by decide +kernel
theorem d4_19 : decode prog_47_method_2_code 19 = .ok (.iconst 0, 1) := by decide +kernel
theorem d4_20 : decode prog_47_method_2_code 20 = .ok (.goto 4, 3) := by decide +kernel
theorem d4_24 : decode prog_47_method_2_code 24 = .ok (.iadd, 1) := by decide +kernel
theorem d4_25 : decode prog_47_method_2_code 25 = .ok (.aload_n 0, 1) := by decide +kernel
theorem d4_26 : decode prog_47_method_2_code 26 = .ok (.getfield 16, 3) := by decide +kernel
theorem d4_29 : decode prog_47_method_2_code 29 = .ok (.ifnonnull 7, 3) := by decide +kernel
theorem d4_32 : decode prog_47_method_2_code 32 = .ok (.iconst 0, 1) := by decide +kernel
theorem d4_33 : decode prog_47_method_2_code 33 = .ok (.goto 4, 3) := by decide +kernel
theorem d4_37 : decode prog_47_method_2_code 37 = .ok (.iadd, 1) := by decide +kernel
theorem d4_38 : decode prog_47_method_2_code 38 = .ok (.ireturn, 1) := by decide +kernel
theorem ef_rmP000 (m : MethodId) (x0 : Addr) : entryFrame m #[(.ref x0)] 1 = mkF m 0 #[.val (.ref x0)] [] := by first | (simp [entryFrame, mkF, argsToLocals, Value.category]; done) | rfl
def Q_rmP000 (Z : State) (x : Addr) (h0 : Heap) (n0 : Nat) : Option Value → Heap → List Loc → Prop := fun v h L => v = some (.int 0) ∧ Fr n0 L ∧ h = h0
set_option maxRecDepth 65536 in
set_option maxHeartbeats 40000000 in
theorem rmP000 (l : Launch) (Z : State) (a0 : Array Value) (hw : ∀ d ∈ tables_1, d.before a0 Z = true) (ws : List Jvm.Cond) (x : Addr) (h0 : Heap) (n0 : Nat) (Z0 : n0 ≤ h0.size) (F_0 : Fld Z h0 x "com/example/accordant/accordant/policy/Scope" "vendor" "Ljava/lang/String;" .null) (F_1 : Fld Z h0 x "com/example/accordant/accordant/policy/Scope" "item" "Ljava/lang/String;" .null) (F_2 : Fld Z h0 x "com/example/accordant/accordant/policy/Scope" "itemGroup" "Ljava/lang/String;" .null) :
    MetFree l (⟨"com/example/accordant/accordant/policy/Scope", "shape", "()I"⟩ : MethodName) (head1 (Jvm.Cond.code (⟨"com/example/accordant/accordant/policy/Scope", "shape", "()I"⟩ : MethodName) prog_47_method_2_code 1 (some .int) :: ws) ({ frames := 0, cells := 0, slots := 0, locals := 0 } : Room)) (fun as_ U => as_ = #[(.ref x)] ∧ Z.Warmed39 U.vm ∧ U.heap = h0) (fun _ _ _ _ _ => True) (fun _ U o U' => ∃ v L, o = .returned v ∧ (Q_rmP000 Z x h0 n0) v U'.heap L ∧ FrameEnd U o U' L ({ frames := 0, cells := 0, slots := 0, locals := 0 } : Room).cells ({ frames := 0, cells := 0, slots := 0, locals := 0 } : Room).slots) := by
  refine MetFree.of_bodySF (plainFor_of_name pn_3) hisR ?_
  intro p e s m args below meth c s₁ Bd hml0 hP hK
  obtain ⟨rfl, hZ, hh⟩ := hP
  have hx := Bd.exec
  have hby := Bd.bytes
  have hml : c.maxLocals = 1 := hml0
  have hown : s.vm.findClass "com/example/accordant/accordant/policy/Scope" = some m.cls := findClass_of_methodNamed Bd.named
  have hnm := (name_of_methodNamed Bd.named Bd.method).1
  have X0 : Stand p l e ({ frames := 0, cells := 0, slots := 0, locals := 0 } : Room) s m #[(.ref x)] below meth c s₁ [] 0 0 := Stand.of_body Bd
  have e0 : s₁.heap = h0 := by rw [← hh, Bd.state]; rfl
  have N0 := Fr.nil n0
  show own_G p e below s (Q_rmP000 Z x h0 n0) ({ frames := 0, cells := 0, slots := 0, locals := 0 } : Room).cells ({ frames := 0, cells := 0, slots := 0, locals := 0 } : Room).slots (s₁.setTop (entryFrame m #[(.ref x)] 1))
  rw [ef_rmP000 m x]
  show own_G p e below s _ _ _ (s₁.setTop (mkF m 0 #[.val (.ref x)] []))
  refine own_go (fun _ kk_ => XS.aloadN X0.here hx rfl (hb hby d4_0) rfl rfl kk_) ?_
  show own_G p e below s _ _ _ (s₁.setTop (mkF m 1 #[.val (.ref x)] [(.ref x)]))
  obtain ⟨T1, X1, e1, st1⟩ := getF X0 hx hZ hown (host := "") (Or.inl (hw _ (List.mem_of_getElem? (i := 14) rfl))) Via.refl e0 F_0 (g := (mkF m 1 #[.val (.ref x)] [(.ref x)])) rfl rfl (hb hby d4_1)
  refine own_go st1 ?_
  show own_G p e below s _ _ _ (T1.setTop (mkF m 4 #[.val (.ref x)] [.null]))
  refine own_go (fun _ kk_ => XT.ifnonnullNo X1.here hx rfl (hb hby d4_4) rfl kk_) ?_
  show own_G p e below s _ _ _ (T1.setTop (mkF m 7 #[.val (.ref x)] []))
  refine own_go (fun _ kk_ => XS.iconst X1.here hx rfl (hb hby d4_7) kk_) ?_
  show own_G p e below s _ _ _ (T1.setTop (mkF m 8 #[.val (.ref x)] [(.int (0 : Int32))]))
  refine own_go (fun _ kk_ => XS.goto X1.here hx rfl (pc0 := 8) (pc' := 12) rfl (hb hby d4_8) (by decide) (by decide) kk_) ?_
  show own_G p e below s _ _ _ (T1.setTop (mkF m 12 #[.val (.ref x)] [(.int (0 : Int32))]))
  refine own_go (fun _ kk_ => XS.aloadN X1.here hx rfl (hb hby d4_12) rfl rfl kk_) ?_
  show own_G p e below s _ _ _ (T1.setTop (mkF m 13 #[.val (.ref x)] [(.ref x), (.int (0 : Int32))]))
  obtain ⟨T2, X2, e2, st2⟩ := getF X1 hx hZ hown (host := "") (Or.inl (hw _ (List.mem_of_getElem? (i := 16) rfl))) Via.refl e1 F_1 (g := (mkF m 13 #[.val (.ref x)] [(.ref x), (.int (0 : Int32))])) rfl rfl (hb hby d4_13)
  refine own_go st2 ?_
  show own_G p e below s _ _ _ (T2.setTop (mkF m 16 #[.val (.ref x)] [.null, (.int (0 : Int32))]))
  refine own_go (fun _ kk_ => XT.ifnonnullNo X2.here hx rfl (hb hby d4_16) rfl kk_) ?_
  show own_G p e below s _ _ _ (T2.setTop (mkF m 19 #[.val (.ref x)] [(.int (0 : Int32))]))
  refine own_go (fun _ kk_ => XS.iconst X2.here hx rfl (hb hby d4_19) kk_) ?_
  show own_G p e below s _ _ _ (T2.setTop (mkF m 20 #[.val (.ref x)] [(.int (0 : Int32)), (.int (0 : Int32))]))
  refine own_go (fun _ kk_ => XS.goto X2.here hx rfl (pc0 := 20) (pc' := 24) rfl (hb hby d4_20) (by decide) (by decide) kk_) ?_
  show own_G p e below s _ _ _ (T2.setTop (mkF m 24 #[.val (.ref x)] [(.int (0 : Int32)), (.int (0 : Int32))]))
  refine own_go (fun _ kk_ => XS.iadd X2.here hx rfl (hb hby d4_24) rfl kk_) ?_
  show own_G p e below s _ _ _ (T2.setTop (mkF m 25 #[.val (.ref x)] [(.int (0 : Int32))]))
  refine own_go (fun _ kk_ => XS.aloadN X2.here hx rfl (hb hby d4_25) rfl rfl kk_) ?_
  show own_G p e below s _ _ _ (T2.setTop (mkF m 26 #[.val (.ref x)] [(.ref x), (.int (0 : Int32))]))
  obtain ⟨T3, X3, e3, st3⟩ := getF X2 hx hZ hown (host := "") (Or.inl (hw _ (List.mem_of_getElem? (i := 18) rfl))) Via.refl e2 F_2 (g := (mkF m 26 #[.val (.ref x)] [(.ref x), (.int (0 : Int32))])) rfl rfl (hb hby d4_26)
  refine own_go st3 ?_
  show own_G p e below s _ _ _ (T3.setTop (mkF m 29 #[.val (.ref x)] [.null, (.int (0 : Int32))]))
  refine own_go (fun _ kk_ => XT.ifnonnullNo X3.here hx rfl (hb hby d4_29) rfl kk_) ?_
  show own_G p e below s _ _ _ (T3.setTop (mkF m 32 #[.val (.ref x)] [(.int (0 : Int32))]))
  refine own_go (fun _ kk_ => XS.iconst X3.here hx rfl (hb hby d4_32) kk_) ?_
  show own_G p e below s _ _ _ (T3.setTop (mkF m 33 #[.val (.ref x)] [(.int (0 : Int32)), (.int (0 : Int32))]))
  refine own_go (fun _ kk_ => XS.goto X3.here hx rfl (pc0 := 33) (pc' := 37) rfl (hb hby d4_33) (by decide) (by decide) kk_) ?_
  show own_G p e below s _ _ _ (T3.setTop (mkF m 37 #[.val (.ref x)] [(.int (0 : Int32)), (.int (0 : Int32))]))
  refine own_go (fun _ kk_ => XS.iadd X3.here hx rfl (hb hby d4_37) rfl kk_) ?_
  show own_G p e below s _ _ _ (T3.setTop (mkF m 38 #[.val (.ref x)] [(.int (0 : Int32))]))
  exact own_retI X3 hx Bd.returns (BodyLoose.notSynchronized Bd) (hb hby d4_38) e3 ⟨rfl, N0, rfl⟩ (by decide) (by decide)
theorem ef_rmI001 (m : MethodId) (x0 : Addr) (x3 : Addr) : entryFrame m #[(.ref x0), .null, .null, (.ref x3)] 4 = mkF m 0 #[.val (.ref x0), .val .null, .val .null, .val (.ref x3)] [] := by first | (simp [entryFrame, mkF, argsToLocals, Value.category]; done) | rfl
def Q_rmI001 (Z : State) (x : Addr) (s2 : Addr) (h0 : Heap) (n0 : Nat) : Option Value → Heap → List Loc → Prop := fun v h L => v = none ∧ Fr n0 L ∧ Keep h0 h [x] ∧ Exa Z h x "com/example/accordant/accordant/policy/Scope" ∧ Fld Z h x "com/example/accordant/accordant/policy/Scope" "vendor" "Ljava/lang/String;" .null ∧ Fld Z h x "com/example/accordant/accordant/policy/Scope" "item" "Ljava/lang/String;" .null ∧ Fld Z h x "com/example/accordant/accordant/policy/Scope" "itemGroup" "Ljava/lang/String;" (.ref s2)
set_option maxRecDepth 65536 in
set_option maxHeartbeats 40000000 in
theorem rmI001 (l : Launch) (Z : State) (a0 : Array Value) (hw : ∀ d ∈ tables_1, d.before a0 Z = true) (ws : List Jvm.Cond) (x : Addr) (s2 : Addr) (h0 : Heap) (n0 : Nat) (Z0 : n0 ≤ h0.size) (E_x : Exa Z h0 x "com/example/accordant/accordant/policy/Scope") (g_x : n0 ≤ x) (F_0 : Fld Z h0 x "com/example/accordant/accordant/policy/Scope" "vendor" "Ljava/lang/String;" .null) (F_1 : Fld Z h0 x "com/example/accordant/accordant/policy/Scope" "item" "Ljava/lang/String;" .null) (F_2 : Fld Z h0 x "com/example/accordant/accordant/policy/Scope" "itemGroup" "Ljava/lang/String;" .null) :
    MetFree l (⟨"com/example/accordant/accordant/policy/Scope", "<init>", "(Ljava/lang/String;Ljava/lang/String;Ljava/lang/String;)V"⟩ : MethodName) (head1 (Jvm.Cond.code (⟨"com/example/accordant/accordant/policy/Scope", "<init>", "(Ljava/lang/String;Ljava/lang/String;Ljava/lang/String;)V"⟩ : MethodName) prog_47_method_1_code 4 none :: ws) ({ frames := 2, cells := 0, slots := 0, locals := 24 } : Room)) (fun as_ U => as_ = #[(.ref x), .null, .null, (.ref s2)] ∧ Z.Warmed39 U.vm ∧ U.heap = h0) (fun _ _ _ _ _ => True) (fun _ U o U' => ∃ v L, o = .returned v ∧ (Q_rmI001 Z x s2 h0 n0) v U'.heap L ∧ FrameEnd U o U' L ({ frames := 2, cells := 0, slots := 0, locals := 24 } : Room).cells ({ frames := 2, cells := 0, slots := 0, locals := 24 } : Room).slots) := by
  refine MetFree.of_bodySF (plainFor_of_name pn_3) hisR ?_
  intro p e s m args below meth c s₁ Bd hml0 hP hK
  obtain ⟨rfl, hZ, hh⟩ := hP
  have hx := Bd.exec
  have hby := Bd.bytes
  have hml : c.maxLocals = 4 := hml0
  have hown : s.vm.findClass "com/example/accordant/accordant/policy/Scope" = some m.cls := findClass_of_methodNamed Bd.named
  have hnm := (name_of_methodNamed Bd.named Bd.method).1
  have X0 : Stand p l e ({ frames := 2, cells := 0, slots := 0, locals := 24 } : Room) s m #[(.ref x), .null, .null, (.ref s2)] below meth c s₁ [] 0 0 := Stand.of_body Bd
  have e0 : s₁.heap = h0 := by rw [← hh, Bd.state]; rfl
  have N0 := Fr.nil n0
  show own_G p e below s (Q_rmI001 Z x s2 h0 n0) ({ frames := 2, cells := 0, slots := 0, locals := 24 } : Room).cells ({ frames := 2, cells := 0, slots := 0, locals := 24 } : Room).slots (s₁.setTop (entryFrame m #[(.ref x), .null, .null, (.ref s2)] 4))
  rw [ef_rmI001 m x s2]
  have K_0 := Keep.refl h0 [x]
  show own_G p e below s _ _ _ (s₁.setTop (mkF m 0 #[.val (.ref x), .val .null, .val .null, .val (.ref s2)] []))
  refine own_go (fun _ kk_ => XS.aloadN X0.here hx rfl (hb hby d1_0) rfl rfl kk_) ?_
  show own_G p e below s _ _ _ (s₁.setTop (mkF m 1 #[.val (.ref x), .val .null, .val .null, .val (.ref s2)] [(.ref x)]))
  obtain ⟨_, _, ⟨T1, L1, k1, n1⟩, -, X1, ⟨Lc1, hQ1, l1, y1, z1⟩, st1⟩ := X0.specialBack hx (y := (⟨"java/lang/Record", "<init>", "()V"⟩ : MethodName)) rfl hown (mvT hZ (hw _ (List.mem_of_getElem? (i := 6) rfl))) (mvT hZ (hw _ (List.mem_of_getElem? (i := 7) rfl))) (mvT hZ (hw _ (List.mem_of_getElem? (i := 10) rfl))) (by decide) (backOf (W := 0) (rmRec l Z a0 hw [] x h0 n0 Z0) hZ (hw _ (List.mem_of_getElem? (i := 10) rfl)) (hw _ (List.mem_of_getElem? (i := 9) rfl)) (by decide) (by decide)) (g := (mkF m 1 #[.val (.ref x), .val .null, .val .null, .val (.ref s2)] [(.ref x)])) rfl (by rw [hml]; rfl) (Steps.refl _) (a := x) (argsL := []) (rest := []) (lenOf pd_2 rfl) rfl (by show 2 * 0 + _ ≤ _; exact Nat.le_of_eq rfl) (hb hby d1_1) (fun _ _ => ⟨rfl, e0, (by decide : 0 + 0 ≤ _), (by decide : 0 + 0 ≤ _)⟩)
  dsimp only [Pt.U, Pt.locs, Pt.cells, Pt.slots] at X1 l1 y1 z1 st1 hQ1
  subst l1 y1 z1
  obtain ⟨rfl, N1q, e1⟩ := hQ1
  have N1 := Fr.app N0 N1q
  refine own_go (fun _ kk_ => st1.trans kk_) ?_
  show own_G p e below s _ _ _ (T1.setTop (mkF m 4 #[.val (.ref x), .val .null, .val .null, .val (.ref s2)] []))
  refine own_go (fun _ kk_ => XS.aloadN X1.here hx rfl (hb hby d1_4) rfl rfl kk_) ?_
  show own_G p e below s _ _ _ (T1.setTop (mkF m 5 #[.val (.ref x), .val .null, .val .null, .val (.ref s2)] [(.ref x)]))
  refine own_go (fun _ kk_ => XS.aloadN X1.here hx rfl (hb hby d1_5) rfl rfl kk_) ?_
  show own_G p e below s _ _ _ (T1.setTop (mkF m 6 #[.val (.ref x), .val .null, .val .null, .val (.ref s2)] [.null, (.ref x)]))
  obtain ⟨T2, h2, X2, e2, W2, st2⟩ := putF X1 hx hZ hown (host := "") (Or.inl (hw _ (List.mem_of_getElem? (i := 14) rfl))) Via.refl e1 F_0 E_x (Or.inr ⟨(hw _ (List.mem_of_getElem? (i := 15) rfl)), rfl, hnm⟩) (hw _ (List.mem_of_getElem? (i := 1) rfl)) (ty := (.object "java/lang/String")) (by decide) rfl rfl (g := (mkF m 6 #[.val (.ref x), .val .null, .val .null, .val (.ref s2)] [.null, (.ref x)])) rfl rfl (hb hby d1_6)
  refine own_go st2 ?_
  have E2_x := E_x.wr W2
  have K2_ := K_0.wr W2 (Or.inl (List.mem_singleton.mpr rfl))
  have F2_x_vendor := F_0.same W2
  have F2_x_item := F_1.other W2 (Or.inr (slot_ne (Or.inr (hw _ (List.mem_of_getElem? (i := 17) rfl))) (Or.inr (hw _ (List.mem_of_getElem? (i := 15) rfl))) (by decide) (t := (.object "java/lang/String")) (t' := (.object "java/lang/String")) (by decide) (by decide)))
  have F2_x_itemGroup := F_2.other W2 (Or.inr (slot_ne (Or.inr (hw _ (List.mem_of_getElem? (i := 19) rfl))) (Or.inr (hw _ (List.mem_of_getElem? (i := 15) rfl))) (by decide) (t := (.object "java/lang/String")) (t' := (.object "java/lang/String")) (by decide) (by decide)))
  have Z2 : n0 ≤ h2.size := by rw [W2.size]; exact Z0
  have N2 := Fr.snoc X2 N1 g_x
  show own_G p e below s _ _ _ (T2.setTop (mkF m 9 #[.val (.ref x), .val .null, .val .null, .val (.ref s2)] []))
  refine own_go (fun _ kk_ => XS.aloadN X2.here hx rfl (hb hby d1_9) rfl rfl kk_) ?_
  show own_G p e below s _ _ _ (T2.setTop (mkF m 10 #[.val (.ref x), .val .null, .val .null, .val (.ref s2)] [(.ref x)]))
  refine own_go (fun _ kk_ => XS.aloadN X2.here hx rfl (hb hby d1_10) rfl rfl kk_) ?_
  show own_G p e below s _ _ _ (T2.setTop (mkF m 11 #[.val (.ref x), .val .null, .val .null, .val (.ref s2)] [.null, (.ref x)]))
  obtain ⟨T3, h3, X3, e3, W3, st3⟩ := putF X2 hx hZ hown (host := "") (Or.inl (hw _ (List.mem_of_getElem? (i := 16) rfl))) Via.refl e2 F2_x_item E2_x (Or.inr ⟨(hw _ (List.mem_of_getElem? (i := 17) rfl)), rfl, hnm⟩) (hw _ (List.mem_of_getElem? (i := 1) rfl)) (ty := (.object "java/lang/String")) (by decide) rfl rfl (g := (mkF m 11 #[.val (.ref x), .val .null, .val .null, .val (.ref s2)] [.null, (.ref x)])) rfl rfl (hb hby d1_11)
  refine own_go st3 ?_
  have E3_x := E2_x.wr W3
  have K3_ := K2_.wr W3 (Or.inl (List.mem_singleton.mpr rfl))
  have F3_x_vendor := F2_x_vendor.other W3 (Or.inr (slot_ne (Or.inr (hw _ (List.mem_of_getElem? (i := 15) rfl))) (Or.inr (hw _ (List.mem_of_getElem? (i := 17) rfl))) (by decide) (t := (.object "java/lang/String")) (t' := (.object "java/lang/String")) (by decide) (by decide)))
  have F3_x_item := F2_x_item.same W3
  have F3_x_itemGroup := F2_x_itemGroup.other W3 (Or.inr (slot_ne (Or.inr (hw _ (List.mem_of_getElem? (i := 19) rfl))) (Or.inr (hw _ (List.mem_of_getElem? (i := 17) rfl))) (by decide) (t := (.object "java/lang/String")) (t' := (.object "java/lang/String")) (by decide) (by decide)))
  have Z3 : n0 ≤ h3.size := by rw [W3.size]; exact Z2
  have N3 := Fr.snoc X3 N2 g_x
  show own_G p e below s _ _ _ (T3.setTop (mkF m 14 #[.val (.ref x), .val .null, .val .null, .val (.ref s2)] []))
  refine own_go (fun _ kk_ => XS.aloadN X3.here hx rfl (hb hby d1_14) rfl rfl kk_) ?_
  show own_G p e below s _ _ _ (T3.setTop (mkF m 15 #[.val (.ref x), .val .null, .val .null, .val (.ref s2)] [(.ref x)]))
  refine own_go (fun _ kk_ => XS.aloadN X3.here hx rfl (hb hby d1_15) rfl rfl kk_) ?_
  show own_G p e below s _ _ _ (T3.setTop (mkF m 16 #[.val (.ref x), .val .null, .val .null, .val (.ref s2)] [(.ref s2), (.ref x)]))
  obtain ⟨T4, h4, X4, e4, W4, st4⟩ := putF X3 hx hZ hown (host := "") (Or.inl (hw _ (List.mem_of_getElem? (i := 18) rfl))) Via.refl e3 F3_x_itemGroup E3_x (Or.inr ⟨(hw _ (List.mem_of_getElem? (i := 19) rfl)), rfl, hnm⟩) (hw _ (List.mem_of_getElem? (i := 1) rfl)) (ty := (.object "java/lang/String")) (by decide) rfl rfl (g := (mkF m 16 #[.val (.ref x), .val .null, .val .null, .val (.ref s2)] [(.ref s2), (.ref x)])) rfl rfl (hb hby d1_16)
  refine own_go st4 ?_
  have E4_x := E3_x.wr W4
  have K4_ := K3_.wr W4 (Or.inl (List.mem_singleton.mpr rfl))
  have F4_x_vendor := F3_x_vendor.other W4 (Or.inr (slot_ne (Or.inr (hw _ (List.mem_of_getElem? (i := 15) rfl))) (Or.inr (hw _ (List.mem_of_getElem? (i := 19) rfl))) (by decide) (t := (.object "java/lang/String")) (t' := (.object "java/lang/String")) (by decide) (by decide)))
  have F4_x_item := F3_x_item.other W4 (Or.inr (slot_ne (Or.inr (hw _ (List.mem_of_getElem? (i := 17) rfl))) (Or.inr (hw _ (List.mem_of_getElem? (i := 19) rfl))) (by decide) (t := (.object "java/lang/String")) (t' := (.object "java/lang/String")) (by decide) (by decide)))
  have F4_x_itemGroup := F3_x_itemGroup.same W4
  have Z4 : n0 ≤ h4.size := by rw [W4.size]; exact Z3
  have N4 := Fr.snoc X4 N3 g_x
  show own_G p e below s _ _ _ (T4.setTop (mkF m 19 #[.val (.ref x), .val .null, .val .null, .val (.ref s2)] []))
  exact own_ret0 X4 hx Bd.returns (BodyLoose.notSynchronized Bd) (hb hby d1_19) e4 ⟨rfl, N4, K4_, E4_x, F4_x_vendor, F4_x_item, F4_x_itemGroup⟩ (by decide) (by decide)
theorem d4_36 : decode prog_47_method_2_code 36 = .ok (.iconst 4, 1) := by decide +kernel
theorem ef_rmP001 (m : MethodId) (x0 : Addr) : entryFrame m #[(.ref x0)] 1 = mkF m 0 #[.val (.ref x0)] [] := by first | (simp [entryFrame, mkF, argsToLocals, Value.category]; done) | rfl
def Q_rmP001 (Z : State) (x : Addr) (s2 : Addr) (h0 : Heap) (n0 : Nat) : Option Value → Heap → List Loc → Prop := fun v h L => v = some (.int 4) ∧ Fr n0 L ∧ h = h0
set_option maxRecDepth 65536 in
set_option maxHeartbeats 40000000 in
theorem rmP001 (l : Launch) (Z : State) (a0 : Array Value) (hw : ∀ d ∈ tables_1, d.before a0 Z = true) (ws : List Jvm.Cond) (x : Addr) (s2 : Addr) (h0 : Heap) (n0 : Nat) (Z0 : n0 ≤ h0.size) (F_0 : Fld Z h0 x "com/example/accordant/accordant/policy/Scope" "vendor" "Ljava/lang/String;" .null) (F_1 : Fld Z h0 x "com/example/accordant/accordant/policy/Scope" "item" "Ljava/lang/String;" .null) (F_2 : Fld Z h0 x "com/example/accordant/accordant/policy/Scope" "itemGroup" "Ljava/lang/String;" (.ref s2)) :
    MetFree l (⟨"com/example/accordant/accordant/policy/Scope", "shape", "()I"⟩ : MethodName) (head1 (Jvm.Cond.code (⟨"com/example/accordant/accordant/policy/Scope", "shape", "()I"⟩ : MethodName) prog_47_method_2_code 1 (some .int) :: ws) ({ frames := 0, cells := 0, slots := 0, locals := 0 } : Room)) (fun as_ U => as_ = #[(.ref x)] ∧ Z.Warmed39 U.vm ∧ U.heap = h0) (fun _ _ _ _ _ => True) (fun _ U o U' => ∃ v L, o = .returned v ∧ (Q_rmP001 Z x s2 h0 n0) v U'.heap L ∧ FrameEnd U o U' L ({ frames := 0, cells := 0, slots := 0, locals := 0 } : Room).cells ({ frames := 0, cells := 0, slots := 0, locals := 0 } : Room).slots) := by
  refine MetFree.of_bodySF (plainFor_of_name pn_3) hisR ?_
  intro p e s m args below meth c s₁ Bd hml0 hP hK
  obtain ⟨rfl, hZ, hh⟩ := hP
  have hx := Bd.exec
  have hby := Bd.bytes
  have hml : c.maxLocals = 1 := hml0
  have hown : s.vm.findClass "com/example/accordant/accordant/policy/Scope" = some m.cls := findClass_of_methodNamed Bd.named
  have hnm := (name_of_methodNamed Bd.named Bd.method).1
  have X0 : Stand p l e ({ frames := 0, cells := 0, slots := 0, locals := 0 } : Room) s m #[(.ref x)] below meth c s₁ [] 0 0 := Stand.of_body Bd
  have e0 : s₁.heap = h0 := by rw [← hh, Bd.state]; rfl
  have N0 := Fr.nil n0
  show own_G p e below s (Q_rmP001 Z x s2 h0 n0) ({ frames := 0, cells := 0, slots := 0, locals := 0 } : Room).cells ({ frames := 0, cells := 0, slots := 0, locals := 0 } : Room).slots (s₁.setTop (entryFrame m #[(.ref x)] 1))
  rw [ef_rmP001 m x]
  show own_G p e below s _ _ _ (s₁.setTop (mkF m 0 #[.val (.ref x)] []))
  refine own_go (fun _ kk_ => XS.aloadN X0.here hx rfl (hb hby d4_0) rfl rfl kk_) ?_
  show own_G p e below s _ _ _ (s₁.setTop (mkF m 1 #[.val (.ref x)] [(.ref x)]))
  obtain ⟨T1, X1, e1, st1⟩ := getF X0 hx hZ hown (host := "") (Or.inl (hw _ (List.mem_of_getElem? (i := 14) rfl))) Via.refl e0 F_0 (g := (mkF m 1 #[.val (.ref x)] [(.ref x)])) rfl rfl (hb hby d4_1)
  refine own_go st1 ?_
  show own_G p e below s _ _ _ (T1.setTop (mkF m 4 #[.val (.ref x)] [.null]))
  refine own_go (fun _ kk_ => XT.ifnonnullNo X1.here hx rfl (hb hby d4_4) rfl kk_) ?_
  show own_G p e below s _ _ _ (T1.setTop (mkF m 7 #[.val (.ref x)] []))
  refine own_go (fun _ kk_ => XS.iconst X1.here hx rfl (hb hby d4_7) kk_) ?_
  show own_G p e below s _ _ _ (T1.setTop (mkF m 8 #[.val (.ref x)] [(.int (0 : Int32))]))
  refine own_go (fun _ kk_ => XS.goto X1.here hx rfl (pc0 := 8) (pc' := 12) rfl (hb hby d4_8) (by decide) (by decide) kk_) ?_
  show own_G p e below s _ _ _ (T1.setTop (mkF m 12 #[.val (.ref x)] [(.int (0 : Int32))]))
  refine own_go (fun _ kk_ => XS.aloadN X1.here hx rfl (hb hby d4_12) rfl rfl kk_) ?_
  show own_G p e below s _ _ _ (T1.setTop (mkF m 13 #[.val (.ref x)] [(.ref x), (.int (0 : Int32))]))
  obtain ⟨T2, X2, e2, st2⟩ := getF X1 hx hZ hown (host := "") (Or.inl (hw _ (List.mem_of_getElem? (i := 16) rfl))) Via.refl e1 F_1 (g := (mkF m 13 #[.val (.ref x)] [(.ref x), (.int (0 : Int32))])) rfl rfl (hb hby d4_13)
  refine own_go st2 ?_
  show own_G p e below s _ _ _ (T2.setTop (mkF m 16 #[.val (.ref x)] [.null, (.int (0 : Int32))]))
  refine own_go (fun _ kk_ => XT.ifnonnullNo X2.here hx rfl (hb hby d4_16) rfl kk_) ?_
  show own_G p e below s _ _ _ (T2.setTop (mkF m 19 #[.val (.ref x)] [(.int (0 : Int32))]))
  refine own_go (fun _ kk_ => XS.iconst X2.here hx rfl (hb hby d4_19) kk_) ?_
  show own_G p e below s _ _ _ (T2.setTop (mkF m 20 #[.val (.ref x)] [(.int (0 : Int32)), (.int (0 : Int32))]))
  refine own_go (fun _ kk_ => XS.goto X2.here hx rfl (pc0 := 20) (pc' := 24) rfl (hb hby d4_20) (by decide) (by decide) kk_) ?_
  show own_G p e below s _ _ _ (T2.setTop (mkF m 24 #[.val (.ref x)] [(.int (0 : Int32)), (.int (0 : Int32))]))
  refine own_go (fun _ kk_ => XS.iadd X2.here hx rfl (hb hby d4_24) rfl kk_) ?_
  show own_G p e below s _ _ _ (T2.setTop (mkF m 25 #[.val (.ref x)] [(.int (0 : Int32))]))
  refine own_go (fun _ kk_ => XS.aloadN X2.here hx rfl (hb hby d4_25) rfl rfl kk_) ?_
  show own_G p e below s _ _ _ (T2.setTop (mkF m 26 #[.val (.ref x)] [(.ref x), (.int (0 : Int32))]))
  obtain ⟨T3, X3, e3, st3⟩ := getF X2 hx hZ hown (host := "") (Or.inl (hw _ (List.mem_of_getElem? (i := 18) rfl))) Via.refl e2 F_2 (g := (mkF m 26 #[.val (.ref x)] [(.ref x), (.int (0 : Int32))])) rfl rfl (hb hby d4_26)
  refine own_go st3 ?_
  show own_G p e below s _ _ _ (T3.setTop (mkF m 29 #[.val (.ref x)] [(.ref s2), (.int (0 : Int32))]))
  refine own_go (fun _ kk_ => XT.ifnonnullYes X3.here hx rfl (pc0 := 29) (pc' := 36) rfl (hb hby d4_29) rfl (by decide) (by decide) kk_) ?_
  show own_G p e below s _ _ _ (T3.setTop (mkF m 36 #[.val (.ref x)] [(.int (0 : Int32))]))
  refine own_go (fun _ kk_ => XS.iconst X3.here hx rfl (hb hby d4_36) kk_) ?_
  show own_G p e below s _ _ _ (T3.setTop (mkF m 37 #[.val (.ref x)] [(.int (4 : Int32)), (.int (0 : Int32))]))
  refine own_go (fun _ kk_ => XS.iadd X3.here hx rfl (hb hby d4_37) rfl kk_) ?_
  show own_G p e below s _ _ _ (T3.setTop (mkF m 38 #[.val (.ref x)] [(.int (4 : Int32))]))
  exact own_retI X3 hx Bd.returns (BodyLoose.notSynchronized Bd) (hb hby d4_38) e3 ⟨rfl, N0, rfl⟩ (by decide) (by decide)
theorem ef_rmI010 (m : MethodId) (x0 : Addr) (x2 : Addr) : entryFrame m #[(.ref x0), .null, (.ref x2), .null] 4 = mkF m 0 #[.val (.ref x0), .val .null, .val (.ref x2), .val .null] [] := by first | (simp [entryFrame, mkF, argsToLocals, Value.category]; done) | rfl
def Q_rmI010 (Z : State) (x : Addr) (s1 : Addr) (h0 : Heap) (n0 : Nat) : Option Value → Heap → List Loc → Prop := fun v h L => v = none ∧ Fr n0 L ∧ Keep h0 h [x] ∧ Exa Z h x "com/example/accordant/accordant/policy/Scope" ∧ Fld Z h x "com/example/accordant/accordant/policy/Scope" "vendor" "Ljava/lang/String;" .null ∧ Fld Z h x "com/example/accordant/accordant/policy/Scope" "item" "Ljava/lang/String;" (.ref s1) ∧ Fld Z h x "com/example/accordant/accordant/policy/Scope" "itemGroup" "Ljava/lang/String;" .null
set_option maxRecDepth 65536 in
set_option maxHeartbeats 40000000 in
theorem rmI010 (l : Launch) (Z : State) (a0 : Array Value) (hw : ∀ d ∈ tables_1, d.before a0 Z = true) (ws : List Jvm.Cond) (x : Addr) (s1 : Addr) (h0 : Heap) (n0 : Nat) (Z0 : n0 ≤ h0.size) (E_x : Exa Z h0 x "com/example/accordant/accordant/policy/Scope") (g_x : n0 ≤ x) (F_0 : Fld Z h0 x "com/example/accordant/accordant/policy/Scope" "vendor" "Ljava/lang/String;" .null) (F_1 : Fld Z h0 x "com/example/accordant/accordant/policy/Scope" "item" "Ljava/lang/String;" .null) (F_2 : Fld Z h0 x "com/example/accordant/accordant/policy/Scope" "itemGroup" "Ljava/lang/String;" .null) :
    MetFree l (⟨"com/example/accordant/accordant/policy/Scope", "<init>", "(Ljava/lang/String;Ljava/lang/String;Ljava/lang/String;)V"⟩ : MethodName) (head1 (Jvm.Cond.code (⟨"com/example/accordant/accordant/policy/Scope", "<init>", "(Ljava/lang/String;Ljava/lang/String;Ljava/lang/String;)V"⟩ : MethodName) prog_47_method_1_code 4 none :: ws) ({ frames := 2, cells := 0, slots := 0, locals := 24 } : Room)) (fun as_ U => as_ = #[(.ref x), .null, (.ref s1), .null] ∧ Z.Warmed39 U.vm ∧ U.heap = h0) (fun _ _ _ _ _ => True) (fun _ U o U' => ∃ v L, o = .returned v ∧ (Q_rmI010 Z x s1 h0 n0) v U'.heap L ∧ FrameEnd U o U' L ({ frames := 2, cells := 0, slots := 0, locals := 24 } : Room).cells ({ frames := 2, cells := 0, slots := 0, locals := 24 } : Room).slots) := by
  refine MetFree.of_bodySF (plainFor_of_name pn_3) hisR ?_
  intro p e s m args below meth c s₁ Bd hml0 hP hK
  obtain ⟨rfl, hZ, hh⟩ := hP
  have hx := Bd.exec
  have hby := Bd.bytes
  have hml : c.maxLocals = 4 := hml0
  have hown : s.vm.findClass "com/example/accordant/accordant/policy/Scope" = some m.cls := findClass_of_methodNamed Bd.named
  have hnm := (name_of_methodNamed Bd.named Bd.method).1
  have X0 : Stand p l e ({ frames := 2, cells := 0, slots := 0, locals := 24 } : Room) s m #[(.ref x), .null, (.ref s1), .null] below meth c s₁ [] 0 0 := Stand.of_body Bd
  have e0 : s₁.heap = h0 := by rw [← hh, Bd.state]; rfl
  have N0 := Fr.nil n0
  show own_G p e below s (Q_rmI010 Z x s1 h0 n0) ({ frames := 2, cells := 0, slots := 0, locals := 24 } : Room).cells ({ frames := 2, cells := 0, slots := 0, locals := 24 } : Room).slots (s₁.setTop (entryFrame m #[(.ref x), .null, (.ref s1), .null] 4))
  rw [ef_rmI010 m x s1]
  have K_0 := Keep.refl h0 [x]
  show own_G p e below s _ _ _ (s₁.setTop (mkF m 0 #[.val (.ref x), .val .null, .val (.ref s1), .val .null] []))
  refine own_go (fun _ kk_ => XS.aloadN X0.here hx rfl (hb hby d1_0) rfl rfl kk_) ?_
  show own_G p e below s _ _ _ (s₁.setTop (mkF m 1 #[.val (.ref x), .val .null, .val (.ref s1), .val .null] [(.ref x)]))
  obtain ⟨_, _, ⟨T1, L1, k1, n1⟩, -, X1, ⟨Lc1, hQ1, l1, y1, z1⟩, st1⟩ := X0.specialBack hx (y := (⟨"java/lang/Record", "<init>", "()V"⟩ : MethodName)) rfl hown (mvT hZ (hw _ (List.mem_of_getElem? (i := 6) rfl))) (mvT hZ (hw _ (List.mem_of_getElem? (i := 7) rfl))) (mvT hZ (hw _ (List.mem_of_getElem? (i := 10) rfl))) (by decide) (backOf (W := 0) (rmRec l Z a0 hw [] x h0 n0 Z0) hZ (hw _ (List.mem_of_getElem? (i := 10) rfl)) (hw _ (List.mem_of_getElem? (i := 9) rfl)) (by decide) (by decide)) (g := (mkF m 1 #[.val (.ref x), .val .null, .val (.ref s1), .val .null] [(.ref x)])) rfl (by rw [hml]; rfl) (Steps.refl _) (a := x) (argsL := []) (rest := []) (lenOf pd_2 rfl) rfl (by show 2 * 0 + _ ≤ _; exact Nat.le_of_eq rfl) (hb hby d1_1) (fun _ _ => ⟨rfl, e0, (by decide : 0 + 0 ≤ _), (by decide : 0 + 0 ≤ _)⟩)
  dsimp only [Pt.U, Pt.locs, Pt.cells, Pt.slots] at X1 l1 y1 z1 st1 hQ1
  subst l1 y1 z1
  obtain ⟨rfl, N1q, e1⟩ := hQ1
  have N1 := Fr.app N0 N1q
  refine own_go (fun _ kk_ => st1.trans kk_) ?_
  show own_G p e below s _ _ _ (T1.setTop (mkF m 4 #[.val (.ref x), .val .null, .val (.ref s1), .val .null] []))
  refine own_go (fun _ kk_ => XS.aloadN X1.here hx rfl (hb hby d1_4) rfl rfl kk_) ?_
  show own_G p e below s _ _ _ (T1.setTop (mkF m 5 #[.val (.ref x), .val .null, .val (.ref s1), .val .null] [(.ref x)]))
  refine own_go (fun _ kk_ => XS.aloadN X1.here hx rfl (hb hby d1_5) rfl rfl kk_) ?_
  show own_G p e below s _ _ _ (T1.setTop (mkF m 6 #[.val (.ref x), .val .null, .val (.ref s1), .val .null] [.null, (.ref x)]))
  obtain ⟨T2, h2, X2, e2, W2, st2⟩ := putF X1 hx hZ hown (host := "") (Or.inl (hw _ (List.mem_of_getElem? (i := 14) rfl))) Via.refl e1 F_0 E_x (Or.inr ⟨(hw _ (List.mem_of_getElem? (i := 15) rfl)), rfl, hnm⟩) (hw _ (List.mem_of_getElem? (i := 1) rfl)) (ty := (.object "java/lang/String")) (by decide) rfl rfl (g := (mkF m 6 #[.val (.ref x), .val .null, .val (.ref s1), .val .null] [.null, (.ref x)])) rfl rfl (hb hby d1_6)
  refine own_go st2 ?_
  have E2_x := E_x.wr W2
  have K2_ := K_0.wr W2 (Or.inl (List.mem_singleton.mpr rfl))
  have F2_x_vendor := F_0.same W2
  have F2_x_item := F_1.other W2 (Or.inr (slot_ne (Or.inr (hw _ (List.mem_of_getElem? (i := 17) rfl))) (Or.inr (hw _ (List.mem_of_getElem? (i := 15) rfl))) (by decide) (t := (.object "java/lang/String")) (t' := (.object "java/lang/String")) (by decide) (by decide)))
  have F2_x_itemGroup := F_2.other W2 (Or.inr (slot_ne (Or.inr (hw _ (List.mem_of_getElem? (i := 19) rfl))) (Or.inr (hw _ (List.mem_of_getElem? (i := 15) rfl))) (by decide) (t := (.object "java/lang/String")) (t' := (.object "java/lang/String")) (by decide) (by decide)))
  have Z2 : n0 ≤ h2.size := by rw [W2.size]; exact Z0
  have N2 := Fr.snoc X2 N1 g_x
  show own_G p e below s _ _ _ (T2.setTop (mkF m 9 #[.val (.ref x), .val .null, .val (.ref s1), .val .null] []))
  refine own_go (fun _ kk_ => XS.aloadN X2.here hx rfl (hb hby d1_9) rfl rfl kk_) ?_
  show own_G p e below s _ _ _ (T2.setTop (mkF m 10 #[.val (.ref x), .val .null, .val (.ref s1), .val .null] [(.ref x)]))
  refine own_go (fun _ kk_ => XS.aloadN X2.here hx rfl (hb hby d1_10) rfl rfl kk_) ?_
  show own_G p e below s _ _ _ (T2.setTop (mkF m 11 #[.val (.ref x), .val .null, .val (.ref s1), .val .null] [(.ref s1), (.ref x)]))
  obtain ⟨T3, h3, X3, e3, W3, st3⟩ := putF X2 hx hZ hown (host := "") (Or.inl (hw _ (List.mem_of_getElem? (i := 16) rfl))) Via.refl e2 F2_x_item E2_x (Or.inr ⟨(hw _ (List.mem_of_getElem? (i := 17) rfl)), rfl, hnm⟩) (hw _ (List.mem_of_getElem? (i := 1) rfl)) (ty := (.object "java/lang/String")) (by decide) rfl rfl (g := (mkF m 11 #[.val (.ref x), .val .null, .val (.ref s1), .val .null] [(.ref s1), (.ref x)])) rfl rfl (hb hby d1_11)
  refine own_go st3 ?_
  have E3_x := E2_x.wr W3
  have K3_ := K2_.wr W3 (Or.inl (List.mem_singleton.mpr rfl))
  have F3_x_vendor := F2_x_vendor.other W3 (Or.inr (slot_ne (Or.inr (hw _ (List.mem_of_getElem? (i := 15) rfl))) (Or.inr (hw _ (List.mem_of_getElem? (i := 17) rfl))) (by decide) (t := (.object "java/lang/String")) (t' := (.object "java/lang/String")) (by decide) (by decide)))
  have F3_x_item := F2_x_item.same W3
  have F3_x_itemGroup := F2_x_itemGroup.other W3 (Or.inr (slot_ne (Or.inr (hw _ (List.mem_of_getElem? (i := 19) rfl))) (Or.inr (hw _ (List.mem_of_getElem? (i := 17) rfl))) (by decide) (t := (.object "java/lang/String")) (t' := (.object "java/lang/String")) (by decide) (by decide)))
  have Z3 : n0 ≤ h3.size := by rw [W3.size]; exact Z2
  have N3 := Fr.snoc X3 N2 g_x
  show own_G p e below s _ _ _ (T3.setTop (mkF m 14 #[.val (.ref x), .val .null, .val (.ref s1), .val .null] []))
  refine own_go (fun _ kk_ => XS.aloadN X3.here hx rfl (hb hby d1_14) rfl rfl kk_) ?_
  show own_G p e below s _ _ _ (T3.setTop (mkF m 15 #[.val (.ref x), .val .null, .val (.ref s1), .val .null] [(.ref x)]))
  refine own_go (fun _ kk_ => XS.aloadN X3.here hx rfl (hb hby d1_15) rfl rfl kk_) ?_
  show own_G p e below s _ _ _ (T3.setTop (mkF m 16 #[.val (.ref x), .val .null, .val (.ref s1), .val .null] [.null, (.ref x)]))
  obtain ⟨T4, h4, X4, e4, W4, st4⟩ := putF X3 hx hZ hown (host := "") (Or.inl (hw _ (List.mem_of_getElem? (i := 18) rfl))) Via.refl e3 F3_x_itemGroup E3_x (Or.inr ⟨(hw _ (List.mem_of_getElem? (i := 19) rfl)), rfl, hnm⟩) (hw _ (List.mem_of_getElem? (i := 1) rfl)) (ty := (.object "java/lang/String")) (by decide) rfl rfl (g := (mkF m 16 #[.val (.ref x), .val .null, .val (.ref s1), .val .null] [.null, (.ref x)])) rfl rfl (hb hby d1_16)
  refine own_go st4 ?_
  have E4_x := E3_x.wr W4
  have K4_ := K3_.wr W4 (Or.inl (List.mem_singleton.mpr rfl))
  have F4_x_vendor := F3_x_vendor.other W4 (Or.inr (slot_ne (Or.inr (hw _ (List.mem_of_getElem? (i := 15) rfl))) (Or.inr (hw _ (List.mem_of_getElem? (i := 19) rfl))) (by decide) (t := (.object "java/lang/String")) (t' := (.object "java/lang/String")) (by decide) (by decide)))
  have F4_x_item := F3_x_item.other W4 (Or.inr (slot_ne (Or.inr (hw _ (List.mem_of_getElem? (i := 17) rfl))) (Or.inr (hw _ (List.mem_of_getElem? (i := 19) rfl))) (by decide) (t := (.object "java/lang/String")) (t' := (.object "java/lang/String")) (by decide) (by decide)))
  have F4_x_itemGroup := F3_x_itemGroup.same W4
  have Z4 : n0 ≤ h4.size := by rw [W4.size]; exact Z3
  have N4 := Fr.snoc X4 N3 g_x
  show own_G p e below s _ _ _ (T4.setTop (mkF m 19 #[.val (.ref x), .val .null, .val (.ref s1), .val .null] []))
  exact own_ret0 X4 hx Bd.returns (BodyLoose.notSynchronized Bd) (hb hby d1_19) e4 ⟨rfl, N4, K4_, E4_x, F4_x_vendor, F4_x_item, F4_x_itemGroup⟩ (by decide) (by decide)
theorem d4_23 : decode prog_47_method_2_code 23 = .ok (.iconst 2, 1) := by decide +kernel
theorem ef_rmP010 (m : MethodId) (x0 : Addr) : entryFrame m #[(.ref x0)] 1 = mkF m 0 #[.val (.ref x0)] [] := by first | (simp [entryFrame, mkF, argsToLocals, Value.category]; done) | rfl
def Q_rmP010 (Z : State) (x : Addr) (s1 : Addr) (h0 : Heap) (n0 : Nat) : Option Value → Heap → List Loc → Prop := fun v h L => v = some (.int 2) ∧ Fr n0 L ∧ h = h0
set_option maxRecDepth 65536 in
set_option maxHeartbeats 40000000 in
theorem rmP010 (l : Launch) (Z : State) (a0 : Array Value) (hw : ∀ d ∈ tables_1, d.before a0 Z = true) (ws : List Jvm.Cond) (x : Addr) (s1 : Addr) (h0 : Heap) (n0 : Nat) (Z0 : n0 ≤ h0.size) (F_0 : Fld Z h0 x "com/example/accordant/accordant/policy/Scope" "vendor" "Ljava/lang/String;" .null) (F_1 : Fld Z h0 x "com/example/accordant/accordant/policy/Scope" "item" "Ljava/lang/String;" (.ref s1)) (F_2 : Fld Z h0 x "com/example/accordant/accordant/policy/Scope" "itemGroup" "Ljava/lang/String;" .null) :
    MetFree l (⟨"com/example/accordant/accordant/policy/Scope", "shape", "()I"⟩ : MethodName) (head1 (Jvm.Cond.code (⟨"com/example/accordant/accordant/policy/Scope", "shape", "()I"⟩ : MethodName) prog_47_method_2_code 1 (some .int) :: ws) ({ frames := 0, cells := 0, slots := 0, locals := 0 } : Room)) (fun as_ U => as_ = #[(.ref x)] ∧ Z.Warmed39 U.vm ∧ U.heap = h0) (fun _ _ _ _ _ => True) (fun _ U o U' => ∃ v L, o = .returned v ∧ (Q_rmP010 Z x s1 h0 n0) v U'.heap L ∧ FrameEnd U o U' L ({ frames := 0, cells := 0, slots := 0, locals := 0 } : Room).cells ({ frames := 0, cells := 0, slots := 0, locals := 0 } : Room).slots) := by
  refine MetFree.of_bodySF (plainFor_of_name pn_3) hisR ?_
  intro p e s m args below meth c s₁ Bd hml0 hP hK
  obtain ⟨rfl, hZ, hh⟩ := hP
  have hx := Bd.exec
  have hby := Bd.bytes
  have hml : c.maxLocals = 1 := hml0
  have hown : s.vm.findClass "com/example/accordant/accordant/policy/Scope" = some m.cls := findClass_of_methodNamed Bd.named
  have hnm := (name_of_methodNamed Bd.named Bd.method).1
  have X0 : Stand p l e ({ frames := 0, cells := 0, slots := 0, locals := 0 } : Room) s m #[(.ref x)] below meth c s₁ [] 0 0 := Stand.of_body Bd
  have e0 : s₁.heap = h0 := by rw [← hh, Bd.state]; rfl
  have N0 := Fr.nil n0
  show own_G p e below s (Q_rmP010 Z x s1 h0 n0) ({ frames := 0, cells := 0, slots := 0, locals := 0 } : Room).cells ({ frames := 0, cells := 0, slots := 0, locals := 0 } : Room).slots (s₁.setTop (entryFrame m #[(.ref x)] 1))
  rw [ef_rmP010 m x]
  show own_G p e below s _ _ _ (s₁.setTop (mkF m 0 #[.val (.ref x)] []))
  refine own_go (fun _ kk_ => XS.aloadN X0.here hx rfl (hb hby d4_0) rfl rfl kk_) ?_
  show own_G p e below s _ _ _ (s₁.setTop (mkF m 1 #[.val (.ref x)] [(.ref x)]))
  obtain ⟨T1, X1, e1, st1⟩ := getF X0 hx hZ hown (host := "") (Or.inl (hw _ (List.mem_of_getElem? (i := 14) rfl))) Via.refl e0 F_0 (g := (mkF m 1 #[.val (.ref x)] [(.ref x)])) rfl rfl (hb hby d4_1)
  refine own_go st1 ?_
  show own_G p e below s _ _ _ (T1.setTop (mkF m 4 #[.val (.ref x)] [.null]))
  refine own_go (fun _ kk_ => XT.ifnonnullNo X1.here hx rfl (hb hby d4_4) rfl kk_) ?_
  show own_G p e below s _ _ _ (T1.setTop (mkF m 7 #[.val (.ref x)] []))
  refine own_go (fun _ kk_ => XS.iconst X1.here hx rfl (hb hby d4_7) kk_) ?_
  show own_G p e below s _ _ _ (T1.setTop (mkF m 8 #[.val (.ref x)] [(.int (0 : Int32))]))
  refine own_go (fun _ kk_ => XS.goto X1.here hx rfl (pc0 := 8) (pc' := 12) rfl (hb hby d4_8) (by decide) (by decide) kk_) ?_
  show own_G p e below s _ _ _ (T1.setTop (mkF m 12 #[.val (.ref x)] [(.int (0 : Int32))]))
  refine own_go (fun _ kk_ => XS.aloadN X1.here hx rfl (hb hby d4_12) rfl rfl kk_) ?_
  show own_G p e below s _ _ _ (T1.setTop (mkF m 13 #[.val (.ref x)] [(.ref x), (.int (0 : Int32))]))
  obtain ⟨T2, X2, e2, st2⟩ := getF X1 hx hZ hown (host := "") (Or.inl (hw _ (List.mem_of_getElem? (i := 16) rfl))) Via.refl e1 F_1 (g := (mkF m 13 #[.val (.ref x)] [(.ref x), (.int (0 : Int32))])) rfl rfl (hb hby d4_13)
  refine own_go st2 ?_
  show own_G p e below s _ _ _ (T2.setTop (mkF m 16 #[.val (.ref x)] [(.ref s1), (.int (0 : Int32))]))
  refine own_go (fun _ kk_ => XT.ifnonnullYes X2.here hx rfl (pc0 := 16) (pc' := 23) rfl (hb hby d4_16) rfl (by decide) (by decide) kk_) ?_
  show own_G p e below s _ _ _ (T2.setTop (mkF m 23 #[.val (.ref x)] [(.int (0 : Int32))]))
  refine own_go (fun _ kk_ => XS.iconst X2.here hx rfl (hb hby d4_23) kk_) ?_
  show own_G p e below s _ _ _ (T2.setTop (mkF m 24 #[.val (.ref x)] [(.int (2 : Int32)), (.int (0 : Int32))]))
  refine own_go (fun _ kk_ => XS.iadd X2.here hx rfl (hb hby d4_24) rfl kk_) ?_
  show own_G p e below s _ _ _ (T2.setTop (mkF m 25 #[.val (.ref x)] [(.int (2 : Int32))]))
  refine own_go (fun _ kk_ => XS.aloadN X2.here hx rfl (hb hby d4_25) rfl rfl kk_) ?_
  show own_G p e below s _ _ _ (T2.setTop (mkF m 26 #[.val (.ref x)] [(.ref x), (.int (2 : Int32))]))
  obtain ⟨T3, X3, e3, st3⟩ := getF X2 hx hZ hown (host := "") (Or.inl (hw _ (List.mem_of_getElem? (i := 18) rfl))) Via.refl e2 F_2 (g := (mkF m 26 #[.val (.ref x)] [(.ref x), (.int (2 : Int32))])) rfl rfl (hb hby d4_26)
  refine own_go st3 ?_
  show own_G p e below s _ _ _ (T3.setTop (mkF m 29 #[.val (.ref x)] [.null, (.int (2 : Int32))]))
  refine own_go (fun _ kk_ => XT.ifnonnullNo X3.here hx rfl (hb hby d4_29) rfl kk_) ?_
  show own_G p e below s _ _ _ (T3.setTop (mkF m 32 #[.val (.ref x)] [(.int (2 : Int32))]))
  refine own_go (fun _ kk_ => XS.iconst X3.here hx rfl (hb hby d4_32) kk_) ?_
  show own_G p e below s _ _ _ (T3.setTop (mkF m 33 #[.val (.ref x)] [(.int (0 : Int32)), (.int (2 : Int32))]))
  refine own_go (fun _ kk_ => XS.goto X3.here hx rfl (pc0 := 33) (pc' := 37) rfl (hb hby d4_33) (by decide) (by decide) kk_) ?_
  show own_G p e below s _ _ _ (T3.setTop (mkF m 37 #[.val (.ref x)] [(.int (0 : Int32)), (.int (2 : Int32))]))
  refine own_go (fun _ kk_ => XS.iadd X3.here hx rfl (hb hby d4_37) rfl kk_) ?_
  show own_G p e below s _ _ _ (T3.setTop (mkF m 38 #[.val (.ref x)] [(.int (2 : Int32))]))
  exact own_retI X3 hx Bd.returns (BodyLoose.notSynchronized Bd) (hb hby d4_38) e3 ⟨rfl, N0, rfl⟩ (by decide) (by decide)
theorem ef_rmI011 (m : MethodId) (x0 : Addr) (x2 : Addr) (x3 : Addr) : entryFrame m #[(.ref x0), .null, (.ref x2), (.ref x3)] 4 = mkF m 0 #[.val (.ref x0), .val .null, .val (.ref x2), .val (.ref x3)] [] := by first | (simp [entryFrame, mkF, argsToLocals, Value.category]; done) | rfl
def Q_rmI011 (Z : State) (x : Addr) (s1 s2 : Addr) (h0 : Heap) (n0 : Nat) : Option Value → Heap → List Loc → Prop := fun v h L => v = none ∧ Fr n0 L ∧ Keep h0 h [x] ∧ Exa Z h x "com/example/accordant/accordant/policy/Scope" ∧ Fld Z h x "com/example/accordant/accordant/policy/Scope" "vendor" "Ljava/lang/String;" .null ∧ Fld Z h x "com/example/accordant/accordant/policy/Scope" "item" "Ljava/lang/String;" (.ref s1) ∧ Fld Z h x "com/example/accordant/accordant/policy/Scope" "itemGroup" "Ljava/lang/String;" (.ref s2)
set_option maxRecDepth 65536 in
set_option maxHeartbeats 40000000 in
theorem rmI011 (l : Launch) (Z : State) (a0 : Array Value) (hw : ∀ d ∈ tables_1, d.before a0 Z = true) (ws : List Jvm.Cond) (x : Addr) (s1 s2 : Addr) (h0 : Heap) (n0 : Nat) (Z0 : n0 ≤ h0.size) (E_x : Exa Z h0 x "com/example/accordant/accordant/policy/Scope") (g_x : n0 ≤ x) (F_0 : Fld Z h0 x "com/example/accordant/accordant/policy/Scope" "vendor" "Ljava/lang/String;" .null) (F_1 : Fld Z h0 x "com/example/accordant/accordant/policy/Scope" "item" "Ljava/lang/String;" .null) (F_2 : Fld Z h0 x "com/example/accordant/accordant/policy/Scope" "itemGroup" "Ljava/lang/String;" .null) :
    MetFree l (⟨"com/example/accordant/accordant/policy/Scope", "<init>", "(Ljava/lang/String;Ljava/lang/String;Ljava/lang/String;)V"⟩ : MethodName) (head1 (Jvm.Cond.code (⟨"com/example/accordant/accordant/policy/Scope", "<init>", "(Ljava/lang/String;Ljava/lang/String;Ljava/lang/String;)V"⟩ : MethodName) prog_47_method_1_code 4 none :: ws) ({ frames := 2, cells := 0, slots := 0, locals := 24 } : Room)) (fun as_ U => as_ = #[(.ref x), .null, (.ref s1), (.ref s2)] ∧ Z.Warmed39 U.vm ∧ U.heap = h0) (fun _ _ _ _ _ => True) (fun _ U o U' => ∃ v L, o = .returned v ∧ (Q_rmI011 Z x s1 s2 h0 n0) v U'.heap L ∧ FrameEnd U o U' L ({ frames := 2, cells := 0, slots := 0, locals := 24 } : Room).cells ({ frames := 2, cells := 0, slots := 0, locals := 24 } : Room).slots) := by
  refine MetFree.of_bodySF (plainFor_of_name pn_3) hisR ?_
  intro p e s m args below meth c s₁ Bd hml0 hP hK
  obtain ⟨rfl, hZ, hh⟩ := hP
  have hx := Bd.exec
  have hby := Bd.bytes
  have hml : c.maxLocals = 4 := hml0
  have hown : s.vm.findClass "com/example/accordant/accordant/policy/Scope" = some m.cls := findClass_of_methodNamed Bd.named
  have hnm := (name_of_methodNamed Bd.named Bd.method).1
  have X0 : Stand p l e ({ frames := 2, cells := 0, slots := 0, locals := 24 } : Room) s m #[(.ref x), .null, (.ref s1), (.ref s2)] below meth c s₁ [] 0 0 := Stand.of_body Bd
  have e0 : s₁.heap = h0 := by rw [← hh, Bd.state]; rfl
  have N0 := Fr.nil n0
  show own_G p e below s (Q_rmI011 Z x s1 s2 h0 n0) ({ frames := 2, cells := 0, slots := 0, locals := 24 } : Room).cells ({ frames := 2, cells := 0, slots := 0, locals := 24 } : Room).slots (s₁.setTop (entryFrame m #[(.ref x), .null, (.ref s1), (.ref s2)] 4))
  rw [ef_rmI011 m x s1 s2]
  have K_0 := Keep.refl h0 [x]
  show own_G p e below s _ _ _ (s₁.setTop (mkF m 0 #[.val (.ref x), .val .null, .val (.ref s1), .val (.ref s2)] []))
  refine own_go (fun _ kk_ => XS.aloadN X0.here hx rfl (hb hby d1_0) rfl rfl kk_) ?_
  show own_G p e below s _ _ _ (s₁.setTop (mkF m 1 #[.val (.ref x), .val .null, .val (.ref s1), .val (.ref s2)] [(.ref x)]))
  obtain ⟨_, _, ⟨T1, L1, k1, n1⟩, -, X1, ⟨Lc1, hQ1, l1, y1, z1⟩, st1⟩ := X0.specialBack hx (y := (⟨"java/lang/Record", "<init>", "()V"⟩ : MethodName)) rfl hown (mvT hZ (hw _ (List.mem_of_getElem? (i := 6) rfl))) (mvT hZ (hw _ (List.mem_of_getElem? (i := 7) rfl))) (mvT hZ (hw _ (List.mem_of_getElem? (i := 10) rfl))) (by decide) (backOf (W := 0) (rmRec l Z a0 hw [] x h0 n0 Z0) hZ (hw _ (List.mem_of_getElem? (i := 10) rfl)) (hw _ (List.mem_of_getElem? (i := 9) rfl)) (by decide) (by decide)) (g := (mkF m 1 #[.val (.ref x), .val .null, .val (.ref s1), .val (.ref s2)] [(.ref x)])) rfl (by rw [hml]; rfl) (Steps.refl _) (a := x) (argsL := []) (rest := []) (lenOf pd_2 rfl) rfl (by show 2 * 0 + _ ≤ _; exact Nat.le_of_eq rfl) (hb hby d1_1) (fun _ _ => ⟨rfl, e0, (by decide : 0 + 0 ≤ _), (by decide : 0 + 0 ≤ _)⟩)
  dsimp only [Pt.U, Pt.locs, Pt.cells, Pt.slots] at X1 l1 y1 z1 st1 hQ1
  subst l1 y1 z1
  obtain ⟨rfl, N1q, e1⟩ := hQ1
  have N1 := Fr.app N0 N1q
  refine own_go (fun _ kk_ => st1.trans kk_) ?_
  show own_G p e below s _ _ _ (T1.setTop (mkF m 4 #[.val (.ref x), .val .null, .val (.ref s1), .val (.ref s2)] []))
  refine own_go (fun _ kk_ => XS.aloadN X1.here hx rfl (hb hby d1_4) rfl rfl kk_) ?_
  show own_G p e below s _ _ _ (T1.setTop (mkF m 5 #[.val (.ref x), .val .null, .val (.ref s1), .val (.ref s2)] [(.ref x)]))
  refine own_go (fun _ kk_ => XS.aloadN X1.here hx rfl (hb hby d1_5) rfl rfl kk_) ?_
  show own_G p e below s _ _ _ (T1.setTop (mkF m 6 #[.val (.ref x), .val .null, .val (.ref s1), .val (.ref s2)] [.null, (.ref x)]))
  obtain ⟨T2, h2, X2, e2, W2, st2⟩ := putF X1 hx hZ hown (host := "") (Or.inl (hw _ (List.mem_of_getElem? (i := 14) rfl))) Via.refl e1 F_0 E_x (Or.inr ⟨(hw _ (List.mem_of_getElem? (i := 15) rfl)), rfl, hnm⟩) (hw _ (List.mem_of_getElem? (i := 1) rfl)) (ty := (.object "java/lang/String")) (by decide) rfl rfl (g := (mkF m 6 #[.val (.ref x), .val .null, .val (.ref s1), .val (.ref s2)] [.null, (.ref x)])) rfl rfl (hb hby d1_6)
  refine own_go st2 ?_
  have E2_x := E_x.wr W2
  have K2_ := K_0.wr W2 (Or.inl (List.mem_singleton.mpr rfl))
  have F2_x_vendor := F_0.same W2
  have F2_x_item := F_1.other W2 (Or.inr (slot_ne (Or.inr (hw _ (List.mem_of_getElem? (i := 17) rfl))) (Or.inr (hw _ (List.mem_of_getElem? (i := 15) rfl))) (by decide) (t := (.object "java/lang/String")) (t' := (.object "java/lang/String")) (by decide) (by decide)))
  have F2_x_itemGroup := F_2.other W2 (Or.inr (slot_ne (Or.inr (hw _ (List.mem_of_getElem? (i := 19) rfl))) (Or.inr (hw _ (List.mem_of_getElem? (i := 15) rfl))) (by decide) (t := (.object "java/lang/String")) (t' := (.object "java/lang/String")) (by decide) (by decide)))
  have Z2 : n0 ≤ h2.size := by rw [W2.size]; exact Z0
  have N2 := Fr.snoc X2 N1 g_x
  show own_G p e below s _ _ _ (T2.setTop (mkF m 9 #[.val (.ref x), .val .null, .val (.ref s1), .val (.ref s2)] []))
  refine own_go (fun _ kk_ => XS.aloadN X2.here hx rfl (hb hby d1_9) rfl rfl kk_) ?_
  show own_G p e below s _ _ _ (T2.setTop (mkF m 10 #[.val (.ref x), .val .null, .val (.ref s1), .val (.ref s2)] [(.ref x)]))
  refine own_go (fun _ kk_ => XS.aloadN X2.here hx rfl (hb hby d1_10) rfl rfl kk_) ?_
  show own_G p e below s _ _ _ (T2.setTop (mkF m 11 #[.val (.ref x), .val .null, .val (.ref s1), .val (.ref s2)] [(.ref s1), (.ref x)]))
  obtain ⟨T3, h3, X3, e3, W3, st3⟩ := putF X2 hx hZ hown (host := "") (Or.inl (hw _ (List.mem_of_getElem? (i := 16) rfl))) Via.refl e2 F2_x_item E2_x (Or.inr ⟨(hw _ (List.mem_of_getElem? (i := 17) rfl)), rfl, hnm⟩) (hw _ (List.mem_of_getElem? (i := 1) rfl)) (ty := (.object "java/lang/String")) (by decide) rfl rfl (g := (mkF m 11 #[.val (.ref x), .val .null, .val (.ref s1), .val (.ref s2)] [(.ref s1), (.ref x)])) rfl rfl (hb hby d1_11)
  refine own_go st3 ?_
  have E3_x := E2_x.wr W3
  have K3_ := K2_.wr W3 (Or.inl (List.mem_singleton.mpr rfl))
  have F3_x_vendor := F2_x_vendor.other W3 (Or.inr (slot_ne (Or.inr (hw _ (List.mem_of_getElem? (i := 15) rfl))) (Or.inr (hw _ (List.mem_of_getElem? (i := 17) rfl))) (by decide) (t := (.object "java/lang/String")) (t' := (.object "java/lang/String")) (by decide) (by decide)))
  have F3_x_item := F2_x_item.same W3
  have F3_x_itemGroup := F2_x_itemGroup.other W3 (Or.inr (slot_ne (Or.inr (hw _ (List.mem_of_getElem? (i := 19) rfl))) (Or.inr (hw _ (List.mem_of_getElem? (i := 17) rfl))) (by decide) (t := (.object "java/lang/String")) (t' := (.object "java/lang/String")) (by decide) (by decide)))
  have Z3 : n0 ≤ h3.size := by rw [W3.size]; exact Z2
  have N3 := Fr.snoc X3 N2 g_x
  show own_G p e below s _ _ _ (T3.setTop (mkF m 14 #[.val (.ref x), .val .null, .val (.ref s1), .val (.ref s2)] []))
  refine own_go (fun _ kk_ => XS.aloadN X3.here hx rfl (hb hby d1_14) rfl rfl kk_) ?_
  show own_G p e below s _ _ _ (T3.setTop (mkF m 15 #[.val (.ref x), .val .null, .val (.ref s1), .val (.ref s2)] [(.ref x)]))
  refine own_go (fun _ kk_ => XS.aloadN X3.here hx rfl (hb hby d1_15) rfl rfl kk_) ?_
  show own_G p e below s _ _ _ (T3.setTop (mkF m 16 #[.val (.ref x), .val .null, .val (.ref s1), .val (.ref s2)] [(.ref s2), (.ref x)]))
  obtain ⟨T4, h4, X4, e4, W4, st4⟩ := putF X3 hx hZ hown (host := "") (Or.inl (hw _ (List.mem_of_getElem? (i := 18) rfl))) Via.refl e3 F3_x_itemGroup E3_x (Or.inr ⟨(hw _ (List.mem_of_getElem? (i := 19) rfl)), rfl, hnm⟩) (hw _ (List.mem_of_getElem? (i := 1) rfl)) (ty := (.object "java/lang/String")) (by decide) rfl rfl (g := (mkF m 16 #[.val (.ref x), .val .null, .val (.ref s1), .val (.ref s2)] [(.ref s2), (.ref x)])) rfl rfl (hb hby d1_16)
  refine own_go st4 ?_
  have E4_x := E3_x.wr W4
  have K4_ := K3_.wr W4 (Or.inl (List.mem_singleton.mpr rfl))
  have F4_x_vendor := F3_x_vendor.other W4 (Or.inr (slot_ne (Or.inr (hw _ (List.mem_of_getElem? (i := 15) rfl))) (Or.inr (hw _ (List.mem_of_getElem? (i := 19) rfl))) (by decide) (t := (.object "java/lang/String")) (t' := (.object "java/lang/String")) (by decide) (by decide)))
  have F4_x_item := F3_x_item.other W4 (Or.inr (slot_ne (Or.inr (hw _ (List.mem_of_getElem? (i := 17) rfl))) (Or.inr (hw _ (List.mem_of_getElem? (i := 19) rfl))) (by decide) (t := (.object "java/lang/String")) (t' := (.object "java/lang/String")) (by decide) (by decide)))
  have F4_x_itemGroup := F3_x_itemGroup.same W4
  have Z4 : n0 ≤ h4.size := by rw [W4.size]; exact Z3
  have N4 := Fr.snoc X4 N3 g_x
  show own_G p e below s _ _ _ (T4.setTop (mkF m 19 #[.val (.ref x), .val .null, .val (.ref s1), .val (.ref s2)] []))
  exact own_ret0 X4 hx Bd.returns (BodyLoose.notSynchronized Bd) (hb hby d1_19) e4 ⟨rfl, N4, K4_, E4_x, F4_x_vendor, F4_x_item, F4_x_itemGroup⟩ (by decide) (by decide)
theorem ef_rmP011 (m : MethodId) (x0 : Addr) : entryFrame m #[(.ref x0)] 1 = mkF m 0 #[.val (.ref x0)] [] := by first | (simp [entryFrame, mkF, argsToLocals, Value.category]; done) | rfl
def Q_rmP011 (Z : State) (x : Addr) (s1 s2 : Addr) (h0 : Heap) (n0 : Nat) : Option Value → Heap → List Loc → Prop := fun v h L => v = some (.int 6) ∧ Fr n0 L ∧ h = h0
set_option maxRecDepth 65536 in
set_option maxHeartbeats 40000000 in
theorem rmP011 (l : Launch) (Z : State) (a0 : Array Value) (hw : ∀ d ∈ tables_1, d.before a0 Z = true) (ws : List Jvm.Cond) (x : Addr) (s1 s2 : Addr) (h0 : Heap) (n0 : Nat) (Z0 : n0 ≤ h0.size) (F_0 : Fld Z h0 x "com/example/accordant/accordant/policy/Scope" "vendor" "Ljava/lang/String;" .null) (F_1 : Fld Z h0 x "com/example/accordant/accordant/policy/Scope" "item" "Ljava/lang/String;" (.ref s1)) (F_2 : Fld Z h0 x "com/example/accordant/accordant/policy/Scope" "itemGroup" "Ljava/lang/String;" (.ref s2)) :
    MetFree l (⟨"com/example/accordant/accordant/policy/Scope", "shape", "()I"⟩ : MethodName) (head1 (Jvm.Cond.code (⟨"com/example/accordant/accordant/policy/Scope", "shape", "()I"⟩ : MethodName) prog_47_method_2_code 1 (some .int) :: ws) ({ frames := 0, cells := 0, slots := 0, locals := 0 } : Room)) (fun as_ U => as_ = #[(.ref x)] ∧ Z.Warmed39 U.vm ∧ U.heap = h0) (fun _ _ _ _ _ => True) (fun _ U o U' => ∃ v L, o = .returned v ∧ (Q_rmP011 Z x s1 s2 h0 n0) v U'.heap L ∧ FrameEnd U o U' L ({ frames := 0, cells := 0, slots := 0, locals := 0 } : Room).cells ({ frames := 0, cells := 0, slots := 0, locals := 0 } : Room).slots) := by
  refine MetFree.of_bodySF (plainFor_of_name pn_3) hisR ?_
  intro p e s m args below meth c s₁ Bd hml0 hP hK
  obtain ⟨rfl, hZ, hh⟩ := hP
  have hx := Bd.exec
  have hby := Bd.bytes
  have hml : c.maxLocals = 1 := hml0
  have hown : s.vm.findClass "com/example/accordant/accordant/policy/Scope" = some m.cls := findClass_of_methodNamed Bd.named
  have hnm := (name_of_methodNamed Bd.named Bd.method).1
  have X0 : Stand p l e ({ frames := 0, cells := 0, slots := 0, locals := 0 } : Room) s m #[(.ref x)] below meth c s₁ [] 0 0 := Stand.of_body Bd
  have e0 : s₁.heap = h0 := by rw [← hh, Bd.state]; rfl
  have N0 := Fr.nil n0
  show own_G p e below s (Q_rmP011 Z x s1 s2 h0 n0) ({ frames := 0, cells := 0, slots := 0, locals := 0 } : Room).cells ({ frames := 0, cells := 0, slots := 0, locals := 0 } : Room).slots (s₁.setTop (entryFrame m #[(.ref x)] 1))
  rw [ef_rmP011 m x]
  show own_G p e below s _ _ _ (s₁.setTop (mkF m 0 #[.val (.ref x)] []))
  refine own_go (fun _ kk_ => XS.aloadN X0.here hx rfl (hb hby d4_0) rfl rfl kk_) ?_
  show own_G p e below s _ _ _ (s₁.setTop (mkF m 1 #[.val (.ref x)] [(.ref x)]))
  obtain ⟨T1, X1, e1, st1⟩ := getF X0 hx hZ hown (host := "") (Or.inl (hw _ (List.mem_of_getElem? (i := 14) rfl))) Via.refl e0 F_0 (g := (mkF m 1 #[.val (.ref x)] [(.ref x)])) rfl rfl (hb hby d4_1)
  refine own_go st1 ?_
  show own_G p e below s _ _ _ (T1.setTop (mkF m 4 #[.val (.ref x)] [.null]))
  refine own_go (fun _ kk_ => XT.ifnonnullNo X1.here hx rfl (hb hby d4_4) rfl kk_) ?_
  show own_G p e below s _ _ _ (T1.setTop (mkF m 7 #[.val (.ref x)] []))
  refine own_go (fun _ kk_ => XS.iconst X1.here hx rfl (hb hby d4_7) kk_) ?_
  show own_G p e below s _ _ _ (T1.setTop (mkF m 8 #[.val (.ref x)] [(.int (0 : Int32))]))
  refine own_go (fun _ kk_ => XS.goto X1.here hx rfl (pc0 := 8) (pc' := 12) rfl (hb hby d4_8) (by decide) (by decide) kk_) ?_
  show own_G p e below s _ _ _ (T1.setTop (mkF m 12 #[.val (.ref x)] [(.int (0 : Int32))]))
  refine own_go (fun _ kk_ => XS.aloadN X1.here hx rfl (hb hby d4_12) rfl rfl kk_) ?_
  show own_G p e below s _ _ _ (T1.setTop (mkF m 13 #[.val (.ref x)] [(.ref x), (.int (0 : Int32))]))
  obtain ⟨T2, X2, e2, st2⟩ := getF X1 hx hZ hown (host := "") (Or.inl (hw _ (List.mem_of_getElem? (i := 16) rfl))) Via.refl e1 F_1 (g := (mkF m 13 #[.val (.ref x)] [(.ref x), (.int (0 : Int32))])) rfl rfl (hb hby d4_13)
  refine own_go st2 ?_
  show own_G p e below s _ _ _ (T2.setTop (mkF m 16 #[.val (.ref x)] [(.ref s1), (.int (0 : Int32))]))
  refine own_go (fun _ kk_ => XT.ifnonnullYes X2.here hx rfl (pc0 := 16) (pc' := 23) rfl (hb hby d4_16) rfl (by decide) (by decide) kk_) ?_
  show own_G p e below s _ _ _ (T2.setTop (mkF m 23 #[.val (.ref x)] [(.int (0 : Int32))]))
  refine own_go (fun _ kk_ => XS.iconst X2.here hx rfl (hb hby d4_23) kk_) ?_
  show own_G p e below s _ _ _ (T2.setTop (mkF m 24 #[.val (.ref x)] [(.int (2 : Int32)), (.int (0 : Int32))]))
  refine own_go (fun _ kk_ => XS.iadd X2.here hx rfl (hb hby d4_24) rfl kk_) ?_
  show own_G p e below s _ _ _ (T2.setTop (mkF m 25 #[.val (.ref x)] [(.int (2 : Int32))]))
  refine own_go (fun _ kk_ => XS.aloadN X2.here hx rfl (hb hby d4_25) rfl rfl kk_) ?_
  show own_G p e below s _ _ _ (T2.setTop (mkF m 26 #[.val (.ref x)] [(.ref x), (.int (2 : Int32))]))
  obtain ⟨T3, X3, e3, st3⟩ := getF X2 hx hZ hown (host := "") (Or.inl (hw _ (List.mem_of_getElem? (i := 18) rfl))) Via.refl e2 F_2 (g := (mkF m 26 #[.val (.ref x)] [(.ref x), (.int (2 : Int32))])) rfl rfl (hb hby d4_26)
  refine own_go st3 ?_
  show own_G p e below s _ _ _ (T3.setTop (mkF m 29 #[.val (.ref x)] [(.ref s2), (.int (2 : Int32))]))
  refine own_go (fun _ kk_ => XT.ifnonnullYes X3.here hx rfl (pc0 := 29) (pc' := 36) rfl (hb hby d4_29) rfl (by decide) (by decide) kk_) ?_
  show own_G p e below s _ _ _ (T3.setTop (mkF m 36 #[.val (.ref x)] [(.int (2 : Int32))]))
  refine own_go (fun _ kk_ => XS.iconst X3.here hx rfl (hb hby d4_36) kk_) ?_
  show own_G p e below s _ _ _ (T3.setTop (mkF m 37 #[.val (.ref x)] [(.int (4 : Int32)), (.int (2 : Int32))]))
  refine own_go (fun _ kk_ => XS.iadd X3.here hx rfl (hb hby d4_37) rfl kk_) ?_
  show own_G p e below s _ _ _ (T3.setTop (mkF m 38 #[.val (.ref x)] [(.int (6 : Int32))]))
  exact own_retI X3 hx Bd.returns (BodyLoose.notSynchronized Bd) (hb hby d4_38) e3 ⟨rfl, N0, rfl⟩ (by decide) (by decide)
theorem ef_rmI100 (m : MethodId) (x0 : Addr) (x1 : Addr) : entryFrame m #[(.ref x0), (.ref x1), .null, .null] 4 = mkF m 0 #[.val (.ref x0), .val (.ref x1), .val .null, .val .null] [] := by first | (simp [entryFrame, mkF, argsToLocals, Value.category]; done) | rfl
def Q_rmI100 (Z : State) (x : Addr) (s0 : Addr) (h0 : Heap) (n0 : Nat) : Option Value → Heap → List Loc → Prop := fun v h L => v = none ∧ Fr n0 L ∧ Keep h0 h [x] ∧ Exa Z h x "com/example/accordant/accordant/policy/Scope" ∧ Fld Z h x "com/example/accordant/accordant/policy/Scope" "vendor" "Ljava/lang/String;" (.ref s0) ∧ Fld Z h x "com/example/accordant/accordant/policy/Scope" "item" "Ljava/lang/String;" .null ∧ Fld Z h x "com/example/accordant/accordant/policy/Scope" "itemGroup" "Ljava/lang/String;" .null
set_option maxRecDepth 65536 in
set_option maxHeartbeats 40000000 in
theorem rmI100 (l : Launch) (Z : State) (a0 : Array Value) (hw : ∀ d ∈ tables_1, d.before a0 Z = true) (ws : List Jvm.Cond) (x : Addr) (s0 : Addr) (h0 : Heap) (n0 : Nat) (Z0 : n0 ≤ h0.size) (E_x : Exa Z h0 x "com/example/accordant/accordant/policy/Scope") (g_x : n0 ≤ x) (F_0 : Fld Z h0 x "com/example/accordant/accordant/policy/Scope" "vendor" "Ljava/lang/String;" .null) (F_1 : Fld Z h0 x "com/example/accordant/accordant/policy/Scope" "item" "Ljava/lang/String;" .null) (F_2 : Fld Z h0 x "com/example/accordant/accordant/policy/Scope" "itemGroup" "Ljava/lang/String;" .null) :
    MetFree l (⟨"com/example/accordant/accordant/policy/Scope", "<init>", "(Ljava/lang/String;Ljava/lang/String;Ljava/lang/String;)V"⟩ : MethodName) (head1 (Jvm.Cond.code (⟨"com/example/accordant/accordant/policy/Scope", "<init>", "(Ljava/lang/String;Ljava/lang/String;Ljava/lang/String;)V"⟩ : MethodName) prog_47_method_1_code 4 none :: ws) ({ frames := 2, cells := 0, slots := 0, locals := 24 } : Room)) (fun as_ U => as_ = #[(.ref x), (.ref s0), .null, .null] ∧ Z.Warmed39 U.vm ∧ U.heap = h0) (fun _ _ _ _ _ => True) (fun _ U o U' => ∃ v L, o = .returned v ∧ (Q_rmI100 Z x s0 h0 n0) v U'.heap L ∧ FrameEnd U o U' L ({ frames := 2, cells := 0, slots := 0, locals := 24 } : Room).cells ({ frames := 2, cells := 0, slots := 0, locals := 24 } : Room).slots) := by
  refine MetFree.of_bodySF (plainFor_of_name pn_3) hisR ?_
  intro p e s m args below meth c s₁ Bd hml0 hP hK
  obtain ⟨rfl, hZ, hh⟩ := hP
  have hx := Bd.exec
  have hby := Bd.bytes
  have hml : c.maxLocals = 4 := hml0
  have hown : s.vm.findClass "com/example/accordant/accordant/policy/Scope" = some m.cls := findClass_of_methodNamed Bd.named
  have hnm := (name_of_methodNamed Bd.named Bd.method).1
  have X0 : Stand p l e ({ frames := 2, cells := 0, slots := 0, locals := 24 } : Room) s m #[(.ref x), (.ref s0), .null, .null] below meth c s₁ [] 0 0 := Stand.of_body Bd
  have e0 : s₁.heap = h0 := by rw [← hh, Bd.state]; rfl
  have N0 := Fr.nil n0
  show own_G p e below s (Q_rmI100 Z x s0 h0 n0) ({ frames := 2, cells := 0, slots := 0, locals := 24 } : Room).cells ({ frames := 2, cells := 0, slots := 0, locals := 24 } : Room).slots (s₁.setTop (entryFrame m #[(.ref x), (.ref s0), .null, .null] 4))
  rw [ef_rmI100 m x s0]
  have K_0 := Keep.refl h0 [x]
  show own_G p e below s _ _ _ (s₁.setTop (mkF m 0 #[.val (.ref x), .val (.ref s0), .val .null, .val .null] []))
  refine own_go (fun _ kk_ => XS.aloadN X0.here hx rfl (hb hby d1_0) rfl rfl kk_) ?_
  show own_G p e below s _ _ _ (s₁.setTop (mkF m 1 #[.val (.ref x), .val (.ref s0), .val .null, .val .null] [(.ref x)]))
  obtain ⟨_, _, ⟨T1, L1, k1, n1⟩, -, X1, ⟨Lc1, hQ1, l1, y1, z1⟩, st1⟩ := X0.specialBack hx (y := (⟨"java/lang/Record", "<init>", "()V"⟩ : MethodName)) rfl hown (mvT hZ (hw _ (List.mem_of_getElem? (i := 6) rfl))) (mvT hZ (hw _ (List.mem_of_getElem? (i := 7) rfl))) (mvT hZ (hw _ (List.mem_of_getElem? (i := 10) rfl))) (by decide) (backOf (W := 0) (rmRec l Z a0 hw [] x h0 n0 Z0) hZ (hw _ (List.mem_of_getElem? (i := 10) rfl)) (hw _ (List.mem_of_getElem? (i := 9) rfl)) (by decide) (by decide)) (g := (mkF m 1 #[.val (.ref x), .val (.ref s0), .val .null, .val .null] [(.ref x)])) rfl (by rw [hml]; rfl) (Steps.refl _) (a := x) (argsL := []) (rest := []) (lenOf pd_2 rfl) rfl (by show 2 * 0 + _ ≤ _; exact Nat.le_of_eq rfl) (hb hby d1_1) (fun _ _ => ⟨rfl, e0, (by decide : 0 + 0 ≤ _), (by decide : 0 + 0 ≤ _)⟩)
  dsimp only [Pt.U, Pt.locs, Pt.cells, Pt.slots] at X1 l1 y1 z1 st1 hQ1
  subst l1 y1 z1
  obtain ⟨rfl, N1q, e1⟩ := hQ1
  have N1 := Fr.app N0 N1q
  refine own_go (fun _ kk_ => st1.trans kk_) ?_
  show own_G p e below s _ _ _ (T1.setTop (mkF m 4 #[.val (.ref x), .val (.ref s0), .val .null, .val .null] []))
  refine own_go (fun _ kk_ => XS.aloadN X1.here hx rfl (hb hby d1_4) rfl rfl kk_) ?_
  show own_G p e below s _ _ _ (T1.setTop (mkF m 5 #[.val (.ref x), .val (.ref s0), .val .null, .val .null] [(.ref x)]))
  refine own_go (fun _ kk_ => XS.aloadN X1.here hx rfl (hb hby d1_5) rfl rfl kk_) ?_
  show own_G p e below s _ _ _ (T1.setTop (mkF m 6 #[.val (.ref x), .val (.ref s0), .val .null, .val .null] [(.ref s0), (.ref x)]))
  obtain ⟨T2, h2, X2, e2, W2, st2⟩ := putF X1 hx hZ hown (host := "") (Or.inl (hw _ (List.mem_of_getElem? (i := 14) rfl))) Via.refl e1 F_0 E_x (Or.inr ⟨(hw _ (List.mem_of_getElem? (i := 15) rfl)), rfl, hnm⟩) (hw _ (List.mem_of_getElem? (i := 1) rfl)) (ty := (.object "java/lang/String")) (by decide) rfl rfl (g := (mkF m 6 #[.val (.ref x), .val (.ref s0), .val .null, .val .null] [(.ref s0), (.ref x)])) rfl rfl (hb hby d1_6)
  refine own_go st2 ?_
  have E2_x := E_x.wr W2
  have K2_ := K_0.wr W2 (Or.inl (List.mem_singleton.mpr rfl))
  have F2_x_vendor := F_0.same W2
  have F2_x_item := F_1.other W2 (Or.inr (slot_ne (Or.inr (hw _ (List.mem_of_getElem? (i := 17) rfl))) (Or.inr (hw _ (List.mem_of_getElem? (i := 15) rfl))) (by decide) (t := (.object "java/lang/String")) (t' := (.object "java/lang/String")) (by decide) (by decide)))
  have F2_x_itemGroup := F_2.other W2 (Or.inr (slot_ne (Or.inr (hw _ (List.mem_of_getElem? (i := 19) rfl))) (Or.inr (hw _ (List.mem_of_getElem? (i := 15) rfl))) (by decide) (t := (.object "java/lang/String")) (t' := (.object "java/lang/String")) (by decide) (by decide)))
  have Z2 : n0 ≤ h2.size := by rw [W2.size]; exact Z0
  have N2 := Fr.snoc X2 N1 g_x
  show own_G p e below s _ _ _ (T2.setTop (mkF m 9 #[.val (.ref x), .val (.ref s0), .val .null, .val .null] []))
  refine own_go (fun _ kk_ => XS.aloadN X2.here hx rfl (hb hby d1_9) rfl rfl kk_) ?_
  show own_G p e below s _ _ _ (T2.setTop (mkF m 10 #[.val (.ref x), .val (.ref s0), .val .null, .val .null] [(.ref x)]))
  refine own_go (fun _ kk_ => XS.aloadN X2.here hx rfl (hb hby d1_10) rfl rfl kk_) ?_
  show own_G p e below s _ _ _ (T2.setTop (mkF m 11 #[.val (.ref x), .val (.ref s0), .val .null, .val .null] [.null, (.ref x)]))
  obtain ⟨T3, h3, X3, e3, W3, st3⟩ := putF X2 hx hZ hown (host := "") (Or.inl (hw _ (List.mem_of_getElem? (i := 16) rfl))) Via.refl e2 F2_x_item E2_x (Or.inr ⟨(hw _ (List.mem_of_getElem? (i := 17) rfl)), rfl, hnm⟩) (hw _ (List.mem_of_getElem? (i := 1) rfl)) (ty := (.object "java/lang/String")) (by decide) rfl rfl (g := (mkF m 11 #[.val (.ref x), .val (.ref s0), .val .null, .val .null] [.null, (.ref x)])) rfl rfl (hb hby d1_11)
  refine own_go st3 ?_
  have E3_x := E2_x.wr W3
  have K3_ := K2_.wr W3 (Or.inl (List.mem_singleton.mpr rfl))
  have F3_x_vendor := F2_x_vendor.other W3 (Or.inr (slot_ne (Or.inr (hw _ (List.mem_of_getElem? (i := 15) rfl))) (Or.inr (hw _ (List.mem_of_getElem? (i := 17) rfl))) (by decide) (t := (.object "java/lang/String")) (t' := (.object "java/lang/String")) (by decide) (by decide)))
  have F3_x_item := F2_x_item.same W3
  have F3_x_itemGroup := F2_x_itemGroup.other W3 (Or.inr (slot_ne (Or.inr (hw _ (List.mem_of_getElem? (i := 19) rfl))) (Or.inr (hw _ (List.mem_of_getElem? (i := 17) rfl))) (by decide) (t := (.object "java/lang/String")) (t' := (.object "java/lang/String")) (by decide) (by decide)))
  have Z3 : n0 ≤ h3.size := by rw [W3.size]; exact Z2
  have N3 := Fr.snoc X3 N2 g_x
  show own_G p e below s _ _ _ (T3.setTop (mkF m 14 #[.val (.ref x), .val (.ref s0), .val .null, .val .null] []))
  refine own_go (fun _ kk_ => XS.aloadN X3.here hx rfl (hb hby d1_14) rfl rfl kk_) ?_
  show own_G p e below s _ _ _ (T3.setTop (mkF m 15 #[.val (.ref x), .val (.ref s0), .val .null, .val .null] [(.ref x)]))
  refine own_go (fun _ kk_ => XS.aloadN X3.here hx rfl (hb hby d1_15) rfl rfl kk_) ?_
  show own_G p e below s _ _ _ (T3.setTop (mkF m 16 #[.val (.ref x), .val (.ref s0), .val .null, .val .null] [.null, (.ref x)]))
  obtain ⟨T4, h4, X4, e4, W4, st4⟩ := putF X3 hx hZ hown (host := "") (Or.inl (hw _ (List.mem_of_getElem? (i := 18) rfl))) Via.refl e3 F3_x_itemGroup E3_x (Or.inr ⟨(hw _ (List.mem_of_getElem? (i := 19) rfl)), rfl, hnm⟩) (hw _ (List.mem_of_getElem? (i := 1) rfl)) (ty := (.object "java/lang/String")) (by decide) rfl rfl (g := (mkF m 16 #[.val (.ref x), .val (.ref s0), .val .null, .val .null] [.null, (.ref x)])) rfl rfl (hb hby d1_16)
  refine own_go st4 ?_
  have E4_x := E3_x.wr W4
  have K4_ := K3_.wr W4 (Or.inl (List.mem_singleton.mpr rfl))
  have F4_x_vendor := F3_x_vendor.other W4 (Or.inr (slot_ne (Or.inr (hw _ (List.mem_of_getElem? (i := 15) rfl))) (Or.inr (hw _ (List.mem_of_getElem? (i := 19) rfl))) (by decide) (t := (.object "java/lang/String")) (t' := (.object "java/lang/String")) (by decide) (by decide)))
  have F4_x_item := F3_x_item.other W4 (Or.inr (slot_ne (Or.inr (hw _ (List.mem_of_getElem? (i := 17) rfl))) (Or.inr (hw _ (List.mem_of_getElem? (i := 19) rfl))) (by decide) (t := (.object "java/lang/String")) (t' := (.object "java/lang/String")) (by decide) (by decide)))
  have F4_x_itemGroup := F3_x_itemGroup.same W4
  have Z4 : n0 ≤ h4.size := by rw [W4.size]; exact Z3
  have N4 := Fr.snoc X4 N3 g_x
  show own_G p e below s _ _ _ (T4.setTop (mkF m 19 #[.val (.ref x), .val (.ref s0), .val .null, .val .null] []))
  exact own_ret0 X4 hx Bd.returns (BodyLoose.notSynchronized Bd) (hb hby d1_19) e4 ⟨rfl, N4, K4_, E4_x, F4_x_vendor, F4_x_item, F4_x_itemGroup⟩ (by decide) (by decide)
theorem d4_11 : decode prog_47_method_2_code 11 = .ok (.iconst 1, 1) := by decide +kernel
theorem ef_rmP100 (m : MethodId) (x0 : Addr) : entryFrame m #[(.ref x0)] 1 = mkF m 0 #[.val (.ref x0)] [] := by first | (simp [entryFrame, mkF, argsToLocals, Value.category]; done) | rfl
def Q_rmP100 (Z : State) (x : Addr) (s0 : Addr) (h0 : Heap) (n0 : Nat) : Option Value → Heap → List Loc → Prop := fun v h L => v = some (.int 1) ∧ Fr n0 L ∧ h = h0
set_option maxRecDepth 65536 in
set_option maxHeartbeats 40000000 in
theorem rmP100 (l : Launch) (Z : State) (a0 : Array Value) (hw : ∀ d ∈ tables_1, d.before a0 Z = true) (ws : List Jvm.Cond) (x : Addr) (s0 : Addr) (h0 : Heap) (n0 : Nat) (Z0 : n0 ≤ h0.size) (F_0 : Fld Z h0 x "com/example/accordant/accordant/policy/Scope" "vendor" "Ljava/lang/String;" (.ref s0)) (F_1 : Fld Z h0 x "com/example/accordant/accordant/policy/Scope" "item" "Ljava/lang/String;" .null) (F_2 : Fld Z h0 x "com/example/accordant/accordant/policy/Scope" "itemGroup" "Ljava/lang/String;" .null) :
    MetFree l (⟨"com/example/accordant/accordant/policy/Scope", "shape", "()I"⟩ : MethodName) (head1 (Jvm.Cond.code (⟨"com/example/accordant/accordant/policy/Scope", "shape", "()I"⟩ : MethodName) prog_47_method_2_code 1 (some .int) :: ws) ({ frames := 0, cells := 0, slots := 0, locals := 0 } : Room)) (fun as_ U => as_ = #[(.ref x)] ∧ Z.Warmed39 U.vm ∧ U.heap = h0) (fun _ _ _ _ _ => True) (fun _ U o U' => ∃ v L, o = .returned v ∧ (Q_rmP100 Z x s0 h0 n0) v U'.heap L ∧ FrameEnd U o U' L ({ frames := 0, cells := 0, slots := 0, locals := 0 } : Room).cells ({ frames := 0, cells := 0, slots := 0, locals := 0 } : Room).slots) := by
  refine MetFree.of_bodySF (plainFor_of_name pn_3) hisR ?_
  intro p e s m args below meth c s₁ Bd hml0 hP hK
  obtain ⟨rfl, hZ, hh⟩ := hP
  have hx := Bd.exec
  have hby := Bd.bytes
  have hml : c.maxLocals = 1 := hml0
  have hown : s.vm.findClass "com/example/accordant/accordant/policy/Scope" = some m.cls := findClass_of_methodNamed Bd.named
  have hnm := (name_of_methodNamed Bd.named Bd.method).1
  have X0 : Stand p l e ({ frames := 0, cells := 0, slots := 0, locals := 0 } : Room) s m #[(.ref x)] below meth c s₁ [] 0 0 := Stand.of_body Bd
  have e0 : s₁.heap = h0 := by rw [← hh, Bd.state]; rfl
  have N0 := Fr.nil n0
  show own_G p e below s (Q_rmP100 Z x s0 h0 n0) ({ frames := 0, cells := 0, slots := 0, locals := 0 } : Room).cells ({ frames := 0, cells := 0, slots := 0, locals := 0 } : Room).slots (s₁.setTop (entryFrame m #[(.ref x)] 1))
  rw [ef_rmP100 m x]
  show own_G p e below s _ _ _ (s₁.setTop (mkF m 0 #[.val (.ref x)] []))
  refine own_go (fun _ kk_ => XS.aloadN X0.here hx rfl (hb hby d4_0) rfl rfl kk_) ?_
  show own_G p e below s _ _ _ (s₁.setTop (mkF m 1 #[.val (.ref x)] [(.ref x)]))
  obtain ⟨T1, X1, e1, st1⟩ := getF X0 hx hZ hown (host := "") (Or.inl (hw _ (List.mem_of_getElem? (i := 14) rfl))) Via.refl e0 F_0 (g := (mkF m 1 #[.val (.ref x)] [(.ref x)])) rfl rfl (hb hby d4_1)
  refine own_go st1 ?_
  show own_G p e below s _ _ _ (T1.setTop (mkF m 4 #[.val (.ref x)] [(.ref s0)]))
  refine own_go (fun _ kk_ => XT.ifnonnullYes X1.here hx rfl (pc0 := 4) (pc' := 11) rfl (hb hby d4_4) rfl (by decide) (by decide) kk_) ?_
  show own_G p e below s _ _ _ (T1.setTop (mkF m 11 #[.val (.ref x)] []))
  refine own_go (fun _ kk_ => XS.iconst X1.here hx rfl (hb hby d4_11) kk_) ?_
  show own_G p e below s _ _ _ (T1.setTop (mkF m 12 #[.val (.ref x)] [(.int (1 : Int32))]))
  refine own_go (fun _ kk_ => XS.aloadN X1.here hx rfl (hb hby d4_12) rfl rfl kk_) ?_
  show own_G p e below s _ _ _ (T1.setTop (mkF m 13 #[.val (.ref x)] [(.ref x), (.int (1 : Int32))]))
  obtain ⟨T2, X2, e2, st2⟩ := getF X1 hx hZ hown (host := "") (Or.inl (hw _ (List.mem_of_getElem? (i := 16) rfl))) Via.refl e1 F_1 (g := (mkF m 13 #[.val (.ref x)] [(.ref x), (.int (1 : Int32))])) rfl rfl (hb hby d4_13)
  refine own_go st2 ?_
  show own_G p e below s _ _ _ (T2.setTop (mkF m 16 #[.val (.ref x)] [.null, (.int (1 : Int32))]))
  refine own_go (fun _ kk_ => XT.ifnonnullNo X2.here hx rfl (hb hby d4_16) rfl kk_) ?_
  show own_G p e below s _ _ _ (T2.setTop (mkF m 19 #[.val (.ref x)] [(.int (1 : Int32))]))
  refine own_go (fun _ kk_ => XS.iconst X2.here hx rfl (hb hby d4_19) kk_) ?_
  show own_G p e below s _ _ _ (T2.setTop (mkF m 20 #[.val (.ref x)] [(.int (0 : Int32)), (.int (1 : Int32))]))
  refine own_go (fun _ kk_ => XS.goto X2.here hx rfl (pc0 := 20) (pc' := 24) rfl (hb hby d4_20) (by decide) (by decide) kk_) ?_
  show own_G p e below s _ _ _ (T2.setTop (mkF m 24 #[.val (.ref x)] [(.int (0 : Int32)), (.int (1 : Int32))]))
  refine own_go (fun _ kk_ => XS.iadd X2.here hx rfl (hb hby d4_24) rfl kk_) ?_
  show own_G p e below s _ _ _ (T2.setTop (mkF m 25 #[.val (.ref x)] [(.int (1 : Int32))]))
  refine own_go (fun _ kk_ => XS.aloadN X2.here hx rfl (hb hby d4_25) rfl rfl kk_) ?_
  show own_G p e below s _ _ _ (T2.setTop (mkF m 26 #[.val (.ref x)] [(.ref x), (.int (1 : Int32))]))
  obtain ⟨T3, X3, e3, st3⟩ := getF X2 hx hZ hown (host := "") (Or.inl (hw _ (List.mem_of_getElem? (i := 18) rfl))) Via.refl e2 F_2 (g := (mkF m 26 #[.val (.ref x)] [(.ref x), (.int (1 : Int32))])) rfl rfl (hb hby d4_26)
  refine own_go st3 ?_
  show own_G p e below s _ _ _ (T3.setTop (mkF m 29 #[.val (.ref x)] [.null, (.int (1 : Int32))]))
  refine own_go (fun _ kk_ => XT.ifnonnullNo X3.here hx rfl (hb hby d4_29) rfl kk_) ?_
  show own_G p e below s _ _ _ (T3.setTop (mkF m 32 #[.val (.ref x)] [(.int (1 : Int32))]))
  refine own_go (fun _ kk_ => XS.iconst X3.here hx rfl (hb hby d4_32) kk_) ?_
  show own_G p e below s _ _ _ (T3.setTop (mkF m 33 #[.val (.ref x)] [(.int (0 : Int32)), (.int (1 : Int32))]))
  refine own_go (fun _ kk_ => XS.goto X3.here hx rfl (pc0 := 33) (pc' := 37) rfl (hb hby d4_33) (by decide) (by decide) kk_) ?_
  show own_G p e below s _ _ _ (T3.setTop (mkF m 37 #[.val (.ref x)] [(.int (0 : Int32)), (.int (1 : Int32))]))
  refine own_go (fun _ kk_ => XS.iadd X3.here hx rfl (hb hby d4_37) rfl kk_) ?_
  show own_G p e below s _ _ _ (T3.setTop (mkF m 38 #[.val (.ref x)] [(.int (1 : Int32))]))
  exact own_retI X3 hx Bd.returns (BodyLoose.notSynchronized Bd) (hb hby d4_38) e3 ⟨rfl, N0, rfl⟩ (by decide) (by decide)
theorem ef_rmI101 (m : MethodId) (x0 : Addr) (x1 : Addr) (x3 : Addr) : entryFrame m #[(.ref x0), (.ref x1), .null, (.ref x3)] 4 = mkF m 0 #[.val (.ref x0), .val (.ref x1), .val .null, .val (.ref x3)] [] := by first | (simp [entryFrame, mkF, argsToLocals, Value.category]; done) | rfl
def Q_rmI101 (Z : State) (x : Addr) (s0 s2 : Addr) (h0 : Heap) (n0 : Nat) : Option Value → Heap → List Loc → Prop := fun v h L => v = none ∧ Fr n0 L ∧ Keep h0 h [x] ∧ Exa Z h x "com/example/accordant/accordant/policy/Scope" ∧ Fld Z h x "com/example/accordant/accordant/policy/Scope" "vendor" "Ljava/lang/String;" (.ref s0) ∧ Fld Z h x "com/example/accordant/accordant/policy/Scope" "item" "Ljava/lang/String;" .null ∧ Fld Z h x "com/example/accordant/accordant/policy/Scope" "itemGroup" "Ljava/lang/String;" (.ref s2)
set_option maxRecDepth 65536 in
set_option maxHeartbeats 40000000 in
theorem rmI101 (l : Launch) (Z : State) (a0 : Array Value) (hw : ∀ d ∈ tables_1, d.before a0 Z = true) (ws : List Jvm.Cond) (x : Addr) (s0 s2 : Addr) (h0 : Heap) (n0 : Nat) (Z0 : n0 ≤ h0.size) (E_x : Exa Z h0 x "com/example/accordant/accordant/policy/Scope") (g_x : n0 ≤ x) (F_0 : Fld Z h0 x "com/example/accordant/accordant/policy/Scope" "vendor" "Ljava/lang/String;" .null) (F_1 : Fld Z h0 x "com/example/accordant/accordant/policy/Scope" "item" "Ljava/lang/String;" .null) (F_2 : Fld Z h0 x "com/example/accordant/accordant/policy/Scope" "itemGroup" "Ljava/lang/String;" .null) :
    MetFree l (⟨"com/example/accordant/accordant/policy/Scope", "<init>", "(Ljava/lang/String;Ljava/lang/String;Ljava/lang/String;)V"⟩ : MethodName) (head1 (Jvm.Cond.code (⟨"com/example/accordant/accordant/policy/Scope", "<init>", "(Ljava/lang/String;Ljava/lang/String;Ljava/lang/String;)V"⟩ : MethodName) prog_47_method_1_code 4 none :: ws) ({ frames := 2, cells := 0, slots := 0, locals := 24 } : Room)) (fun as_ U => as_ = #[(.ref x), (.ref s0), .null, (.ref s2)] ∧ Z.Warmed39 U.vm ∧ U.heap = h0) (fun _ _ _ _ _ => True) (fun _ U o U' => ∃ v L, o = .returned v ∧ (Q_rmI101 Z x s0 s2 h0 n0) v U'.heap L ∧ FrameEnd U o U' L ({ frames := 2, cells := 0, slots := 0, locals := 24 } : Room).cells ({ frames := 2, cells := 0, slots := 0, locals := 24 } : Room).slots) := by
  refine MetFree.of_bodySF (plainFor_of_name pn_3) hisR ?_
  intro p e s m args below meth c s₁ Bd hml0 hP hK
  obtain ⟨rfl, hZ, hh⟩ := hP
  have hx := Bd.exec
  have hby := Bd.bytes
  have hml : c.maxLocals = 4 := hml0
  have hown : s.vm.findClass "com/example/accordant/accordant/policy/Scope" = some m.cls := findClass_of_methodNamed Bd.named
  have hnm := (name_of_methodNamed Bd.named Bd.method).1
  have X0 : Stand p l e ({ frames := 2, cells := 0, slots := 0, locals := 24 } : Room) s m #[(.ref x), (.ref s0), .null, (.ref s2)] below meth c s₁ [] 0 0 := Stand.of_body Bd
  have e0 : s₁.heap = h0 := by rw [← hh, Bd.state]; rfl
  have N0 := Fr.nil n0
  show own_G p e below s (Q_rmI101 Z x s0 s2 h0 n0) ({ frames := 2, cells := 0, slots := 0, locals := 24 } : Room).cells ({ frames := 2, cells := 0, slots := 0, locals := 24 } : Room).slots (s₁.setTop (entryFrame m #[(.ref x), (.ref s0), .null, (.ref s2)] 4))
  rw [ef_rmI101 m x s0 s2]
  have K_0 := Keep.refl h0 [x]
  show own_G p e below s _ _ _ (s₁.setTop (mkF m 0 #[.val (.ref x), .val (.ref s0), .val .null, .val (.ref s2)] []))
  refine own_go (fun _ kk_ => XS.aloadN X0.here hx rfl (hb hby d1_0) rfl rfl kk_) ?_
  show own_G p e below s _ _ _ (s₁.setTop (mkF m 1 #[.val (.ref x), .val (.ref s0), .val .null, .val (.ref s2)] [(.ref x)]))
  obtain ⟨_, _, ⟨T1, L1, k1, n1⟩, -, X1, ⟨Lc1, hQ1, l1, y1, z1⟩, st1⟩ := X0.specialBack hx (y := (⟨"java/lang/Record", "<init>", "()V"⟩ : MethodName)) rfl hown (mvT hZ (hw _ (List.mem_of_getElem? (i := 6) rfl))) (mvT hZ (hw _ (List.mem_of_getElem? (i := 7) rfl))) (mvT hZ (hw _ (List.mem_of_getElem? (i := 10) rfl))) (by decide) (backOf (W := 0) (rmRec l Z a0 hw [] x h0 n0 Z0) hZ (hw _ (List.mem_of_getElem? (i := 10) rfl)) (hw _ (List.mem_of_getElem? (i := 9) rfl)) (by decide) (by decide)) (g := (mkF m 1 #[.val (.ref x), .val (.ref s0), .val .null, .val (.ref s2)] [(.ref x)])) rfl (by rw [hml]; rfl) (Steps.refl _) (a := x) (argsL := []) (rest := []) (lenOf pd_2 rfl) rfl (by show 2 * 0 + _ ≤ _; exact Nat.le_of_eq rfl) (hb hby d1_1) (fun _ _ => ⟨rfl, e0, (by decide : 0 + 0 ≤ _), (by decide : 0 + 0 ≤ _)⟩)
  dsimp only [Pt.U, Pt.locs, Pt.cells, Pt.slots] at X1 l1 y1 z1 st1 hQ1
  subst l1 y1 z1
  obtain ⟨rfl, N1q, e1⟩ := hQ1
  have N1 := Fr.app N0 N1q
  refine own_go (fun _ kk_ => st1.trans kk_) ?_
  show own_G p e below s _ _ _ (T1.setTop (mkF m 4 #[.val (.ref x), .val (.ref s0), .val .null, .val (.ref s2)] []))
  refine own_go (fun _ kk_ => XS.aloadN X1.here hx rfl (hb hby d1_4) rfl rfl kk_) ?_
  show own_G p e below s _ _ _ (T1.setTop (mkF m 5 #[.val (.ref x), .val (.ref s0), .val .null, .val (.ref s2)] [(.ref x)]))
  refine own_go (fun _ kk_ => XS.aloadN X1.here hx rfl (hb hby d1_5) rfl rfl kk_) ?_
  show own_G p e below s _ _ _ (T1.setTop (mkF m 6 #[.val (.ref x), .val (.ref s0), .val .null, .val (.ref s2)] [(.ref s0), (.ref x)]))
  obtain ⟨T2, h2, X2, e2, W2, st2⟩ := putF X1 hx hZ hown (host := "") (Or.inl (hw _ (List.mem_of_getElem? (i := 14) rfl))) Via.refl e1 F_0 E_x (Or.inr ⟨(hw _ (List.mem_of_getElem? (i := 15) rfl)), rfl, hnm⟩) (hw _ (List.mem_of_getElem? (i := 1) rfl)) (ty := (.object "java/lang/String")) (by decide) rfl rfl (g := (mkF m 6 #[.val (.ref x), .val (.ref s0), .val .null, .val (.ref s2)] [(.ref s0), (.ref x)])) rfl rfl (hb hby d1_6)
  refine own_go st2 ?_
  have E2_x := E_x.wr W2
  have K2_ := K_0.wr W2 (Or.inl (List.mem_singleton.mpr rfl))
  have F2_x_vendor := F_0.same W2
  have F2_x_item := F_1.other W2 (Or.inr (slot_ne (Or.inr (hw _ (List.mem_of_getElem? (i := 17) rfl))) (Or.inr (hw _ (List.mem_of_getElem? (i := 15) rfl))) (by decide) (t := (.object "java/lang/String")) (t' := (.object "java/lang/String")) (by decide) (by decide)))
  have F2_x_itemGroup := F_2.other W2 (Or.inr (slot_ne (Or.inr (hw _ (List.mem_of_getElem? (i := 19) rfl))) (Or.inr (hw _ (List.mem_of_getElem? (i := 15) rfl))) (by decide) (t := (.object "java/lang/String")) (t' := (.object "java/lang/String")) (by decide) (by decide)))
  have Z2 : n0 ≤ h2.size := by rw [W2.size]; exact Z0
  have N2 := Fr.snoc X2 N1 g_x
  show own_G p e below s _ _ _ (T2.setTop (mkF m 9 #[.val (.ref x), .val (.ref s0), .val .null, .val (.ref s2)] []))
  refine own_go (fun _ kk_ => XS.aloadN X2.here hx rfl (hb hby d1_9) rfl rfl kk_) ?_
  show own_G p e below s _ _ _ (T2.setTop (mkF m 10 #[.val (.ref x), .val (.ref s0), .val .null, .val (.ref s2)] [(.ref x)]))
  refine own_go (fun _ kk_ => XS.aloadN X2.here hx rfl (hb hby d1_10) rfl rfl kk_) ?_
  show own_G p e below s _ _ _ (T2.setTop (mkF m 11 #[.val (.ref x), .val (.ref s0), .val .null, .val (.ref s2)] [.null, (.ref x)]))
  obtain ⟨T3, h3, X3, e3, W3, st3⟩ := putF X2 hx hZ hown (host := "") (Or.inl (hw _ (List.mem_of_getElem? (i := 16) rfl))) Via.refl e2 F2_x_item E2_x (Or.inr ⟨(hw _ (List.mem_of_getElem? (i := 17) rfl)), rfl, hnm⟩) (hw _ (List.mem_of_getElem? (i := 1) rfl)) (ty := (.object "java/lang/String")) (by decide) rfl rfl (g := (mkF m 11 #[.val (.ref x), .val (.ref s0), .val .null, .val (.ref s2)] [.null, (.ref x)])) rfl rfl (hb hby d1_11)
  refine own_go st3 ?_
  have E3_x := E2_x.wr W3
  have K3_ := K2_.wr W3 (Or.inl (List.mem_singleton.mpr rfl))
  have F3_x_vendor := F2_x_vendor.other W3 (Or.inr (slot_ne (Or.inr (hw _ (List.mem_of_getElem? (i := 15) rfl))) (Or.inr (hw _ (List.mem_of_getElem? (i := 17) rfl))) (by decide) (t := (.object "java/lang/String")) (t' := (.object "java/lang/String")) (by decide) (by decide)))
  have F3_x_item := F2_x_item.same W3
  have F3_x_itemGroup := F2_x_itemGroup.other W3 (Or.inr (slot_ne (Or.inr (hw _ (List.mem_of_getElem? (i := 19) rfl))) (Or.inr (hw _ (List.mem_of_getElem? (i := 17) rfl))) (by decide) (t := (.object "java/lang/String")) (t' := (.object "java/lang/String")) (by decide) (by decide)))
  have Z3 : n0 ≤ h3.size := by rw [W3.size]; exact Z2
  have N3 := Fr.snoc X3 N2 g_x
  show own_G p e below s _ _ _ (T3.setTop (mkF m 14 #[.val (.ref x), .val (.ref s0), .val .null, .val (.ref s2)] []))
  refine own_go (fun _ kk_ => XS.aloadN X3.here hx rfl (hb hby d1_14) rfl rfl kk_) ?_
  show own_G p e below s _ _ _ (T3.setTop (mkF m 15 #[.val (.ref x), .val (.ref s0), .val .null, .val (.ref s2)] [(.ref x)]))
  refine own_go (fun _ kk_ => XS.aloadN X3.here hx rfl (hb hby d1_15) rfl rfl kk_) ?_
  show own_G p e below s _ _ _ (T3.setTop (mkF m 16 #[.val (.ref x), .val (.ref s0), .val .null, .val (.ref s2)] [(.ref s2), (.ref x)]))
  obtain ⟨T4, h4, X4, e4, W4, st4⟩ := putF X3 hx hZ hown (host := "") (Or.inl (hw _ (List.mem_of_getElem? (i := 18) rfl))) Via.refl e3 F3_x_itemGroup E3_x (Or.inr ⟨(hw _ (List.mem_of_getElem? (i := 19) rfl)), rfl, hnm⟩) (hw _ (List.mem_of_getElem? (i := 1) rfl)) (ty := (.object "java/lang/String")) (by decide) rfl rfl (g := (mkF m 16 #[.val (.ref x), .val (.ref s0), .val .null, .val (.ref s2)] [(.ref s2), (.ref x)])) rfl rfl (hb hby d1_16)
  refine own_go st4 ?_
  have E4_x := E3_x.wr W4
  have K4_ := K3_.wr W4 (Or.inl (List.mem_singleton.mpr rfl))
  have F4_x_vendor := F3_x_vendor.other W4 (Or.inr (slot_ne (Or.inr (hw _ (List.mem_of_getElem? (i := 15) rfl))) (Or.inr (hw _ (List.mem_of_getElem? (i := 19) rfl))) (by decide) (t := (.object "java/lang/String")) (t' := (.object "java/lang/String")) (by decide) (by decide)))
  have F4_x_item := F3_x_item.other W4 (Or.inr (slot_ne (Or.inr (hw _ (List.mem_of_getElem? (i := 17) rfl))) (Or.inr (hw _ (List.mem_of_getElem? (i := 19) rfl))) (by decide) (t := (.object "java/lang/String")) (t' := (.object "java/lang/String")) (by decide) (by decide)))
  have F4_x_itemGroup := F3_x_itemGroup.same W4
  have Z4 : n0 ≤ h4.size := by rw [W4.size]; exact Z3
  have N4 := Fr.snoc X4 N3 g_x
  show own_G p e below s _ _ _ (T4.setTop (mkF m 19 #[.val (.ref x), .val (.ref s0), .val .null, .val (.ref s2)] []))
  exact own_ret0 X4 hx Bd.returns (BodyLoose.notSynchronized Bd) (hb hby d1_19) e4 ⟨rfl, N4, K4_, E4_x, F4_x_vendor, F4_x_item, F4_x_itemGroup⟩ (by decide) (by decide)
theorem ef_rmP101 (m : MethodId) (x0 : Addr) : entryFrame m #[(.ref x0)] 1 = mkF m 0 #[.val (.ref x0)] [] := by first | (simp [entryFrame, mkF, argsToLocals, Value.category]; done) | rfl
def Q_rmP101 (Z : State) (x : Addr) (s0 s2 : Addr) (h0 : Heap) (n0 : Nat) : Option Value → Heap → List Loc → Prop := fun v h L => v = some (.int 5) ∧ Fr n0 L ∧ h = h0
set_option maxRecDepth 65536 in
set_option maxHeartbeats 40000000 in
theorem rmP101 (l : Launch) (Z : State) (a0 : Array Value) (hw : ∀ d ∈ tables_1, d.before a0 Z = true) (ws : List Jvm.Cond) (x : Addr) (s0 s2 : Addr) (h0 : Heap) (n0 : Nat) (Z0 : n0 ≤ h0.size) (F_0 : Fld Z h0 x "com/example/accordant/accordant/policy/Scope" "vendor" "Ljava/lang/String;" (.ref s0)) (F_1 : Fld Z h0 x "com/example/accordant/accordant/policy/Scope" "item" "Ljava/lang/String;" .null) (F_2 : Fld Z h0 x "com/example/accordant/accordant/policy/Scope" "itemGroup" "Ljava/lang/String;" (.ref s2)) :
    MetFree l (⟨"com/example/accordant/accordant/policy/Scope", "shape", "()I"⟩ : MethodName) (head1 (Jvm.Cond.code (⟨"com/example/accordant/accordant/policy/Scope", "shape", "()I"⟩ : MethodName) prog_47_method_2_code 1 (some .int) :: ws) ({ frames := 0, cells := 0, slots := 0, locals := 0 } : Room)) (fun as_ U => as_ = #[(.ref x)] ∧ Z.Warmed39 U.vm ∧ U.heap = h0) (fun _ _ _ _ _ => True) (fun _ U o U' => ∃ v L, o = .returned v ∧ (Q_rmP101 Z x s0 s2 h0 n0) v U'.heap L ∧ FrameEnd U o U' L ({ frames := 0, cells := 0, slots := 0, locals := 0 } : Room).cells ({ frames := 0, cells := 0, slots := 0, locals := 0 } : Room).slots) := by
  refine MetFree.of_bodySF (plainFor_of_name pn_3) hisR ?_
  intro p e s m args below meth c s₁ Bd hml0 hP hK
  obtain ⟨rfl, hZ, hh⟩ := hP
  have hx := Bd.exec
  have hby := Bd.bytes
  have hml : c.maxLocals = 1 := hml0
  have hown : s.vm.findClass "com/example/accordant/accordant/policy/Scope" = some m.cls := findClass_of_methodNamed Bd.named
  have hnm := (name_of_methodNamed Bd.named Bd.method).1
  have X0 : Stand p l e ({ frames := 0, cells := 0, slots := 0, locals := 0 } : Room) s m #[(.ref x)] below meth c s₁ [] 0 0 := Stand.of_body Bd
  have e0 : s₁.heap = h0 := by rw [← hh, Bd.state]; rfl
  have N0 := Fr.nil n0
  show own_G p e below s (Q_rmP101 Z x s0 s2 h0 n0) ({ frames := 0, cells := 0, slots := 0, locals := 0 } : Room).cells ({ frames := 0, cells := 0, slots := 0, locals := 0 } : Room).slots (s₁.setTop (entryFrame m #[(.ref x)] 1))
  rw [ef_rmP101 m x]
  show own_G p e below s _ _ _ (s₁.setTop (mkF m 0 #[.val (.ref x)] []))
  refine own_go (fun _ kk_ => XS.aloadN X0.here hx rfl (hb hby d4_0) rfl rfl kk_) ?_
  show own_G p e below s _ _ _ (s₁.setTop (mkF m 1 #[.val (.ref x)] [(.ref x)]))
  obtain ⟨T1, X1, e1, st1⟩ := getF X0 hx hZ hown (host := "") (Or.inl (hw _ (List.mem_of_getElem? (i := 14) rfl))) Via.refl e0 F_0 (g := (mkF m 1 #[.val (.ref x)] [(.ref x)])) rfl rfl (hb hby d4_1)
  refine own_go st1 ?_
  show own_G p e below s _ _ _ (T1.setTop (mkF m 4 #[.val (.ref x)] [(.ref s0)]))
  refine own_go (fun _ kk_ => XT.ifnonnullYes X1.here hx rfl (pc0 := 4) (pc' := 11) rfl (hb hby d4_4) rfl (by decide) (by decide) kk_) ?_
  show own_G p e below s _ _ _ (T1.setTop (mkF m 11 #[.val (.ref x)] []))
  refine own_go (fun _ kk_ => XS.iconst X1.here hx rfl (hb hby d4_11) kk_) ?_
  show own_G p e below s _ _ _ (T1.setTop (mkF m 12 #[.val (.ref x)] [(.int (1 : Int32))]))
  refine own_go (fun _ kk_ => XS.aloadN X1.here hx rfl (hb hby d4_12) rfl rfl kk_) ?_
  show own_G p e below s _ _ _ (T1.setTop (mkF m 13 #[.val (.ref x)] [(.ref x), (.int (1 : Int32))]))
  obtain ⟨T2, X2, e2, st2⟩ := getF X1 hx hZ hown (host := "") (Or.inl (hw _ (List.mem_of_getElem? (i := 16) rfl))) Via.refl e1 F_1 (g := (mkF m 13 #[.val (.ref x)] [(.ref x), (.int (1 : Int32))])) rfl rfl (hb hby d4_13)
  refine own_go st2 ?_
  show own_G p e below s _ _ _ (T2.setTop (mkF m 16 #[.val (.ref x)] [.null, (.int (1 : Int32))]))
  refine own_go (fun _ kk_ => XT.ifnonnullNo X2.here hx rfl (hb hby d4_16) rfl kk_) ?_
  show own_G p e below s _ _ _ (T2.setTop (mkF m 19 #[.val (.ref x)] [(.int (1 : Int32))]))
  refine own_go (fun _ kk_ => XS.iconst X2.here hx rfl (hb hby d4_19) kk_) ?_
  show own_G p e below s _ _ _ (T2.setTop (mkF m 20 #[.val (.ref x)] [(.int (0 : Int32)), (.int (1 : Int32))]))
  refine own_go (fun _ kk_ => XS.goto X2.here hx rfl (pc0 := 20) (pc' := 24) rfl (hb hby d4_20) (by decide) (by decide) kk_) ?_
  show own_G p e below s _ _ _ (T2.setTop (mkF m 24 #[.val (.ref x)] [(.int (0 : Int32)), (.int (1 : Int32))]))
  refine own_go (fun _ kk_ => XS.iadd X2.here hx rfl (hb hby d4_24) rfl kk_) ?_
  show own_G p e below s _ _ _ (T2.setTop (mkF m 25 #[.val (.ref x)] [(.int (1 : Int32))]))
  refine own_go (fun _ kk_ => XS.aloadN X2.here hx rfl (hb hby d4_25) rfl rfl kk_) ?_
  show own_G p e below s _ _ _ (T2.setTop (mkF m 26 #[.val (.ref x)] [(.ref x), (.int (1 : Int32))]))
  obtain ⟨T3, X3, e3, st3⟩ := getF X2 hx hZ hown (host := "") (Or.inl (hw _ (List.mem_of_getElem? (i := 18) rfl))) Via.refl e2 F_2 (g := (mkF m 26 #[.val (.ref x)] [(.ref x), (.int (1 : Int32))])) rfl rfl (hb hby d4_26)
  refine own_go st3 ?_
  show own_G p e below s _ _ _ (T3.setTop (mkF m 29 #[.val (.ref x)] [(.ref s2), (.int (1 : Int32))]))
  refine own_go (fun _ kk_ => XT.ifnonnullYes X3.here hx rfl (pc0 := 29) (pc' := 36) rfl (hb hby d4_29) rfl (by decide) (by decide) kk_) ?_
  show own_G p e below s _ _ _ (T3.setTop (mkF m 36 #[.val (.ref x)] [(.int (1 : Int32))]))
  refine own_go (fun _ kk_ => XS.iconst X3.here hx rfl (hb hby d4_36) kk_) ?_
  show own_G p e below s _ _ _ (T3.setTop (mkF m 37 #[.val (.ref x)] [(.int (4 : Int32)), (.int (1 : Int32))]))
  refine own_go (fun _ kk_ => XS.iadd X3.here hx rfl (hb hby d4_37) rfl kk_) ?_
  show own_G p e below s _ _ _ (T3.setTop (mkF m 38 #[.val (.ref x)] [(.int (5 : Int32))]))
  exact own_retI X3 hx Bd.returns (BodyLoose.notSynchronized Bd) (hb hby d4_38) e3 ⟨rfl, N0, rfl⟩ (by decide) (by decide)
theorem ef_rmI110 (m : MethodId) (x0 : Addr) (x1 : Addr) (x2 : Addr) : entryFrame m #[(.ref x0), (.ref x1), (.ref x2), .null] 4 = mkF m 0 #[.val (.ref x0), .val (.ref x1), .val (.ref x2), .val .null] [] := by first | (simp [entryFrame, mkF, argsToLocals, Value.category]; done) | rfl
def Q_rmI110 (Z : State) (x : Addr) (s0 s1 : Addr) (h0 : Heap) (n0 : Nat) : Option Value → Heap → List Loc → Prop := fun v h L => v = none ∧ Fr n0 L ∧ Keep h0 h [x] ∧ Exa Z h x "com/example/accordant/accordant/policy/Scope" ∧ Fld Z h x "com/example/accordant/accordant/policy/Scope" "vendor" "Ljava/lang/String;" (.ref s0) ∧ Fld Z h x "com/example/accordant/accordant/policy/Scope" "item" "Ljava/lang/String;" (.ref s1) ∧ Fld Z h x "com/example/accordant/accordant/policy/Scope" "itemGroup" "Ljava/lang/String;" .null
set_option maxRecDepth 65536 in
set_option maxHeartbeats 40000000 in
theorem rmI110 (l : Launch) (Z : State) (a0 : Array Value) (hw : ∀ d ∈ tables_1, d.before a0 Z = true) (ws : List Jvm.Cond) (x : Addr) (s0 s1 : Addr) (h0 : Heap) (n0 : Nat) (Z0 : n0 ≤ h0.size) (E_x : Exa Z h0 x "com/example/accordant/accordant/policy/Scope") (g_x : n0 ≤ x) (F_0 : Fld Z h0 x "com/example/accordant/accordant/policy/Scope" "vendor" "Ljava/lang/String;" .null) (F_1 : Fld Z h0 x "com/example/accordant/accordant/policy/Scope" "item" "Ljava/lang/String;" .null) (F_2 : Fld Z h0 x "com/example/accordant/accordant/policy/Scope" "itemGroup" "Ljava/lang/String;" .null) :
    MetFree l (⟨"com/example/accordant/accordant/policy/Scope", "<init>", "(Ljava/lang/String;Ljava/lang/String;Ljava/lang/String;)V"⟩ : MethodName) (head1 (Jvm.Cond.code (⟨"com/example/accordant/accordant/policy/Scope", "<init>", "(Ljava/lang/String;Ljava/lang/String;Ljava/lang/String;)V"⟩ : MethodName) prog_47_method_1_code 4 none :: ws) ({ frames := 2, cells := 0, slots := 0, locals := 24 } : Room)) (fun as_ U => as_ = #[(.ref x), (.ref s0), (.ref s1), .null] ∧ Z.Warmed39 U.vm ∧ U.heap = h0) (fun _ _ _ _ _ => True) (fun _ U o U' => ∃ v L, o = .returned v ∧ (Q_rmI110 Z x s0 s1 h0 n0) v U'.heap L ∧ FrameEnd U o U' L ({ frames := 2, cells := 0, slots := 0, locals := 24 } : Room).cells ({ frames := 2, cells := 0, slots := 0, locals := 24 } : Room).slots) := by
  refine MetFree.of_bodySF (plainFor_of_name pn_3) hisR ?_
  intro p e s m args below meth c s₁ Bd hml0 hP hK
  obtain ⟨rfl, hZ, hh⟩ := hP
  have hx := Bd.exec
  have hby := Bd.bytes
  have hml : c.maxLocals = 4 := hml0
  have hown : s.vm.findClass "com/example/accordant/accordant/policy/Scope" = some m.cls := findClass_of_methodNamed Bd.named
  have hnm := (name_of_methodNamed Bd.named Bd.method).1
  have X0 : Stand p l e ({ frames := 2, cells := 0, slots := 0, locals := 24 } : Room) s m #[(.ref x), (.ref s0), (.ref s1), .null] below meth c s₁ [] 0 0 := Stand.of_body Bd
  have e0 : s₁.heap = h0 := by rw [← hh, Bd.state]; rfl
  have N0 := Fr.nil n0
  show own_G p e below s (Q_rmI110 Z x s0 s1 h0 n0) ({ frames := 2, cells := 0, slots := 0, locals := 24 } : Room).cells ({ frames := 2, cells := 0, slots := 0, locals := 24 } : Room).slots (s₁.setTop (entryFrame m #[(.ref x), (.ref s0), (.ref s1), .null] 4))
  rw [ef_rmI110 m x s0 s1]
  have K_0 := Keep.refl h0 [x]
  show own_G p e below s _ _ _ (s₁.setTop (mkF m 0 #[.val (.ref x), .val (.ref s0), .val (.ref s1), .val .null] []))
  refine own_go (fun _ kk_ => XS.aloadN X0.here hx rfl (hb hby d1_0) rfl rfl kk_) ?_
  show own_G p e below s _ _ _ (s₁.setTop (mkF m 1 #[.val (.ref x), .val (.ref s0), .val (.ref s1), .val .null] [(.ref x)]))
  obtain ⟨_, _, ⟨T1, L1, k1, n1⟩, -, X1, ⟨Lc1, hQ1, l1, y1, z1⟩, st1⟩ := X0.specialBack hx (y := (⟨"java/lang/Record", "<init>", "()V"⟩ : MethodName)) rfl hown (mvT hZ (hw _ (List.mem_of_getElem? (i := 6) rfl))) (mvT hZ (hw _ (List.mem_of_getElem? (i := 7) rfl))) (mvT hZ (hw _ (List.mem_of_getElem? (i := 10) rfl))) (by decide) (backOf (W := 0) (rmRec l Z a0 hw [] x h0 n0 Z0) hZ (hw _ (List.mem_of_getElem? (i := 10) rfl)) (hw _ (List.mem_of_getElem? (i := 9) rfl)) (by decide) (by decide)) (g := (mkF m 1 #[.val (.ref x), .val (.ref s0), .val (.ref s1), .val .null] [(.ref x)])) rfl (by rw [hml]; rfl) (Steps.refl _) (a := x) (argsL := []) (rest := []) (lenOf pd_2 rfl) rfl (by show 2 * 0 + _ ≤ _; exact Nat.le_of_eq rfl) (hb hby d1_1) (fun _ _ => ⟨rfl, e0, (by decide : 0 + 0 ≤ _), (by decide : 0 + 0 ≤ _)⟩)
  dsimp only [Pt.U, Pt.locs, Pt.cells, Pt.slots] at X1 l1 y1 z1 st1 hQ1
  subst l1 y1 z1
  obtain ⟨rfl, N1q, e1⟩ := hQ1
  have N1 := Fr.app N0 N1q
  refine own_go (fun _ kk_ => st1.trans kk_) ?_
  show own_G p e below s _ _ _ (T1.setTop (mkF m 4 #[.val (.ref x), .val (.ref s0), .val (.ref s1), .val .null] []))
  refine own_go (fun _ kk_ => XS.aloadN X1.here hx rfl (hb hby d1_4) rfl rfl kk_) ?_
  show own_G p e below s _ _ _ (T1.setTop (mkF m 5 #[.val (.ref x), .val (.ref s0), .val (.ref s1), .val .null] [(.ref x)]))
  refine own_go (fun _ kk_ => XS.aloadN X1.here hx rfl (hb hby d1_5) rfl rfl kk_) ?_
  show own_G p e below s _ _ _ (T1.setTop (mkF m 6 #[.val (.ref x), .val (.ref s0), .val (.ref s1), .val .null] [(.ref s0), (.ref x)]))
  obtain ⟨T2, h2, X2, e2, W2, st2⟩ := putF X1 hx hZ hown (host := "") (Or.inl (hw _ (List.mem_of_getElem? (i := 14) rfl))) Via.refl e1 F_0 E_x (Or.inr ⟨(hw _ (List.mem_of_getElem? (i := 15) rfl)), rfl, hnm⟩) (hw _ (List.mem_of_getElem? (i := 1) rfl)) (ty := (.object "java/lang/String")) (by decide) rfl rfl (g := (mkF m 6 #[.val (.ref x), .val (.ref s0), .val (.ref s1), .val .null] [(.ref s0), (.ref x)])) rfl rfl (hb hby d1_6)
  refine own_go st2 ?_
  have E2_x := E_x.wr W2
  have K2_ := K_0.wr W2 (Or.inl (List.mem_singleton.mpr rfl))
  have F2_x_vendor := F_0.same W2
  have F2_x_item := F_1.other W2 (Or.inr (slot_ne (Or.inr (hw _ (List.mem_of_getElem? (i := 17) rfl))) (Or.inr (hw _ (List.mem_of_getElem? (i := 15) rfl))) (by decide) (t := (.object "java/lang/String")) (t' := (.object "java/lang/String")) (by decide) (by decide)))
  have F2_x_itemGroup := F_2.other W2 (Or.inr (slot_ne (Or.inr (hw _ (List.mem_of_getElem? (i := 19) rfl))) (Or.inr (hw _ (List.mem_of_getElem? (i := 15) rfl))) (by decide) (t := (.object "java/lang/String")) (t' := (.object "java/lang/String")) (by decide) (by decide)))
  have Z2 : n0 ≤ h2.size := by rw [W2.size]; exact Z0
  have N2 := Fr.snoc X2 N1 g_x
  show own_G p e below s _ _ _ (T2.setTop (mkF m 9 #[.val (.ref x), .val (.ref s0), .val (.ref s1), .val .null] []))
  refine own_go (fun _ kk_ => XS.aloadN X2.here hx rfl (hb hby d1_9) rfl rfl kk_) ?_
  show own_G p e below s _ _ _ (T2.setTop (mkF m 10 #[.val (.ref x), .val (.ref s0), .val (.ref s1), .val .null] [(.ref x)]))
  refine own_go (fun _ kk_ => XS.aloadN X2.here hx rfl (hb hby d1_10) rfl rfl kk_) ?_
  show own_G p e below s _ _ _ (T2.setTop (mkF m 11 #[.val (.ref x), .val (.ref s0), .val (.ref s1), .val .null] [(.ref s1), (.ref x)]))
  obtain ⟨T3, h3, X3, e3, W3, st3⟩ := putF X2 hx hZ hown (host := "") (Or.inl (hw _ (List.mem_of_getElem? (i := 16) rfl))) Via.refl e2 F2_x_item E2_x (Or.inr ⟨(hw _ (List.mem_of_getElem? (i := 17) rfl)), rfl, hnm⟩) (hw _ (List.mem_of_getElem? (i := 1) rfl)) (ty := (.object "java/lang/String")) (by decide) rfl rfl (g := (mkF m 11 #[.val (.ref x), .val (.ref s0), .val (.ref s1), .val .null] [(.ref s1), (.ref x)])) rfl rfl (hb hby d1_11)
  refine own_go st3 ?_
  have E3_x := E2_x.wr W3
  have K3_ := K2_.wr W3 (Or.inl (List.mem_singleton.mpr rfl))
  have F3_x_vendor := F2_x_vendor.other W3 (Or.inr (slot_ne (Or.inr (hw _ (List.mem_of_getElem? (i := 15) rfl))) (Or.inr (hw _ (List.mem_of_getElem? (i := 17) rfl))) (by decide) (t := (.object "java/lang/String")) (t' := (.object "java/lang/String")) (by decide) (by decide)))
  have F3_x_item := F2_x_item.same W3
  have F3_x_itemGroup := F2_x_itemGroup.other W3 (Or.inr (slot_ne (Or.inr (hw _ (List.mem_of_getElem? (i := 19) rfl))) (Or.inr (hw _ (List.mem_of_getElem? (i := 17) rfl))) (by decide) (t := (.object "java/lang/String")) (t' := (.object "java/lang/String")) (by decide) (by decide)))
  have Z3 : n0 ≤ h3.size := by rw [W3.size]; exact Z2
  have N3 := Fr.snoc X3 N2 g_x
  show own_G p e below s _ _ _ (T3.setTop (mkF m 14 #[.val (.ref x), .val (.ref s0), .val (.ref s1), .val .null] []))
  refine own_go (fun _ kk_ => XS.aloadN X3.here hx rfl (hb hby d1_14) rfl rfl kk_) ?_
  show own_G p e below s _ _ _ (T3.setTop (mkF m 15 #[.val (.ref x), .val (.ref s0), .val (.ref s1), .val .null] [(.ref x)]))
  refine own_go (fun _ kk_ => XS.aloadN X3.here hx rfl (hb hby d1_15) rfl rfl kk_) ?_
  show own_G p e below s _ _ _ (T3.setTop (mkF m 16 #[.val (.ref x), .val (.ref s0), .val (.ref s1), .val .null] [.null, (.ref x)]))
  obtain ⟨T4, h4, X4, e4, W4, st4⟩ := putF X3 hx hZ hown (host := "") (Or.inl (hw _ (List.mem_of_getElem? (i := 18) rfl))) Via.refl e3 F3_x_itemGroup E3_x (Or.inr ⟨(hw _ (List.mem_of_getElem? (i := 19) rfl)), rfl, hnm⟩) (hw _ (List.mem_of_getElem? (i := 1) rfl)) (ty := (.object "java/lang/String")) (by decide) rfl rfl (g := (mkF m 16 #[.val (.ref x), .val (.ref s0), .val (.ref s1), .val .null] [.null, (.ref x)])) rfl rfl (hb hby d1_16)
  refine own_go st4 ?_
  have E4_x := E3_x.wr W4
  have K4_ := K3_.wr W4 (Or.inl (List.mem_singleton.mpr rfl))
  have F4_x_vendor := F3_x_vendor.other W4 (Or.inr (slot_ne (Or.inr (hw _ (List.mem_of_getElem? (i := 15) rfl))) (Or.inr (hw _ (List.mem_of_getElem? (i := 19) rfl))) (by decide) (t := (.object "java/lang/String")) (t' := (.object "java/lang/String")) (by decide) (by decide)))
  have F4_x_item := F3_x_item.other W4 (Or.inr (slot_ne (Or.inr (hw _ (List.mem_of_getElem? (i := 17) rfl))) (Or.inr (hw _ (List.mem_of_getElem? (i := 19) rfl))) (by decide) (t := (.object "java/lang/String")) (t' := (.object "java/lang/String")) (by decide) (by decide)))
  have F4_x_itemGroup := F3_x_itemGroup.same W4
  have Z4 : n0 ≤ h4.size := by rw [W4.size]; exact Z3
  have N4 := Fr.snoc X4 N3 g_x
  show own_G p e below s _ _ _ (T4.setTop (mkF m 19 #[.val (.ref x), .val (.ref s0), .val (.ref s1), .val .null] []))
  exact own_ret0 X4 hx Bd.returns (BodyLoose.notSynchronized Bd) (hb hby d1_19) e4 ⟨rfl, N4, K4_, E4_x, F4_x_vendor, F4_x_item, F4_x_itemGroup⟩ (by decide) (by decide)
theorem ef_rmP110 (m : MethodId) (x0 : Addr) : entryFrame m #[(.ref x0)] 1 = mkF m 0 #[.val (.ref x0)] [] := by first | (simp [entryFrame, mkF, argsToLocals, Value.category]; done) | rfl
def Q_rmP110 (Z : State) (x : Addr) (s0 s1 : Addr) (h0 : Heap) (n0 : Nat) : Option Value → Heap → List Loc → Prop := fun v h L => v = some (.int 3) ∧ Fr n0 L ∧ h = h0
set_option maxRecDepth 65536 in
set_option maxHeartbeats 40000000 in
theorem rmP110 (l : Launch) (Z : State) (a0 : Array Value) (hw : ∀ d ∈ tables_1, d.before a0 Z = true) (ws : List Jvm.Cond) (x : Addr) (s0 s1 : Addr) (h0 : Heap) (n0 : Nat) (Z0 : n0 ≤ h0.size) (F_0 : Fld Z h0 x "com/example/accordant/accordant/policy/Scope" "vendor" "Ljava/lang/String;" (.ref s0)) (F_1 : Fld Z h0 x "com/example/accordant/accordant/policy/Scope" "item" "Ljava/lang/String;" (.ref s1)) (F_2 : Fld Z h0 x "com/example/accordant/accordant/policy/Scope" "itemGroup" "Ljava/lang/String;" .null) :
    MetFree l (⟨"com/example/accordant/accordant/policy/Scope", "shape", "()I"⟩ : MethodName) (head1 (Jvm.Cond.code (⟨"com/example/accordant/accordant/policy/Scope", "shape", "()I"⟩ : MethodName) prog_47_method_2_code 1 (some .int) :: ws) ({ frames := 0, cells := 0, slots := 0, locals := 0 } : Room)) (fun as_ U => as_ = #[(.ref x)] ∧ Z.Warmed39 U.vm ∧ U.heap = h0) (fun _ _ _ _ _ => True) (fun _ U o U' => ∃ v L, o = .returned v ∧ (Q_rmP110 Z x s0 s1 h0 n0) v U'.heap L ∧ FrameEnd U o U' L ({ frames := 0, cells := 0, slots := 0, locals := 0 } : Room).cells ({ frames := 0, cells := 0, slots := 0, locals := 0 } : Room).slots) := by
  refine MetFree.of_bodySF (plainFor_of_name pn_3) hisR ?_
  intro p e s m args below meth c s₁ Bd hml0 hP hK
  obtain ⟨rfl, hZ, hh⟩ := hP
  have hx := Bd.exec
  have hby := Bd.bytes
  have hml : c.maxLocals = 1 := hml0
  have hown : s.vm.findClass "com/example/accordant/accordant/policy/Scope" = some m.cls := findClass_of_methodNamed Bd.named
  have hnm := (name_of_methodNamed Bd.named Bd.method).1
  have X0 : Stand p l e ({ frames := 0, cells := 0, slots := 0, locals := 0 } : Room) s m #[(.ref x)] below meth c s₁ [] 0 0 := Stand.of_body Bd
  have e0 : s₁.heap = h0 := by rw [← hh, Bd.state]; rfl
  have N0 := Fr.nil n0
  show own_G p e below s (Q_rmP110 Z x s0 s1 h0 n0) ({ frames := 0, cells := 0, slots := 0, locals := 0 } : Room).cells ({ frames := 0, cells := 0, slots := 0, locals := 0 } : Room).slots (s₁.setTop (entryFrame m #[(.ref x)] 1))
  rw [ef_rmP110 m x]
  show own_G p e below s _ _ _ (s₁.setTop (mkF m 0 #[.val (.ref x)] []))
  refine own_go (fun _ kk_ => XS.aloadN X0.here hx rfl (hb hby d4_0) rfl rfl kk_) ?_
  show own_G p e below s _ _ _ (s₁.setTop (mkF m 1 #[.val (.ref x)] [(.ref x)]))
  obtain ⟨T1, X1, e1, st1⟩ := getF X0 hx hZ hown (host := "") (Or.inl (hw _ (List.mem_of_getElem? (i := 14) rfl))) Via.refl e0 F_0 (g := (mkF m 1 #[.val (.ref x)] [(.ref x)])) rfl rfl (hb hby d4_1)
  refine own_go st1 ?_
  show own_G p e below s _ _ _ (T1.setTop (mkF m 4 #[.val (.ref x)] [(.ref s0)]))
  refine own_go (fun _ kk_ => XT.ifnonnullYes X1.here hx rfl (pc0 := 4) (pc' := 11) rfl (hb hby d4_4) rfl (by decide) (by decide) kk_) ?_
  show own_G p e below s _ _ _ (T1.setTop (mkF m 11 #[.val (.ref x)] []))
  refine own_go (fun _ kk_ => XS.iconst X1.here hx rfl (hb hby d4_11) kk_) ?_
  show own_G p e below s _ _ _ (T1.setTop (mkF m 12 #[.val (.ref x)] [(.int (1 : Int32))]))
  refine own_go (fun _ kk_ => XS.aloadN X1.here hx rfl (hb hby d4_12) rfl rfl kk_) ?_
  show own_G p e below s _ _ _ (T1.setTop (mkF m 13 #[.val (.ref x)] [(.ref x), (.int (1 : Int32))]))
  obtain ⟨T2, X2, e2, st2⟩ := getF X1 hx hZ hown (host := "") (Or.inl (hw _ (List.mem_of_getElem? (i := 16) rfl))) Via.refl e1 F_1 (g := (mkF m 13 #[.val (.ref x)] [(.ref x), (.int (1 : Int32))])) rfl rfl (hb hby d4_13)
  refine own_go st2 ?_
  show own_G p e below s _ _ _ (T2.setTop (mkF m 16 #[.val (.ref x)] [(.ref s1), (.int (1 : Int32))]))
  refine own_go (fun _ kk_ => XT.ifnonnullYes X2.here hx rfl (pc0 := 16) (pc' := 23) rfl (hb hby d4_16) rfl (by decide) (by decide) kk_) ?_
  show own_G p e below s _ _ _ (T2.setTop (mkF m 23 #[.val (.ref x)] [(.int (1 : Int32))]))
  refine own_go (fun _ kk_ => XS.iconst X2.here hx rfl (hb hby d4_23) kk_) ?_
  show own_G p e below s _ _ _ (T2.setTop (mkF m 24 #[.val (.ref x)] [(.int (2 : Int32)), (.int (1 : Int32))]))
  refine own_go (fun _ kk_ => XS.iadd X2.here hx rfl (hb hby d4_24) rfl kk_) ?_
  show own_G p e below s _ _ _ (T2.setTop (mkF m 25 #[.val (.ref x)] [(.int (3 : Int32))]))
  refine own_go (fun _ kk_ => XS.aloadN X2.here hx rfl (hb hby d4_25) rfl rfl kk_) ?_
  show own_G p e below s _ _ _ (T2.setTop (mkF m 26 #[.val (.ref x)] [(.ref x), (.int (3 : Int32))]))
  obtain ⟨T3, X3, e3, st3⟩ := getF X2 hx hZ hown (host := "") (Or.inl (hw _ (List.mem_of_getElem? (i := 18) rfl))) Via.refl e2 F_2 (g := (mkF m 26 #[.val (.ref x)] [(.ref x), (.int (3 : Int32))])) rfl rfl (hb hby d4_26)
  refine own_go st3 ?_
  show own_G p e below s _ _ _ (T3.setTop (mkF m 29 #[.val (.ref x)] [.null, (.int (3 : Int32))]))
  refine own_go (fun _ kk_ => XT.ifnonnullNo X3.here hx rfl (hb hby d4_29) rfl kk_) ?_
  show own_G p e below s _ _ _ (T3.setTop (mkF m 32 #[.val (.ref x)] [(.int (3 : Int32))]))
  refine own_go (fun _ kk_ => XS.iconst X3.here hx rfl (hb hby d4_32) kk_) ?_
  show own_G p e below s _ _ _ (T3.setTop (mkF m 33 #[.val (.ref x)] [(.int (0 : Int32)), (.int (3 : Int32))]))
  refine own_go (fun _ kk_ => XS.goto X3.here hx rfl (pc0 := 33) (pc' := 37) rfl (hb hby d4_33) (by decide) (by decide) kk_) ?_
  show own_G p e below s _ _ _ (T3.setTop (mkF m 37 #[.val (.ref x)] [(.int (0 : Int32)), (.int (3 : Int32))]))
  refine own_go (fun _ kk_ => XS.iadd X3.here hx rfl (hb hby d4_37) rfl kk_) ?_
  show own_G p e below s _ _ _ (T3.setTop (mkF m 38 #[.val (.ref x)] [(.int (3 : Int32))]))
  exact own_retI X3 hx Bd.returns (BodyLoose.notSynchronized Bd) (hb hby d4_38) e3 ⟨rfl, N0, rfl⟩ (by decide) (by decide)
theorem ef_rmI111 (m : MethodId) (x0 : Addr) (x1 : Addr) (x2 : Addr) (x3 : Addr) : entryFrame m #[(.ref x0), (.ref x1), (.ref x2), (.ref x3)] 4 = mkF m 0 #[.val (.ref x0), .val (.ref x1), .val (.ref x2), .val (.ref x3)] [] := by first | (simp [entryFrame, mkF, argsToLocals, Value.category]; done) | rfl
def Q_rmI111 (Z : State) (x : Addr) (s0 s1 s2 : Addr) (h0 : Heap) (n0 : Nat) : Option Value → Heap → List Loc → Prop := fun v h L => v = none ∧ Fr n0 L ∧ Keep h0 h [x] ∧ Exa Z h x "com/example/accordant/accordant/policy/Scope" ∧ Fld Z h x "com/example/accordant/accordant/policy/Scope" "vendor" "Ljava/lang/String;" (.ref s0) ∧ Fld Z h x "com/example/accordant/accordant/policy/Scope" "item" "Ljava/lang/String;" (.ref s1) ∧ Fld Z h x "com/example/accordant/accordant/policy/Scope" "itemGroup" "Ljava/lang/String;" (.ref s2)
set_option maxRecDepth 65536 in
set_option maxHeartbeats 40000000 in
theorem rmI111 (l : Launch) (Z : State) (a0 : Array Value) (hw : ∀ d ∈ tables_1, d.before a0 Z = true) (ws : List Jvm.Cond) (x : Addr) (s0 s1 s2 : Addr) (h0 : Heap) (n0 : Nat) (Z0 : n0 ≤ h0.size) (E_x : Exa Z h0 x "com/example/accordant/accordant/policy/Scope") (g_x : n0 ≤ x) (F_0 : Fld Z h0 x "com/example/accordant/accordant/policy/Scope" "vendor" "Ljava/lang/String;" .null) (F_1 : Fld Z h0 x "com/example/accordant/accordant/policy/Scope" "item" "Ljava/lang/String;" .null) (F_2 : Fld Z h0 x "com/example/accordant/accordant/policy/Scope" "itemGroup" "Ljava/lang/String;" .null) :
    MetFree l (⟨"com/example/accordant/accordant/policy/Scope", "<init>", "(Ljava/lang/String;Ljava/lang/String;Ljava/lang/String;)V"⟩ : MethodName) (head1 (Jvm.Cond.code (⟨"com/example/accordant/accordant/policy/Scope", "<init>", "(Ljava/lang/String;Ljava/lang/String;Ljava/lang/String;)V"⟩ : MethodName) prog_47_method_1_code 4 none :: ws) ({ frames := 2, cells := 0, slots := 0, locals := 24 } : Room)) (fun as_ U => as_ = #[(.ref x), (.ref s0), (.ref s1), (.ref s2)] ∧ Z.Warmed39 U.vm ∧ U.heap = h0) (fun _ _ _ _ _ => True) (fun _ U o U' => ∃ v L, o = .returned v ∧ (Q_rmI111 Z x s0 s1 s2 h0 n0) v U'.heap L ∧ FrameEnd U o U' L ({ frames := 2, cells := 0, slots := 0, locals := 24 } : Room).cells ({ frames := 2, cells := 0, slots := 0, locals := 24 } : Room).slots) := by
  refine MetFree.of_bodySF (plainFor_of_name pn_3) hisR ?_
  intro p e s m args below meth c s₁ Bd hml0 hP hK
  obtain ⟨rfl, hZ, hh⟩ := hP
  have hx := Bd.exec
  have hby := Bd.bytes
  have hml : c.maxLocals = 4 := hml0
  have hown : s.vm.findClass "com/example/accordant/accordant/policy/Scope" = some m.cls := findClass_of_methodNamed Bd.named
  have hnm := (name_of_methodNamed Bd.named Bd.method).1
  have X0 : Stand p l e ({ frames := 2, cells := 0, slots := 0, locals := 24 } : Room) s m #[(.ref x), (.ref s0), (.ref s1), (.ref s2)] below meth c s₁ [] 0 0 := Stand.of_body Bd
  have e0 : s₁.heap = h0 := by rw [← hh, Bd.state]; rfl
  have N0 := Fr.nil n0
  show own_G p e below s (Q_rmI111 Z x s0 s1 s2 h0 n0) ({ frames := 2, cells := 0, slots := 0, locals := 24 } : Room).cells ({ frames := 2, cells := 0, slots := 0, locals := 24 } : Room).slots (s₁.setTop (entryFrame m #[(.ref x), (.ref s0), (.ref s1), (.ref s2)] 4))
  rw [ef_rmI111 m x s0 s1 s2]
  have K_0 := Keep.refl h0 [x]
  show own_G p e below s _ _ _ (s₁.setTop (mkF m 0 #[.val (.ref x), .val (.ref s0), .val (.ref s1), .val (.ref s2)] []))
  refine own_go (fun _ kk_ => XS.aloadN X0.here hx rfl (hb hby d1_0) rfl rfl kk_) ?_
  show own_G p e below s _ _ _ (s₁.setTop (mkF m 1 #[.val (.ref x), .val (.ref s0), .val (.ref s1), .val (.ref s2)] [(.ref x)]))
  obtain ⟨_, _, ⟨T1, L1, k1, n1⟩, -, X1, ⟨Lc1, hQ1, l1, y1, z1⟩, st1⟩ := X0.specialBack hx (y := (⟨"java/lang/Record", "<init>", "()V"⟩ : MethodName)) rfl hown (mvT hZ (hw _ (List.mem_of_getElem? (i := 6) rfl))) (mvT hZ (hw _ (List.mem_of_getElem? (i := 7) rfl))) (mvT hZ (hw _ (List.mem_of_getElem? (i := 10) rfl))) (by decide) (backOf (W := 0) (rmRec l Z a0 hw [] x h0 n0 Z0) hZ (hw _ (List.mem_of_getElem? (i := 10) rfl)) (hw _ (List.mem_of_getElem? (i := 9) rfl)) (by decide) (by decide)) (g := (mkF m 1 #[.val (.ref x), .val (.ref s0), .val (.ref s1), .val (.ref s2)] [(.ref x)])) rfl (by rw [hml]; rfl) (Steps.refl _) (a := x) (argsL := []) (rest := []) (lenOf pd_2 rfl) rfl (by show 2 * 0 + _ ≤ _; exact Nat.le_of_eq rfl) (hb hby d1_1) (fun _ _ => ⟨rfl, e0, (by decide : 0 + 0 ≤ _), (by decide : 0 + 0 ≤ _)⟩)
  dsimp only [Pt.U, Pt.locs, Pt.cells, Pt.slots] at X1 l1 y1 z1 st1 hQ1
  subst l1 y1 z1
  obtain ⟨rfl, N1q, e1⟩ := hQ1
  have N1 := Fr.app N0 N1q
  refine own_go (fun _ kk_ => st1.trans kk_) ?_
  show own_G p e below s _ _ _ (T1.setTop (mkF m 4 #[.val (.ref x), .val (.ref s0), .val (.ref s1), .val (.ref s2)] []))
  refine own_go (fun _ kk_ => XS.aloadN X1.here hx rfl (hb hby d1_4) rfl rfl kk_) ?_
  show own_G p e below s _ _ _ (T1.setTop (mkF m 5 #[.val (.ref x), .val (.ref s0), .val (.ref s1), .val (.ref s2)] [(.ref x)]))
  refine own_go (fun _ kk_ => XS.aloadN X1.here hx rfl (hb hby d1_5) rfl rfl kk_) ?_
  show own_G p e below s _ _ _ (T1.setTop (mkF m 6 #[.val (.ref x), .val (.ref s0), .val (.ref s1), .val (.ref s2)] [(.ref s0), (.ref x)]))
  obtain ⟨T2, h2, X2, e2, W2, st2⟩ := putF X1 hx hZ hown (host := "") (Or.inl (hw _ (List.mem_of_getElem? (i := 14) rfl))) Via.refl e1 F_0 E_x (Or.inr ⟨(hw _ (List.mem_of_getElem? (i := 15) rfl)), rfl, hnm⟩) (hw _ (List.mem_of_getElem? (i := 1) rfl)) (ty := (.object "java/lang/String")) (by decide) rfl rfl (g := (mkF m 6 #[.val (.ref x), .val (.ref s0), .val (.ref s1), .val (.ref s2)] [(.ref s0), (.ref x)])) rfl rfl (hb hby d1_6)
  refine own_go st2 ?_
  have E2_x := E_x.wr W2
  have K2_ := K_0.wr W2 (Or.inl (List.mem_singleton.mpr rfl))
  have F2_x_vendor := F_0.same W2
  have F2_x_item := F_1.other W2 (Or.inr (slot_ne (Or.inr (hw _ (List.mem_of_getElem? (i := 17) rfl))) (Or.inr (hw _ (List.mem_of_getElem? (i := 15) rfl))) (by decide) (t := (.object "java/lang/String")) (t' := (.object "java/lang/String")) (by decide) (by decide)))
  have F2_x_itemGroup := F_2.other W2 (Or.inr (slot_ne (Or.inr (hw _ (List.mem_of_getElem? (i := 19) rfl))) (Or.inr (hw _ (List.mem_of_getElem? (i := 15) rfl))) (by decide) (t := (.object "java/lang/String")) (t' := (.object "java/lang/String")) (by decide) (by decide)))
  have Z2 : n0 ≤ h2.size := by rw [W2.size]; exact Z0
  have N2 := Fr.snoc X2 N1 g_x
  show own_G p e below s _ _ _ (T2.setTop (mkF m 9 #[.val (.ref x), .val (.ref s0), .val (.ref s1), .val (.ref s2)] []))
  refine own_go (fun _ kk_ => XS.aloadN X2.here hx rfl (hb hby d1_9) rfl rfl kk_) ?_
  show own_G p e below s _ _ _ (T2.setTop (mkF m 10 #[.val (.ref x), .val (.ref s0), .val (.ref s1), .val (.ref s2)] [(.ref x)]))
  refine own_go (fun _ kk_ => XS.aloadN X2.here hx rfl (hb hby d1_10) rfl rfl kk_) ?_
  show own_G p e below s _ _ _ (T2.setTop (mkF m 11 #[.val (.ref x), .val (.ref s0), .val (.ref s1), .val (.ref s2)] [(.ref s1), (.ref x)]))
  obtain ⟨T3, h3, X3, e3, W3, st3⟩ := putF X2 hx hZ hown (host := "") (Or.inl (hw _ (List.mem_of_getElem? (i := 16) rfl))) Via.refl e2 F2_x_item E2_x (Or.inr ⟨(hw _ (List.mem_of_getElem? (i := 17) rfl)), rfl, hnm⟩) (hw _ (List.mem_of_getElem? (i := 1) rfl)) (ty := (.object "java/lang/String")) (by decide) rfl rfl (g := (mkF m 11 #[.val (.ref x), .val (.ref s0), .val (.ref s1), .val (.ref s2)] [(.ref s1), (.ref x)])) rfl rfl (hb hby d1_11)
  refine own_go st3 ?_
  have E3_x := E2_x.wr W3
  have K3_ := K2_.wr W3 (Or.inl (List.mem_singleton.mpr rfl))
  have F3_x_vendor := F2_x_vendor.other W3 (Or.inr (slot_ne (Or.inr (hw _ (List.mem_of_getElem? (i := 15) rfl))) (Or.inr (hw _ (List.mem_of_getElem? (i := 17) rfl))) (by decide) (t := (.object "java/lang/String")) (t' := (.object "java/lang/String")) (by decide) (by decide)))
  have F3_x_item := F2_x_item.same W3
  have F3_x_itemGroup := F2_x_itemGroup.other W3 (Or.inr (slot_ne (Or.inr (hw _ (List.mem_of_getElem? (i := 19) rfl))) (Or.inr (hw _ (List.mem_of_getElem? (i := 17) rfl))) (by decide) (t := (.object "java/lang/String")) (t' := (.object "java/lang/String")) (by decide) (by decide)))
  have Z3 : n0 ≤ h3.size := by rw [W3.size]; exact Z2
  have N3 := Fr.snoc X3 N2 g_x
  show own_G p e below s _ _ _ (T3.setTop (mkF m 14 #[.val (.ref x), .val (.ref s0), .val (.ref s1), .val (.ref s2)] []))
  refine own_go (fun _ kk_ => XS.aloadN X3.here hx rfl (hb hby d1_14) rfl rfl kk_) ?_
  show own_G p e below s _ _ _ (T3.setTop (mkF m 15 #[.val (.ref x), .val (.ref s0), .val (.ref s1), .val (.ref s2)] [(.ref x)]))
  refine own_go (fun _ kk_ => XS.aloadN X3.here hx rfl (hb hby d1_15) rfl rfl kk_) ?_
  show own_G p e below s _ _ _ (T3.setTop (mkF m 16 #[.val (.ref x), .val (.ref s0), .val (.ref s1), .val (.ref s2)] [(.ref s2), (.ref x)]))
  obtain ⟨T4, h4, X4, e4, W4, st4⟩ := putF X3 hx hZ hown (host := "") (Or.inl (hw _ (List.mem_of_getElem? (i := 18) rfl))) Via.refl e3 F3_x_itemGroup E3_x (Or.inr ⟨(hw _ (List.mem_of_getElem? (i := 19) rfl)), rfl, hnm⟩) (hw _ (List.mem_of_getElem? (i := 1) rfl)) (ty := (.object "java/lang/String")) (by decide) rfl rfl (g := (mkF m 16 #[.val (.ref x), .val (.ref s0), .val (.ref s1), .val (.ref s2)] [(.ref s2), (.ref x)])) rfl rfl (hb hby d1_16)
  refine own_go st4 ?_
  have E4_x := E3_x.wr W4
  have K4_ := K3_.wr W4 (Or.inl (List.mem_singleton.mpr rfl))
  have F4_x_vendor := F3_x_vendor.other W4 (Or.inr (slot_ne (Or.inr (hw _ (List.mem_of_getElem? (i := 15) rfl))) (Or.inr (hw _ (List.mem_of_getElem? (i := 19) rfl))) (by decide) (t := (.object "java/lang/String")) (t' := (.object "java/lang/String")) (by decide) (by decide)))
  have F4_x_item := F3_x_item.other W4 (Or.inr (slot_ne (Or.inr (hw _ (List.mem_of_getElem? (i := 17) rfl))) (Or.inr (hw _ (List.mem_of_getElem? (i := 19) rfl))) (by decide) (t := (.object "java/lang/String")) (t' := (.object "java/lang/String")) (by decide) (by decide)))
  have F4_x_itemGroup := F3_x_itemGroup.same W4
  have Z4 : n0 ≤ h4.size := by rw [W4.size]; exact Z3
  have N4 := Fr.snoc X4 N3 g_x
  show own_G p e below s _ _ _ (T4.setTop (mkF m 19 #[.val (.ref x), .val (.ref s0), .val (.ref s1), .val (.ref s2)] []))
  exact own_ret0 X4 hx Bd.returns (BodyLoose.notSynchronized Bd) (hb hby d1_19) e4 ⟨rfl, N4, K4_, E4_x, F4_x_vendor, F4_x_item, F4_x_itemGroup⟩ (by decide) (by decide)
theorem ef_rmP111 (m : MethodId) (x0 : Addr) : entryFrame m #[(.ref x0)] 1 = mkF m 0 #[.val (.ref x0)] [] := by first | (simp [entryFrame, mkF, argsToLocals, Value.category]; done) | rfl
def Q_rmP111 (Z : State) (x : Addr) (s0 s1 s2 : Addr) (h0 : Heap) (n0 : Nat) : Option Value → Heap → List Loc → Prop := fun v h L => v = some (.int 7) ∧ Fr n0 L ∧ h = h0
set_option maxRecDepth 65536 in
set_option maxHeartbeats 40000000 in
theorem rmP111 (l : Launch) (Z : State) (a0 : Array Value) (hw : ∀ d ∈ tables_1, d.before a0 Z = true) (ws : List Jvm.Cond) (x : Addr) (s0 s1 s2 : Addr) (h0 : Heap) (n0 : Nat) (Z0 : n0 ≤ h0.size) (F_0 : Fld Z h0 x "com/example/accordant/accordant/policy/Scope" "vendor" "Ljava/lang/String;" (.ref s0)) (F_1 : Fld Z h0 x "com/example/accordant/accordant/policy/Scope" "item" "Ljava/lang/String;" (.ref s1)) (F_2 : Fld Z h0 x "com/example/accordant/accordant/policy/Scope" "itemGroup" "Ljava/lang/String;" (.ref s2)) :
    MetFree l (⟨"com/example/accordant/accordant/policy/Scope", "shape", "()I"⟩ : MethodName) (head1 (Jvm.Cond.code (⟨"com/example/accordant/accordant/policy/Scope", "shape", "()I"⟩ : MethodName) prog_47_method_2_code 1 (some .int) :: ws) ({ frames := 0, cells := 0, slots := 0, locals := 0 } : Room)) (fun as_ U => as_ = #[(.ref x)] ∧ Z.Warmed39 U.vm ∧ U.heap = h0) (fun _ _ _ _ _ => True) (fun _ U o U' => ∃ v L, o = .returned v ∧ (Q_rmP111 Z x s0 s1 s2 h0 n0) v U'.heap L ∧ FrameEnd U o U' L ({ frames := 0, cells := 0, slots := 0, locals := 0 } : Room).cells ({ frames := 0, cells := 0, slots := 0, locals := 0 } : Room).slots) := by
  refine MetFree.of_bodySF (plainFor_of_name pn_3) hisR ?_
  intro p e s m args below meth c s₁ Bd hml0 hP hK
  obtain ⟨rfl, hZ, hh⟩ := hP
  have hx := Bd.exec
  have hby := Bd.bytes
  have hml : c.maxLocals = 1 := hml0
  have hown : s.vm.findClass "com/example/accordant/accordant/policy/Scope" = some m.cls := findClass_of_methodNamed Bd.named
  have hnm := (name_of_methodNamed Bd.named Bd.method).1
  have X0 : Stand p l e ({ frames := 0, cells := 0, slots := 0, locals := 0 } : Room) s m #[(.ref x)] below meth c s₁ [] 0 0 := Stand.of_body Bd
  have e0 : s₁.heap = h0 := by rw [← hh, Bd.state]; rfl
  have N0 := Fr.nil n0
  show own_G p e below s (Q_rmP111 Z x s0 s1 s2 h0 n0) ({ frames := 0, cells := 0, slots := 0, locals := 0 } : Room).cells ({ frames := 0, cells := 0, slots := 0, locals := 0 } : Room).slots (s₁.setTop (entryFrame m #[(.ref x)] 1))
  rw [ef_rmP111 m x]
  show own_G p e below s _ _ _ (s₁.setTop (mkF m 0 #[.val (.ref x)] []))
  refine own_go (fun _ kk_ => XS.aloadN X0.here hx rfl (hb hby d4_0) rfl rfl kk_) ?_
  show own_G p e below s _ _ _ (s₁.setTop (mkF m 1 #[.val (.ref x)] [(.ref x)]))
  obtain ⟨T1, X1, e1, st1⟩ := getF X0 hx hZ hown (host := "") (Or.inl (hw _ (List.mem_of_getElem? (i := 14) rfl))) Via.refl e0 F_0 (g := (mkF m 1 #[.val (.ref x)] [(.ref x)])) rfl rfl (hb hby d4_1)
  refine own_go st1 ?_
  show own_G p e below s _ _ _ (T1.setTop (mkF m 4 #[.val (.ref x)] [(.ref s0)]))
  refine own_go (fun _ kk_ => XT.ifnonnullYes X1.here hx rfl (pc0 := 4) (pc' := 11) rfl (hb hby d4_4) rfl (by decide) (by decide) kk_) ?_
  show own_G p e below s _ _ _ (T1.setTop (mkF m 11 #[.val (.ref x)] []))
  refine own_go (fun _ kk_ => XS.iconst X1.here hx rfl (hb hby d4_11) kk_) ?_
  show own_G p e below s _ _ _ (T1.setTop (mkF m 12 #[.val (.ref x)] [(.int (1 : Int32))]))
  refine own_go (fun _ kk_ => XS.aloadN X1.here hx rfl (hb hby d4_12) rfl rfl kk_) ?_
  show own_G p e below s _ _ _ (T1.setTop (mkF m 13 #[.val (.ref x)] [(.ref x), (.int (1 : Int32))]))
  obtain ⟨T2, X2, e2, st2⟩ := getF X1 hx hZ hown (host := "") (Or.inl (hw _ (List.mem_of_getElem? (i := 16) rfl))) Via.refl e1 F_1 (g := (mkF m 13 #[.val (.ref x)] [(.ref x), (.int (1 : Int32))])) rfl rfl (hb hby d4_13)
  refine own_go st2 ?_
  show own_G p e below s _ _ _ (T2.setTop (mkF m 16 #[.val (.ref x)] [(.ref s1), (.int (1 : Int32))]))
  refine own_go (fun _ kk_ => XT.ifnonnullYes X2.here hx rfl (pc0 := 16) (pc' := 23) rfl (hb hby d4_16) rfl (by decide) (by decide) kk_) ?_
  show own_G p e below s _ _ _ (T2.setTop (mkF m 23 #[.val (.ref x)] [(.int (1 : Int32))]))
  refine own_go (fun _ kk_ => XS.iconst X2.here hx rfl (hb hby d4_23) kk_) ?_
  show own_G p e below s _ _ _ (T2.setTop (mkF m 24 #[.val (.ref x)] [(.int (2 : Int32)), (.int (1 : Int32))]))
  refine own_go (fun _ kk_ => XS.iadd X2.here hx rfl (hb hby d4_24) rfl kk_) ?_
  show own_G p e below s _ _ _ (T2.setTop (mkF m 25 #[.val (.ref x)] [(.int (3 : Int32))]))
  refine own_go (fun _ kk_ => XS.aloadN X2.here hx rfl (hb hby d4_25) rfl rfl kk_) ?_
  show own_G p e below s _ _ _ (T2.setTop (mkF m 26 #[.val (.ref x)] [(.ref x), (.int (3 : Int32))]))
  obtain ⟨T3, X3, e3, st3⟩ := getF X2 hx hZ hown (host := "") (Or.inl (hw _ (List.mem_of_getElem? (i := 18) rfl))) Via.refl e2 F_2 (g := (mkF m 26 #[.val (.ref x)] [(.ref x), (.int (3 : Int32))])) rfl rfl (hb hby d4_26)
  refine own_go st3 ?_
  show own_G p e below s _ _ _ (T3.setTop (mkF m 29 #[.val (.ref x)] [(.ref s2), (.int (3 : Int32))]))
  refine own_go (fun _ kk_ => XT.ifnonnullYes X3.here hx rfl (pc0 := 29) (pc' := 36) rfl (hb hby d4_29) rfl (by decide) (by decide) kk_) ?_
  show own_G p e below s _ _ _ (T3.setTop (mkF m 36 #[.val (.ref x)] [(.int (3 : Int32))]))
  refine own_go (fun _ kk_ => XS.iconst X3.here hx rfl (hb hby d4_36) kk_) ?_
  show own_G p e below s _ _ _ (T3.setTop (mkF m 37 #[.val (.ref x)] [(.int (4 : Int32)), (.int (3 : Int32))]))
  refine own_go (fun _ kk_ => XS.iadd X3.here hx rfl (hb hby d4_37) rfl kk_) ?_
  show own_G p e below s _ _ _ (T3.setTop (mkF m 38 #[.val (.ref x)] [(.int (7 : Int32))]))
  exact own_retI X3 hx Bd.returns (BodyLoose.notSynchronized Bd) (hb hby d4_38) e3 ⟨rfl, N0, rfl⟩ (by decide) (by decide)
theorem pd_4 : parseMethodDescriptor "()I" = some ⟨[], some .int⟩ := by decide +kernel
theorem pd_5 : parseMethodDescriptor "(I)Ljava/lang/String;" = some ⟨[.int], some (.object "java/lang/String")⟩ := by decide +kernel
theorem pd_3 : parseMethodDescriptor "(Ljava/lang/String;Ljava/lang/String;Ljava/lang/String;)V" = some ⟨[(.object "java/lang/String"), (.object "java/lang/String"), (.object "java/lang/String")], none⟩ := by decide +kernel
theorem ef_rm0 (m : MethodId) (x0 : Int32) (x1 : Int32) (x2 : Int32) (x3 : Int32) : entryFrame m #[(.int x0), (.int x1), (.int x2), (.int x3)] maxLocals = mkF m 0 #[.val (.int x0), .val (.int x1), .val (.int x2), .val (.int x3), .unset, .unset, .unset, .unset, .unset, .unset] [] := by first | (simp [entryFrame, mkF, argsToLocals, Value.category, maxLocals]; done) | rfl
def Q_rm0 (Z : State) (x0 x1 x2 x3 : Int32) (zc : Int32) (h0 : Heap) (n0 : Nat) : Option Value → Heap → List Loc → Prop := fun v h L => v = some (.int 1) ∧ Fr n0 L
set_option maxRecDepth 65536 in
set_option maxHeartbeats 40000000 in
theorem rm0 (l : Launch) (Z : State) (a0 : Array Value) (hw : ∀ d ∈ tables_1, d.before a0 Z = true) (ws : List Jvm.Cond) (x0 x1 x2 x3 : Int32) (zc : Int32) (h0 : Heap) (n0 : Nat) (Z0 : n0 ≤ h0.size) (O_0 : Old Z n0 h0) (O2 : Sta Z Z.heap "java/lang/String" "COMPACT_STRINGS" "Z" (.int zc)) (hz : ¬ zc = 0) :
    MetFree l x (head1 (Jvm.Cond.code x code maxLocals ret :: ws) room_1) (fun as_ U => as_ = #[(.int x0), (.int x1), (.int x2), (.int x3)] ∧ Z.Warmed39 U.vm ∧ U.heap = h0 ∧ CHv Z own_EL U.vm h0) (fun _ _ _ _ _ => True) (fun _ U o U' => ∃ v L, o = .returned v ∧ (Q_rm0 Z x0 x1 x2 x3 zc h0 n0) v U'.heap L ∧ CHr Z own_EL U.vm U.heap U'.vm U'.heap ∧ ReturnedEndW U o U' L 32 1152) := by
  refine MetFree.of_bodySF (plainFor_of_name pn_1) hisR ?_
  intro p e s m args below meth c s₁ Bd hml0 hP hK
  obtain ⟨rfl, hZ, hh, hC⟩ := hP
  have hZ : Z.Warmed39 (s.setVm s.vm).vm := hZ
  have I0 : own_I s Z own_EL s.vm h0 := by subst hh; exact own_I.start hC
  have hEL := own_hEL hw
  have wS := own_wS hw
  have hx := Bd.exec
  have hby := Bd.bytes
  have hml : c.maxLocals = 10 := hml0
  have hown : (s.setVm s.vm).vm.findClass "com/example/accordant/accordant/policy/ScopeShapePinLaw" = some m.cls := findClass_of_methodNamed Bd.named
  have hnm := (name_of_methodNamed Bd.named Bd.method).1
  have X0 : Stand p l e room_1 (s.setVm s.vm) m #[(.int x0), (.int x1), (.int x2), (.int x3)] below meth c s₁ [] 0 0 := Stand.of_body Bd
  have e0 : s₁.heap = h0 := by rw [← hh, Bd.state]; rfl
  have N0 := Fr.nil n0
  show own_W p e below s Z own_EL (Q_rm0 Z x0 x1 x2 x3 zc h0 n0) 32 1152 (s₁.setTop (entryFrame m #[(.int x0), (.int x1), (.int x2), (.int x3)] maxLocals))
  rw [ef_rm0 m x0 x1 x2 x3]
  show own_W p e below s Z own_EL _ _ _ (s₁.setTop (mkF m 0 #[.val (.int x0), .val (.int x1), .val (.int x2), .val (.int x3), .unset, .unset, .unset, .unset, .unset, .unset] []))
  refine wwn_go (fun _ kk_ => XS.iloadN X0.here hx rfl (hb hby at_0) rfl kk_) ?_
  show own_W p e below s Z own_EL _ _ _ (s₁.setTop (mkF m 1 #[.val (.int x0), .val (.int x1), .val (.int x2), .val (.int x3), .unset, .unset, .unset, .unset, .unset, .unset] [(.int x0)]))
  refine wwn_go (fun _ kk_ => XS.bipush X0.here hx rfl (hb hby at_1) kk_) ?_
  show own_W p e below s Z own_EL _ _ _ (s₁.setTop (mkF m 3 #[.val (.int x0), .val (.int x1), .val (.int x2), .val (.int x3), .unset, .unset, .unset, .unset, .unset, .unset] [(.int (7 : Int32)), (.int x0)]))
  refine wwn_go (fun _ kk_ => XS.iand X0.here hx rfl (hb hby at_3) rfl kk_) ?_
  show own_W p e below s Z own_EL _ _ _ (s₁.setTop (mkF m 4 #[.val (.int x0), .val (.int x1), .val (.int x2), .val (.int x3), .unset, .unset, .unset, .unset, .unset, .unset] [(.int (x0 &&& (7 : Int32)))]))
  refine wwn_go (fun _ kk_ => XS.istore X0.here hx rfl (hb hby at_4) rfl (l' := #[.val (.int x0), .val (.int x1), .val (.int x2), .val (.int x3), .val (.int (x0 &&& (7 : Int32))), .unset, .unset, .unset, .unset, .unset]) rfl kk_) ?_
  show own_W p e below s Z own_EL _ _ _ (s₁.setTop (mkF m 6 #[.val (.int x0), .val (.int x1), .val (.int x2), .val (.int x3), .val (.int (x0 &&& (7 : Int32))), .unset, .unset, .unset, .unset, .unset] []))
  refine wwn_go (fun _ kk_ => XS.iload X0.here hx rfl (hb hby at_6) rfl kk_) ?_
  show own_W p e below s Z own_EL _ _ _ (s₁.setTop (mkF m 8 #[.val (.int x0), .val (.int x1), .val (.int x2), .val (.int x3), .val (.int (x0 &&& (7 : Int32))), .unset, .unset, .unset, .unset, .unset] [(.int (x0 &&& (7 : Int32)))]))
  refine wwn_go (fun _ kk_ => XS.iconst X0.here hx rfl (hb hby at_8) kk_) ?_
  show own_W p e below s Z own_EL _ _ _ (s₁.setTop (mkF m 9 #[.val (.int x0), .val (.int x1), .val (.int x2), .val (.int x3), .val (.int (x0 &&& (7 : Int32))), .unset, .unset, .unset, .unset, .unset] [(.int (1 : Int32)), (.int (x0 &&& (7 : Int32)))]))
  refine wwn_go (fun _ kk_ => XS.iand X0.here hx rfl (hb hby at_9) rfl kk_) ?_
  show own_W p e below s Z own_EL _ _ _ (s₁.setTop (mkF m 10 #[.val (.int x0), .val (.int x1), .val (.int x2), .val (.int x3), .val (.int (x0 &&& (7 : Int32))), .unset, .unset, .unset, .unset, .unset] [(.int ((x0 &&& (7 : Int32)) &&& (1 : Int32)))]))
  refine wwn_if_eq X0 hx (pc := 10) (pc' := 20) (hb hby at_10) (by decide) (by decide) (fun hc10 => ?_) (fun hc10 => ?_)
  · show own_W p e below s Z own_EL _ _ _ (s₁.setTop (mkF m 20 #[.val (.int x0), .val (.int x1), .val (.int x2), .val (.int x3), .val (.int (x0 &&& (7 : Int32))), .unset, .unset, .unset, .unset, .unset] []))
    refine wwn_go (fun _ kk_ => XS.aconstNull X0.here hx rfl (hb hby at_20) kk_) ?_
    show own_W p e below s Z own_EL _ _ _ (s₁.setTop (mkF m 21 #[.val (.int x0), .val (.int x1), .val (.int x2), .val (.int x3), .val (.int (x0 &&& (7 : Int32))), .unset, .unset, .unset, .unset, .unset] [.null]))
    refine wwn_go (fun _ kk_ => XS.astore X0.here hx rfl (hb hby at_21) rfl rfl (l' := #[.val (.int x0), .val (.int x1), .val (.int x2), .val (.int x3), .val (.int (x0 &&& (7 : Int32))), .val .null, .unset, .unset, .unset, .unset]) rfl kk_) ?_
    show own_W p e below s Z own_EL _ _ _ (s₁.setTop (mkF m 23 #[.val (.int x0), .val (.int x1), .val (.int x2), .val (.int x3), .val (.int (x0 &&& (7 : Int32))), .val .null, .unset, .unset, .unset, .unset] []))
    refine wwn_go (fun _ kk_ => XS.iload X0.here hx rfl (hb hby at_23) rfl kk_) ?_
    show own_W p e below s Z own_EL _ _ _ (s₁.setTop (mkF m 25 #[.val (.int x0), .val (.int x1), .val (.int x2), .val (.int x3), .val (.int (x0 &&& (7 : Int32))), .val .null, .unset, .unset, .unset, .unset] [(.int (x0 &&& (7 : Int32)))]))
    refine wwn_go (fun _ kk_ => XS.iconst X0.here hx rfl (hb hby at_25) kk_) ?_
    show own_W p e below s Z own_EL _ _ _ (s₁.setTop (mkF m 26 #[.val (.int x0), .val (.int x1), .val (.int x2), .val (.int x3), .val (.int (x0 &&& (7 : Int32))), .val .null, .unset, .unset, .unset, .unset] [(.int (2 : Int32)), (.int (x0 &&& (7 : Int32)))]))
    refine wwn_go (fun _ kk_ => XS.iand X0.here hx rfl (hb hby at_26) rfl kk_) ?_
    show own_W p e below s Z own_EL _ _ _ (s₁.setTop (mkF m 27 #[.val (.int x0), .val (.int x1), .val (.int x2), .val (.int x3), .val (.int (x0 &&& (7 : Int32))), .val .null, .unset, .unset, .unset, .unset] [(.int ((x0 &&& (7 : Int32)) &&& (2 : Int32)))]))
    refine wwn_if_eq X0 hx (pc := 27) (pc' := 37) (hb hby at_27) (by decide) (by decide) (fun hc27 => ?_) (fun hc27 => ?_)
    · show own_W p e below s Z own_EL _ _ _ (s₁.setTop (mkF m 37 #[.val (.int x0), .val (.int x1), .val (.int x2), .val (.int x3), .val (.int (x0 &&& (7 : Int32))), .val .null, .unset, .unset, .unset, .unset] []))
      refine wwn_go (fun _ kk_ => XS.aconstNull X0.here hx rfl (hb hby at_37) kk_) ?_
      show own_W p e below s Z own_EL _ _ _ (s₁.setTop (mkF m 38 #[.val (.int x0), .val (.int x1), .val (.int x2), .val (.int x3), .val (.int (x0 &&& (7 : Int32))), .val .null, .unset, .unset, .unset, .unset] [.null]))
      refine wwn_go (fun _ kk_ => XS.astore X0.here hx rfl (hb hby at_38) rfl rfl (l' := #[.val (.int x0), .val (.int x1), .val (.int x2), .val (.int x3), .val (.int (x0 &&& (7 : Int32))), .val .null, .val .null, .unset, .unset, .unset]) rfl kk_) ?_
      show own_W p e below s Z own_EL _ _ _ (s₁.setTop (mkF m 40 #[.val (.int x0), .val (.int x1), .val (.int x2), .val (.int x3), .val (.int (x0 &&& (7 : Int32))), .val .null, .val .null, .unset, .unset, .unset] []))
      refine wwn_go (fun _ kk_ => XS.iload X0.here hx rfl (hb hby at_40) rfl kk_) ?_
      show own_W p e below s Z own_EL _ _ _ (s₁.setTop (mkF m 42 #[.val (.int x0), .val (.int x1), .val (.int x2), .val (.int x3), .val (.int (x0 &&& (7 : Int32))), .val .null, .val .null, .unset, .unset, .unset] [(.int (x0 &&& (7 : Int32)))]))
      refine wwn_go (fun _ kk_ => XS.iconst X0.here hx rfl (hb hby at_42) kk_) ?_
      show own_W p e below s Z own_EL _ _ _ (s₁.setTop (mkF m 43 #[.val (.int x0), .val (.int x1), .val (.int x2), .val (.int x3), .val (.int (x0 &&& (7 : Int32))), .val .null, .val .null, .unset, .unset, .unset] [(.int (4 : Int32)), (.int (x0 &&& (7 : Int32)))]))
      refine wwn_go (fun _ kk_ => XS.iand X0.here hx rfl (hb hby at_43) rfl kk_) ?_
      show own_W p e below s Z own_EL _ _ _ (s₁.setTop (mkF m 44 #[.val (.int x0), .val (.int x1), .val (.int x2), .val (.int x3), .val (.int (x0 &&& (7 : Int32))), .val .null, .val .null, .unset, .unset, .unset] [(.int ((x0 &&& (7 : Int32)) &&& (4 : Int32)))]))
      refine wwn_if_eq X0 hx (pc := 44) (pc' := 54) (hb hby at_44) (by decide) (by decide) (fun hc44 => ?_) (fun hc44 => ?_)
      · show own_W p e below s Z own_EL _ _ _ (s₁.setTop (mkF m 54 #[.val (.int x0), .val (.int x1), .val (.int x2), .val (.int x3), .val (.int (x0 &&& (7 : Int32))), .val .null, .val .null, .unset, .unset, .unset] []))
        refine wwn_go (fun _ kk_ => XS.aconstNull X0.here hx rfl (hb hby at_54) kk_) ?_
        show own_W p e below s Z own_EL _ _ _ (s₁.setTop (mkF m 55 #[.val (.int x0), .val (.int x1), .val (.int x2), .val (.int x3), .val (.int (x0 &&& (7 : Int32))), .val .null, .val .null, .unset, .unset, .unset] [.null]))
        refine wwn_go (fun _ kk_ => XS.astore X0.here hx rfl (hb hby at_55) rfl rfl (l' := #[.val (.int x0), .val (.int x1), .val (.int x2), .val (.int x3), .val (.int (x0 &&& (7 : Int32))), .val .null, .val .null, .val .null, .unset, .unset]) rfl kk_) ?_
        show own_W p e below s Z own_EL _ _ _ (s₁.setTop (mkF m 57 #[.val (.int x0), .val (.int x1), .val (.int x2), .val (.int x3), .val (.int (x0 &&& (7 : Int32))), .val .null, .val .null, .val .null, .unset, .unset] []))
        obtain ⟨T1, h1, X1, e1, E1, A1, D1, -, st1⟩ := newO X0 hx hZ hown (hw _ (List.mem_of_getElem? (i := 0) rfl)) (hw _ (List.mem_of_getElem? (i := 1) rfl)) (hw _ (List.mem_of_getElem? (i := 2) rfl)) e0 (g := (mkF m 57 #[.val (.int x0), .val (.int x1), .val (.int x2), .val (.int x3), .val (.int (x0 &&& (7 : Int32))), .val .null, .val .null, .val .null, .unset, .unset] [])) rfl (hb hby at_57) (by decide) (by decide)
        obtain ⟨b1, g1⟩ : ∃ z, z = h0.size := ⟨_, rfl⟩
        rw [← g1] at A1 D1 st1
        refine wwn_go st1 ?_
        have I1 := I0.ext E1
        have O1_ := O_0.ext E1
        have g_b1 : n0 ≤ b1 := Nat.le_trans Z0 (Nat.le_of_eq g1.symm)
        have Z1 : n0 ≤ h1.size := Nat.le_trans Z0 E1.1
        have F1_b1_vendor : Fld Z h1 b1 "com/example/accordant/accordant/policy/Scope" "vendor" "Ljava/lang/String;" .null := D1 (Or.inr (hw _ (List.mem_of_getElem? (i := 15) rfl))) (ty := (.object "java/lang/String")) (by decide)
        have F1_b1_item : Fld Z h1 b1 "com/example/accordant/accordant/policy/Scope" "item" "Ljava/lang/String;" .null := D1 (Or.inr (hw _ (List.mem_of_getElem? (i := 17) rfl))) (ty := (.object "java/lang/String")) (by decide)
        have F1_b1_itemGroup : Fld Z h1 b1 "com/example/accordant/accordant/policy/Scope" "itemGroup" "Ljava/lang/String;" .null := D1 (Or.inr (hw _ (List.mem_of_getElem? (i := 19) rfl))) (ty := (.object "java/lang/String")) (by decide)
        show own_W p e below s Z own_EL _ _ _ (T1.setTop (mkF m 60 #[.val (.int x0), .val (.int x1), .val (.int x2), .val (.int x3), .val (.int (x0 &&& (7 : Int32))), .val .null, .val .null, .val .null, .unset, .unset] [(.ref b1)]))
        refine wwn_go (fun _ kk_ => XS.dup X1.here hx rfl (hb hby at_60) rfl rfl kk_) ?_
        show own_W p e below s Z own_EL _ _ _ (T1.setTop (mkF m 61 #[.val (.int x0), .val (.int x1), .val (.int x2), .val (.int x3), .val (.int (x0 &&& (7 : Int32))), .val .null, .val .null, .val .null, .unset, .unset] [(.ref b1), (.ref b1)]))
        refine wwn_go (fun _ kk_ => XS.aload X1.here hx rfl (hb hby at_61) rfl rfl kk_) ?_
        show own_W p e below s Z own_EL _ _ _ (T1.setTop (mkF m 63 #[.val (.int x0), .val (.int x1), .val (.int x2), .val (.int x3), .val (.int (x0 &&& (7 : Int32))), .val .null, .val .null, .val .null, .unset, .unset] [.null, (.ref b1), (.ref b1)]))
        refine wwn_go (fun _ kk_ => XS.aload X1.here hx rfl (hb hby at_63) rfl rfl kk_) ?_
        show own_W p e below s Z own_EL _ _ _ (T1.setTop (mkF m 65 #[.val (.int x0), .val (.int x1), .val (.int x2), .val (.int x3), .val (.int (x0 &&& (7 : Int32))), .val .null, .val .null, .val .null, .unset, .unset] [.null, .null, (.ref b1), (.ref b1)]))
        refine wwn_go (fun _ kk_ => XS.aload X1.here hx rfl (hb hby at_65) rfl rfl kk_) ?_
        show own_W p e below s Z own_EL _ _ _ (T1.setTop (mkF m 67 #[.val (.int x0), .val (.int x1), .val (.int x2), .val (.int x3), .val (.int (x0 &&& (7 : Int32))), .val .null, .val .null, .val .null, .unset, .unset] [.null, .null, .null, (.ref b1), (.ref b1)]))
        obtain ⟨_, _, ⟨T2, L2, k2, n2⟩, -, X2, ⟨Lc2, hQ2, l2, y2, z2⟩, st2⟩ := X1.specialBack hx (y := (⟨"com/example/accordant/accordant/policy/Scope", "<init>", "(Ljava/lang/String;Ljava/lang/String;Ljava/lang/String;)V"⟩ : MethodName)) rfl hown (mvT hZ (hw _ (List.mem_of_getElem? (i := 3) rfl))) (mvT hZ (hw _ (List.mem_of_getElem? (i := 4) rfl))) (mvT hZ (hw _ (List.mem_of_getElem? (i := 5) rfl))) (by decide) (backOf (W := 1) (rmI000 l Z a0 hw [] b1  h1 n0 Z1 A1 g_b1 F1_b1_vendor F1_b1_item F1_b1_itemGroup) hZ (hw _ (List.mem_of_getElem? (i := 5) rfl)) (hw _ (List.mem_of_getElem? (i := 2) rfl)) (by decide) (by decide)) (g := (mkF m 67 #[.val (.int x0), .val (.int x1), .val (.int x2), .val (.int x3), .val (.int (x0 &&& (7 : Int32))), .val .null, .val .null, .val .null, .unset, .unset] [.null, .null, .null, (.ref b1), (.ref b1)])) rfl (by rw [hml]; rfl) (Steps.refl _) (a := b1) (argsL := [.null, .null, .null]) (rest := [(.ref b1)]) (lenOf pd_3 rfl) rfl (by show 2 * 0 + _ ≤ _; exact Nat.le_of_eq rfl) (hb hby at_67) (fun _ _ => ⟨rfl, e1, (by decide : 1 + 0 ≤ _), (by decide : 3 + 0 ≤ _)⟩)
        dsimp only [Pt.U, Pt.locs, Pt.cells, Pt.slots] at X2 l2 y2 z2 st2 hQ2
        subst l2 y2 z2
        generalize e2 : T2.heap = h2 at hQ2
        obtain ⟨rfl, N2q, Kq2, Eq2, F2_0, F2_1, F2_2⟩ := hQ2
        have N2 := Fr.app N0 N2q
        have I2 := I1.keep Kq2 (fun y hy => by cases List.mem_singleton.mp hy; exact (Safe.exa hZ.alike A1 (by decide) (by decide)))
        have Z2 : n0 ≤ h2.size := Nat.le_trans Z1 Kq2.1
        refine wwn_go (fun _ kk_ => st2.trans kk_) ?_
        show own_W p e below s Z own_EL _ _ _ (T2.setTop (mkF m 70 #[.val (.int x0), .val (.int x1), .val (.int x2), .val (.int x3), .val (.int (x0 &&& (7 : Int32))), .val .null, .val .null, .val .null, .unset, .unset] [(.ref b1)]))
        refine wwn_go (fun _ kk_ => XS.astore X2.here hx rfl (hb hby at_70) rfl rfl (l' := #[.val (.int x0), .val (.int x1), .val (.int x2), .val (.int x3), .val (.int (x0 &&& (7 : Int32))), .val .null, .val .null, .val .null, .val (.ref b1), .unset]) rfl kk_) ?_
        show own_W p e below s Z own_EL _ _ _ (T2.setTop (mkF m 72 #[.val (.int x0), .val (.int x1), .val (.int x2), .val (.int x3), .val (.int (x0 &&& (7 : Int32))), .val .null, .val .null, .val .null, .val (.ref b1), .unset] []))
        refine wwn_go (fun _ kk_ => XS.iconst X2.here hx rfl (hb hby at_72) kk_) ?_
        show own_W p e below s Z own_EL _ _ _ (T2.setTop (mkF m 73 #[.val (.int x0), .val (.int x1), .val (.int x2), .val (.int x3), .val (.int (x0 &&& (7 : Int32))), .val .null, .val .null, .val .null, .val (.ref b1), .unset] [(.int (0 : Int32))]))
        refine wwn_go (fun _ kk_ => XS.istore X2.here hx rfl (hb hby at_73) rfl (l' := #[.val (.int x0), .val (.int x1), .val (.int x2), .val (.int x3), .val (.int (x0 &&& (7 : Int32))), .val .null, .val .null, .val .null, .val (.ref b1), .val (.int (0 : Int32))]) rfl kk_) ?_
        show own_W p e below s Z own_EL _ _ _ (T2.setTop (mkF m 75 #[.val (.int x0), .val (.int x1), .val (.int x2), .val (.int x3), .val (.int (x0 &&& (7 : Int32))), .val .null, .val .null, .val .null, .val (.ref b1), .val (.int (0 : Int32))] []))
        refine wwn_go (fun _ kk_ => XS.aload X2.here hx rfl (hb hby at_75) rfl rfl kk_) ?_
        show own_W p e below s Z own_EL _ _ _ (T2.setTop (mkF m 77 #[.val (.int x0), .val (.int x1), .val (.int x2), .val (.int x3), .val (.int (x0 &&& (7 : Int32))), .val .null, .val .null, .val .null, .val (.ref b1), .val (.int (0 : Int32))] [.null]))
        refine wwn_go (fun _ kk_ => XS.ifnullYes X2.here hx rfl (pc0 := 77) (pc' := 86) rfl (hb hby at_77) rfl (by decide) (by decide) kk_) ?_
        show own_W p e below s Z own_EL _ _ _ (T2.setTop (mkF m 86 #[.val (.int x0), .val (.int x1), .val (.int x2), .val (.int x3), .val (.int (x0 &&& (7 : Int32))), .val .null, .val .null, .val .null, .val (.ref b1), .val (.int (0 : Int32))] []))
        refine wwn_go (fun _ kk_ => XS.aload X2.here hx rfl (hb hby at_86) rfl rfl kk_) ?_
        show own_W p e below s Z own_EL _ _ _ (T2.setTop (mkF m 88 #[.val (.int x0), .val (.int x1), .val (.int x2), .val (.int x3), .val (.int (x0 &&& (7 : Int32))), .val .null, .val .null, .val .null, .val (.ref b1), .val (.int (0 : Int32))] [.null]))
        refine wwn_go (fun _ kk_ => XS.ifnullYes X2.here hx rfl (pc0 := 88) (pc' := 97) rfl (hb hby at_88) rfl (by decide) (by decide) kk_) ?_
        show own_W p e below s Z own_EL _ _ _ (T2.setTop (mkF m 97 #[.val (.int x0), .val (.int x1), .val (.int x2), .val (.int x3), .val (.int (x0 &&& (7 : Int32))), .val .null, .val .null, .val .null, .val (.ref b1), .val (.int (0 : Int32))] []))
        refine wwn_go (fun _ kk_ => XS.aload X2.here hx rfl (hb hby at_97) rfl rfl kk_) ?_
        show own_W p e below s Z own_EL _ _ _ (T2.setTop (mkF m 99 #[.val (.int x0), .val (.int x1), .val (.int x2), .val (.int x3), .val (.int (x0 &&& (7 : Int32))), .val .null, .val .null, .val .null, .val (.ref b1), .val (.int (0 : Int32))] [.null]))
        refine wwn_go (fun _ kk_ => XS.ifnullYes X2.here hx rfl (pc0 := 99) (pc' := 108) rfl (hb hby at_99) rfl (by decide) (by decide) kk_) ?_
        show own_W p e below s Z own_EL _ _ _ (T2.setTop (mkF m 108 #[.val (.int x0), .val (.int x1), .val (.int x2), .val (.int x3), .val (.int (x0 &&& (7 : Int32))), .val .null, .val .null, .val .null, .val (.ref b1), .val (.int (0 : Int32))] []))
        refine wwn_go (fun _ kk_ => XS.aload X2.here hx rfl (hb hby at_108) rfl rfl kk_) ?_
        show own_W p e below s Z own_EL _ _ _ (T2.setTop (mkF m 110 #[.val (.int x0), .val (.int x1), .val (.int x2), .val (.int x3), .val (.int (x0 &&& (7 : Int32))), .val .null, .val .null, .val .null, .val (.ref b1), .val (.int (0 : Int32))] [(.ref b1)]))
        obtain ⟨cq3, kq3, q3a, q3b, q3c⟩ := isOf hZ e2 Eq2
        obtain ⟨_, _, ⟨T3, L3, k3, n3⟩, -, X3, ⟨Lc3, hQ3, l3, y3, z3⟩, st3⟩ := X2.virtualBack hx (y := (⟨"com/example/accordant/accordant/policy/Scope", "shape", "()I"⟩ : MethodName)) (z := (⟨"com/example/accordant/accordant/policy/Scope", "shape", "()I"⟩ : MethodName)) hown (mvT hZ (hw _ (List.mem_of_getElem? (i := 20) rfl))) (mvT hZ (hw _ (List.mem_of_getElem? (i := 21) rfl))) (notFace_of_selects (args := #[]) (mvT hZ (hw _ (List.mem_of_getElem? (i := 23) rfl)))) (mvT hZ (hw _ (List.mem_of_getElem? (i := 23) rfl))) (mvT hZ (hw _ (List.mem_of_getElem? (i := 22) rfl))) (by decide) (backOf (W := 0) (rmP000 l Z a0 hw [] b1  h2 n0 Z2 F2_0 F2_1 F2_2) hZ (hw _ (List.mem_of_getElem? (i := 24) rfl)) (hw _ (List.mem_of_getElem? (i := 2) rfl)) (by decide) (by decide)) q3a q3c (g := (mkF m 110 #[.val (.int x0), .val (.int x1), .val (.int x2), .val (.int x3), .val (.int (x0 &&& (7 : Int32))), .val .null, .val .null, .val .null, .val (.ref b1), .val (.int (0 : Int32))] [(.ref b1)])) rfl (by rw [hml]; rfl) (Steps.refl _) (argsL := []) (rest := []) (lenOf pd_4 rfl) rfl (by show 2 * 0 + _ ≤ _; exact Nat.le_of_eq rfl) (hb hby at_110) (fun _ _ => ⟨rfl, e2, (by decide : 1 + 0 ≤ _), (by decide : 3 + 0 ≤ _)⟩)
        dsimp only [Pt.U, Pt.locs, Pt.cells, Pt.slots] at X3 l3 y3 z3 st3 hQ3
        subst l3 y3 z3
        obtain ⟨rfl, N3q, e3⟩ := hQ3
        have N3 := Fr.app N2 N3q
        refine wwn_go (fun _ kk_ => st3.trans kk_) ?_
        show own_W p e below s Z own_EL _ _ _ (T3.setTop (mkF m 113 #[.val (.int x0), .val (.int x1), .val (.int x2), .val (.int x3), .val (.int (x0 &&& (7 : Int32))), .val .null, .val .null, .val .null, .val (.ref b1), .val (.int (0 : Int32))] [(.int (0 : Int32))]))
        refine wwn_go (fun _ kk_ => XS.iload X3.here hx rfl (hb hby at_113) rfl kk_) ?_
        show own_W p e below s Z own_EL _ _ _ (T3.setTop (mkF m 115 #[.val (.int x0), .val (.int x1), .val (.int x2), .val (.int x3), .val (.int (x0 &&& (7 : Int32))), .val .null, .val .null, .val .null, .val (.ref b1), .val (.int (0 : Int32))] [(.int (0 : Int32)), (.int (0 : Int32))]))
        refine wwn_ic_neN X3 hx (pc := 115) (hb hby at_115) (by decide) ?_
        show own_W p e below s Z own_EL _ _ _ (T3.setTop (mkF m 118 #[.val (.int x0), .val (.int x1), .val (.int x2), .val (.int x3), .val (.int (x0 &&& (7 : Int32))), .val .null, .val .null, .val .null, .val (.ref b1), .val (.int (0 : Int32))] []))
        refine wwn_go (fun _ kk_ => XS.iload X3.here hx rfl (hb hby at_118) rfl kk_) ?_
        show own_W p e below s Z own_EL _ _ _ (T3.setTop (mkF m 120 #[.val (.int x0), .val (.int x1), .val (.int x2), .val (.int x3), .val (.int (x0 &&& (7 : Int32))), .val .null, .val .null, .val .null, .val (.ref b1), .val (.int (0 : Int32))] [(.int (0 : Int32))]))
        refine wwn_go (fun _ kk_ => XS.iload X3.here hx rfl (hb hby at_120) rfl kk_) ?_
        show own_W p e below s Z own_EL _ _ _ (T3.setTop (mkF m 122 #[.val (.int x0), .val (.int x1), .val (.int x2), .val (.int x3), .val (.int (x0 &&& (7 : Int32))), .val .null, .val .null, .val .null, .val (.ref b1), .val (.int (0 : Int32))] [(.int (x0 &&& (7 : Int32))), (.int (0 : Int32))]))
        refine wwn_ic_neN X3 hx (pc := 122) (hb hby at_122) (by rw [own_bits x0, if_pos hc10, if_pos hc27, if_pos hc44]; rfl) ?_
        show own_W p e below s Z own_EL _ _ _ (T3.setTop (mkF m 125 #[.val (.int x0), .val (.int x1), .val (.int x2), .val (.int x3), .val (.int (x0 &&& (7 : Int32))), .val .null, .val .null, .val .null, .val (.ref b1), .val (.int (0 : Int32))] []))
        refine wwn_go (fun _ kk_ => XS.iconst X3.here hx rfl (hb hby at_125) kk_) ?_
        show own_W p e below s Z own_EL _ _ _ (T3.setTop (mkF m 126 #[.val (.int x0), .val (.int x1), .val (.int x2), .val (.int x3), .val (.int (x0 &&& (7 : Int32))), .val .null, .val .null, .val .null, .val (.ref b1), .val (.int (0 : Int32))] [(.int (1 : Int32))]))
        refine wwn_go (fun _ kk_ => XS.goto X3.here hx rfl (pc0 := 126) (pc' := 130) rfl (hb hby at_126) (by decide) (by decide) kk_) ?_
        show own_W p e below s Z own_EL _ _ _ (T3.setTop (mkF m 130 #[.val (.int x0), .val (.int x1), .val (.int x2), .val (.int x3), .val (.int (x0 &&& (7 : Int32))), .val .null, .val .null, .val .null, .val (.ref b1), .val (.int (0 : Int32))] [(.int (1 : Int32))]))
        exact wwn_retN (t := .boolean) (ht := by simp) X3 hx hZ hEL Bd.returns (BodyLoose.notSynchronized Bd) (hb hby at_130) e3 I2 ⟨rfl, N3⟩ (by decide) (by decide)
      · show own_W p e below s Z own_EL _ _ _ (s₁.setTop (mkF m 47 #[.val (.int x0), .val (.int x1), .val (.int x2), .val (.int x3), .val (.int (x0 &&& (7 : Int32))), .val .null, .val .null, .unset, .unset, .unset] []))
        refine wwn_go (fun _ kk_ => XS.iloadN X0.here hx rfl (hb hby at_47) rfl kk_) ?_
        show own_W p e below s Z own_EL _ _ _ (s₁.setTop (mkF m 48 #[.val (.int x0), .val (.int x1), .val (.int x2), .val (.int x3), .val (.int (x0 &&& (7 : Int32))), .val .null, .val .null, .unset, .unset, .unset] [(.int x3)]))
        obtain ⟨_, _, ⟨T4, L4, k4, n4⟩, -, X4, S4, gr4, ⟨Lc4, hQ4, l4, y4, z4, C4⟩, st4⟩ := callSS X0 hx (y := (⟨"com/example/accordant/accordant/policy/ScopeShapePinLaw", "str", "(I)Ljava/lang/String;"⟩ : MethodName)) hown (mvT hZ (hw _ (List.mem_of_getElem? (i := 25) rfl))) (mvT hZ (hw _ (List.mem_of_getElem? (i := 26) rfl))) (mvT hZ (hw _ (List.mem_of_getElem? (i := 27) rfl))) (mvT hZ (hw _ (List.mem_of_getElem? (i := 28) rfl))) (by decide) (backOfSH (W := 0) (rmStr l Z a0 hw [] x3 zc h0 n0 Z0 O_0 O2 hz) hZ (hw _ (List.mem_of_getElem? (i := 28) rfl)) (hw _ (List.mem_of_getElem? (i := 27) rfl)) (by decide) (by decide) hEL I0.1.1) (g := (mkF m 48 #[.val (.int x0), .val (.int x1), .val (.int x2), .val (.int x3), .val (.int (x0 &&& (7 : Int32))), .val .null, .val .null, .unset, .unset, .unset] [(.int x3)])) rfl (by rw [hml]; rfl) (argsL := [(.int x3)]) (rest := []) (lenOf pd_5 rfl) rfl (by show 2 * 0 + _ ≤ _; exact Nat.le_of_eq rfl) (hb hby at_48) (fun _ _ => ⟨rfl, e0, (by decide : 0 + 6 ≤ _), (by decide : 0 + 12 ≤ _)⟩)
        dsimp only [Pt.U, Pt.locs, Pt.cells, Pt.slots] at X4 S4 gr4 l4 y4 z4 C4 st4 hQ4
        subst l4 y4 z4
        obtain ⟨X4, I4, hZ, hown⟩ := own_I.reb I0 e0 X4 S4 gr4 hZ hown C4
        generalize e4 : T4.heap = h4 at hQ4 I4
        obtain ⟨x4, rfl, N4q, gx4, Kq4, Eq4, O4_⟩ := hQ4
        have N4 := Fr.app N0 N4q
        have Z4 : n0 ≤ h4.size := Nat.le_trans Z0 Kq4.1
        refine wwn_go (fun _ kk_ => st4.trans kk_) ?_
        show own_W p e below s Z own_EL _ _ _ (T4.setTop (mkF m 51 #[.val (.int x0), .val (.int x1), .val (.int x2), .val (.int x3), .val (.int (x0 &&& (7 : Int32))), .val .null, .val .null, .unset, .unset, .unset] [(.ref x4)]))
        refine wwn_go (fun _ kk_ => XS.goto X4.here hx rfl (pc0 := 51) (pc' := 55) rfl (hb hby at_51) (by decide) (by decide) kk_) ?_
        show own_W p e below s Z own_EL _ _ _ (T4.setTop (mkF m 55 #[.val (.int x0), .val (.int x1), .val (.int x2), .val (.int x3), .val (.int (x0 &&& (7 : Int32))), .val .null, .val .null, .unset, .unset, .unset] [(.ref x4)]))
        refine wwn_go (fun _ kk_ => XS.astore X4.here hx rfl (hb hby at_55) rfl rfl (l' := #[.val (.int x0), .val (.int x1), .val (.int x2), .val (.int x3), .val (.int (x0 &&& (7 : Int32))), .val .null, .val .null, .val (.ref x4), .unset, .unset]) rfl kk_) ?_
        show own_W p e below s Z own_EL _ _ _ (T4.setTop (mkF m 57 #[.val (.int x0), .val (.int x1), .val (.int x2), .val (.int x3), .val (.int (x0 &&& (7 : Int32))), .val .null, .val .null, .val (.ref x4), .unset, .unset] []))
        obtain ⟨T5, h5, X5, e5, E5, A5, D5, -, st5⟩ := newO X4 hx hZ hown (hw _ (List.mem_of_getElem? (i := 0) rfl)) (hw _ (List.mem_of_getElem? (i := 1) rfl)) (hw _ (List.mem_of_getElem? (i := 2) rfl)) e4 (g := (mkF m 57 #[.val (.int x0), .val (.int x1), .val (.int x2), .val (.int x3), .val (.int (x0 &&& (7 : Int32))), .val .null, .val .null, .val (.ref x4), .unset, .unset] [])) rfl (hb hby at_57) (by decide) (by decide)
        obtain ⟨b5, g5⟩ : ∃ z, z = h4.size := ⟨_, rfl⟩
        rw [← g5] at A5 D5 st5
        refine wwn_go st5 ?_
        have I5 := I4.ext E5
        have O5_ := O4_.ext E5
        have g_b5 : n0 ≤ b5 := Nat.le_trans Z4 (Nat.le_of_eq g5.symm)
        have Z5 : n0 ≤ h5.size := Nat.le_trans Z4 E5.1
        have F5_b5_vendor : Fld Z h5 b5 "com/example/accordant/accordant/policy/Scope" "vendor" "Ljava/lang/String;" .null := D5 (Or.inr (hw _ (List.mem_of_getElem? (i := 15) rfl))) (ty := (.object "java/lang/String")) (by decide)
        have F5_b5_item : Fld Z h5 b5 "com/example/accordant/accordant/policy/Scope" "item" "Ljava/lang/String;" .null := D5 (Or.inr (hw _ (List.mem_of_getElem? (i := 17) rfl))) (ty := (.object "java/lang/String")) (by decide)
        have F5_b5_itemGroup : Fld Z h5 b5 "com/example/accordant/accordant/policy/Scope" "itemGroup" "Ljava/lang/String;" .null := D5 (Or.inr (hw _ (List.mem_of_getElem? (i := 19) rfl))) (ty := (.object "java/lang/String")) (by decide)
        show own_W p e below s Z own_EL _ _ _ (T5.setTop (mkF m 60 #[.val (.int x0), .val (.int x1), .val (.int x2), .val (.int x3), .val (.int (x0 &&& (7 : Int32))), .val .null, .val .null, .val (.ref x4), .unset, .unset] [(.ref b5)]))
        refine wwn_go (fun _ kk_ => XS.dup X5.here hx rfl (hb hby at_60) rfl rfl kk_) ?_
        show own_W p e below s Z own_EL _ _ _ (T5.setTop (mkF m 61 #[.val (.int x0), .val (.int x1), .val (.int x2), .val (.int x3), .val (.int (x0 &&& (7 : Int32))), .val .null, .val .null, .val (.ref x4), .unset, .unset] [(.ref b5), (.ref b5)]))
        refine wwn_go (fun _ kk_ => XS.aload X5.here hx rfl (hb hby at_61) rfl rfl kk_) ?_
        show own_W p e below s Z own_EL _ _ _ (T5.setTop (mkF m 63 #[.val (.int x0), .val (.int x1), .val (.int x2), .val (.int x3), .val (.int (x0 &&& (7 : Int32))), .val .null, .val .null, .val (.ref x4), .unset, .unset] [.null, (.ref b5), (.ref b5)]))
        refine wwn_go (fun _ kk_ => XS.aload X5.here hx rfl (hb hby at_63) rfl rfl kk_) ?_
        show own_W p e below s Z own_EL _ _ _ (T5.setTop (mkF m 65 #[.val (.int x0), .val (.int x1), .val (.int x2), .val (.int x3), .val (.int (x0 &&& (7 : Int32))), .val .null, .val .null, .val (.ref x4), .unset, .unset] [.null, .null, (.ref b5), (.ref b5)]))
        refine wwn_go (fun _ kk_ => XS.aload X5.here hx rfl (hb hby at_65) rfl rfl kk_) ?_
        show own_W p e below s Z own_EL _ _ _ (T5.setTop (mkF m 67 #[.val (.int x0), .val (.int x1), .val (.int x2), .val (.int x3), .val (.int (x0 &&& (7 : Int32))), .val .null, .val .null, .val (.ref x4), .unset, .unset] [(.ref x4), .null, .null, (.ref b5), (.ref b5)]))
        obtain ⟨_, _, ⟨T6, L6, k6, n6⟩, -, X6, ⟨Lc6, hQ6, l6, y6, z6⟩, st6⟩ := X5.specialBack hx (y := (⟨"com/example/accordant/accordant/policy/Scope", "<init>", "(Ljava/lang/String;Ljava/lang/String;Ljava/lang/String;)V"⟩ : MethodName)) rfl hown (mvT hZ (hw _ (List.mem_of_getElem? (i := 3) rfl))) (mvT hZ (hw _ (List.mem_of_getElem? (i := 4) rfl))) (mvT hZ (hw _ (List.mem_of_getElem? (i := 5) rfl))) (by decide) (backOf (W := 1) (rmI001 l Z a0 hw [] b5 x4 h5 n0 Z5 A5 g_b5 F5_b5_vendor F5_b5_item F5_b5_itemGroup) hZ (hw _ (List.mem_of_getElem? (i := 5) rfl)) (hw _ (List.mem_of_getElem? (i := 2) rfl)) (by decide) (by decide)) (g := (mkF m 67 #[.val (.int x0), .val (.int x1), .val (.int x2), .val (.int x3), .val (.int (x0 &&& (7 : Int32))), .val .null, .val .null, .val (.ref x4), .unset, .unset] [(.ref x4), .null, .null, (.ref b5), (.ref b5)])) rfl (by rw [hml]; rfl) (Steps.refl _) (a := b5) (argsL := [.null, .null, (.ref x4)]) (rest := [(.ref b5)]) (lenOf pd_3 rfl) rfl (by show 2 * 0 + _ ≤ _; exact Nat.le_of_eq rfl) (hb hby at_67) (fun _ _ => ⟨rfl, e5, (by decide : 7 + 0 ≤ _), (by decide : 15 + 0 ≤ _)⟩)
        dsimp only [Pt.U, Pt.locs, Pt.cells, Pt.slots] at X6 l6 y6 z6 st6 hQ6
        subst l6 y6 z6
        generalize e6 : T6.heap = h6 at hQ6
        obtain ⟨rfl, N6q, Kq6, Eq6, F6_0, F6_1, F6_2⟩ := hQ6
        have N6 := Fr.app N4 N6q
        have I6 := I5.keep Kq6 (fun y hy => by cases List.mem_singleton.mp hy; exact (Safe.exa hZ.alike A5 (by decide) (by decide)))
        have Z6 : n0 ≤ h6.size := Nat.le_trans Z5 Kq6.1
        refine wwn_go (fun _ kk_ => st6.trans kk_) ?_
        show own_W p e below s Z own_EL _ _ _ (T6.setTop (mkF m 70 #[.val (.int x0), .val (.int x1), .val (.int x2), .val (.int x3), .val (.int (x0 &&& (7 : Int32))), .val .null, .val .null, .val (.ref x4), .unset, .unset] [(.ref b5)]))
        refine wwn_go (fun _ kk_ => XS.astore X6.here hx rfl (hb hby at_70) rfl rfl (l' := #[.val (.int x0), .val (.int x1), .val (.int x2), .val (.int x3), .val (.int (x0 &&& (7 : Int32))), .val .null, .val .null, .val (.ref x4), .val (.ref b5), .unset]) rfl kk_) ?_
        show own_W p e below s Z own_EL _ _ _ (T6.setTop (mkF m 72 #[.val (.int x0), .val (.int x1), .val (.int x2), .val (.int x3), .val (.int (x0 &&& (7 : Int32))), .val .null, .val .null, .val (.ref x4), .val (.ref b5), .unset] []))
        refine wwn_go (fun _ kk_ => XS.iconst X6.here hx rfl (hb hby at_72) kk_) ?_
        show own_W p e below s Z own_EL _ _ _ (T6.setTop (mkF m 73 #[.val (.int x0), .val (.int x1), .val (.int x2), .val (.int x3), .val (.int (x0 &&& (7 : Int32))), .val .null, .val .null, .val (.ref x4), .val (.ref b5), .unset] [(.int (0 : Int32))]))
        refine wwn_go (fun _ kk_ => XS.istore X6.here hx rfl (hb hby at_73) rfl (l' := #[.val (.int x0), .val (.int x1), .val (.int x2), .val (.int x3), .val (.int (x0 &&& (7 : Int32))), .val .null, .val .null, .val (.ref x4), .val (.ref b5), .val (.int (0 : Int32))]) rfl kk_) ?_
        show own_W p e below s Z own_EL _ _ _ (T6.setTop (mkF m 75 #[.val (.int x0), .val (.int x1), .val (.int x2), .val (.int x3), .val (.int (x0 &&& (7 : Int32))), .val .null, .val .null, .val (.ref x4), .val (.ref b5), .val (.int (0 : Int32))] []))
        refine wwn_go (fun _ kk_ => XS.aload X6.here hx rfl (hb hby at_75) rfl rfl kk_) ?_
        show own_W p e below s Z own_EL _ _ _ (T6.setTop (mkF m 77 #[.val (.int x0), .val (.int x1), .val (.int x2), .val (.int x3), .val (.int (x0 &&& (7 : Int32))), .val .null, .val .null, .val (.ref x4), .val (.ref b5), .val (.int (0 : Int32))] [.null]))
        refine wwn_go (fun _ kk_ => XS.ifnullYes X6.here hx rfl (pc0 := 77) (pc' := 86) rfl (hb hby at_77) rfl (by decide) (by decide) kk_) ?_
        show own_W p e below s Z own_EL _ _ _ (T6.setTop (mkF m 86 #[.val (.int x0), .val (.int x1), .val (.int x2), .val (.int x3), .val (.int (x0 &&& (7 : Int32))), .val .null, .val .null, .val (.ref x4), .val (.ref b5), .val (.int (0 : Int32))] []))
        refine wwn_go (fun _ kk_ => XS.aload X6.here hx rfl (hb hby at_86) rfl rfl kk_) ?_
        show own_W p e below s Z own_EL _ _ _ (T6.setTop (mkF m 88 #[.val (.int x0), .val (.int x1), .val (.int x2), .val (.int x3), .val (.int (x0 &&& (7 : Int32))), .val .null, .val .null, .val (.ref x4), .val (.ref b5), .val (.int (0 : Int32))] [.null]))
        refine wwn_go (fun _ kk_ => XS.ifnullYes X6.here hx rfl (pc0 := 88) (pc' := 97) rfl (hb hby at_88) rfl (by decide) (by decide) kk_) ?_
        show own_W p e below s Z own_EL _ _ _ (T6.setTop (mkF m 97 #[.val (.int x0), .val (.int x1), .val (.int x2), .val (.int x3), .val (.int (x0 &&& (7 : Int32))), .val .null, .val .null, .val (.ref x4), .val (.ref b5), .val (.int (0 : Int32))] []))
        refine wwn_go (fun _ kk_ => XS.aload X6.here hx rfl (hb hby at_97) rfl rfl kk_) ?_
        show own_W p e below s Z own_EL _ _ _ (T6.setTop (mkF m 99 #[.val (.int x0), .val (.int x1), .val (.int x2), .val (.int x3), .val (.int (x0 &&& (7 : Int32))), .val .null, .val .null, .val (.ref x4), .val (.ref b5), .val (.int (0 : Int32))] [(.ref x4)]))
        refine wwn_go (fun _ kk_ => XS.ifnullNo X6.here hx rfl (hb hby at_99) rfl kk_) ?_
        show own_W p e below s Z own_EL _ _ _ (T6.setTop (mkF m 102 #[.val (.int x0), .val (.int x1), .val (.int x2), .val (.int x3), .val (.int (x0 &&& (7 : Int32))), .val .null, .val .null, .val (.ref x4), .val (.ref b5), .val (.int (0 : Int32))] []))
        refine wwn_go (fun _ kk_ => XS.iload X6.here hx rfl (hb hby at_102) rfl kk_) ?_
        show own_W p e below s Z own_EL _ _ _ (T6.setTop (mkF m 104 #[.val (.int x0), .val (.int x1), .val (.int x2), .val (.int x3), .val (.int (x0 &&& (7 : Int32))), .val .null, .val .null, .val (.ref x4), .val (.ref b5), .val (.int (0 : Int32))] [(.int (0 : Int32))]))
        refine wwn_go (fun _ kk_ => XS.iconst X6.here hx rfl (hb hby at_104) kk_) ?_
        show own_W p e below s Z own_EL _ _ _ (T6.setTop (mkF m 105 #[.val (.int x0), .val (.int x1), .val (.int x2), .val (.int x3), .val (.int (x0 &&& (7 : Int32))), .val .null, .val .null, .val (.ref x4), .val (.ref b5), .val (.int (0 : Int32))] [(.int (4 : Int32)), (.int (0 : Int32))]))
        refine wwn_go (fun _ kk_ => XS.iadd X6.here hx rfl (hb hby at_105) rfl kk_) ?_
        show own_W p e below s Z own_EL _ _ _ (T6.setTop (mkF m 106 #[.val (.int x0), .val (.int x1), .val (.int x2), .val (.int x3), .val (.int (x0 &&& (7 : Int32))), .val .null, .val .null, .val (.ref x4), .val (.ref b5), .val (.int (0 : Int32))] [(.int (4 : Int32))]))
        refine wwn_go (fun _ kk_ => XS.istore X6.here hx rfl (hb hby at_106) rfl (l' := #[.val (.int x0), .val (.int x1), .val (.int x2), .val (.int x3), .val (.int (x0 &&& (7 : Int32))), .val .null, .val .null, .val (.ref x4), .val (.ref b5), .val (.int (4 : Int32))]) rfl kk_) ?_
        show own_W p e below s Z own_EL _ _ _ (T6.setTop (mkF m 108 #[.val (.int x0), .val (.int x1), .val (.int x2), .val (.int x3), .val (.int (x0 &&& (7 : Int32))), .val .null, .val .null, .val (.ref x4), .val (.ref b5), .val (.int (4 : Int32))] []))
        refine wwn_go (fun _ kk_ => XS.aload X6.here hx rfl (hb hby at_108) rfl rfl kk_) ?_
        show own_W p e below s Z own_EL _ _ _ (T6.setTop (mkF m 110 #[.val (.int x0), .val (.int x1), .val (.int x2), .val (.int x3), .val (.int (x0 &&& (7 : Int32))), .val .null, .val .null, .val (.ref x4), .val (.ref b5), .val (.int (4 : Int32))] [(.ref b5)]))
        obtain ⟨cq7, kq7, q7a, q7b, q7c⟩ := isOf hZ e6 Eq6
        obtain ⟨_, _, ⟨T7, L7, k7, n7⟩, -, X7, ⟨Lc7, hQ7, l7, y7, z7⟩, st7⟩ := X6.virtualBack hx (y := (⟨"com/example/accordant/accordant/policy/Scope", "shape", "()I"⟩ : MethodName)) (z := (⟨"com/example/accordant/accordant/policy/Scope", "shape", "()I"⟩ : MethodName)) hown (mvT hZ (hw _ (List.mem_of_getElem? (i := 20) rfl))) (mvT hZ (hw _ (List.mem_of_getElem? (i := 21) rfl))) (notFace_of_selects (args := #[]) (mvT hZ (hw _ (List.mem_of_getElem? (i := 23) rfl)))) (mvT hZ (hw _ (List.mem_of_getElem? (i := 23) rfl))) (mvT hZ (hw _ (List.mem_of_getElem? (i := 22) rfl))) (by decide) (backOf (W := 0) (rmP001 l Z a0 hw [] b5 x4 h6 n0 Z6 F6_0 F6_1 F6_2) hZ (hw _ (List.mem_of_getElem? (i := 24) rfl)) (hw _ (List.mem_of_getElem? (i := 2) rfl)) (by decide) (by decide)) q7a q7c (g := (mkF m 110 #[.val (.int x0), .val (.int x1), .val (.int x2), .val (.int x3), .val (.int (x0 &&& (7 : Int32))), .val .null, .val .null, .val (.ref x4), .val (.ref b5), .val (.int (4 : Int32))] [(.ref b5)])) rfl (by rw [hml]; rfl) (Steps.refl _) (argsL := []) (rest := []) (lenOf pd_4 rfl) rfl (by show 2 * 0 + _ ≤ _; exact Nat.le_of_eq rfl) (hb hby at_110) (fun _ _ => ⟨rfl, e6, (by decide : 7 + 0 ≤ _), (by decide : 15 + 0 ≤ _)⟩)
        dsimp only [Pt.U, Pt.locs, Pt.cells, Pt.slots] at X7 l7 y7 z7 st7 hQ7
        subst l7 y7 z7
        obtain ⟨rfl, N7q, e7⟩ := hQ7
        have N7 := Fr.app N6 N7q
        refine wwn_go (fun _ kk_ => st7.trans kk_) ?_
        show own_W p e below s Z own_EL _ _ _ (T7.setTop (mkF m 113 #[.val (.int x0), .val (.int x1), .val (.int x2), .val (.int x3), .val (.int (x0 &&& (7 : Int32))), .val .null, .val .null, .val (.ref x4), .val (.ref b5), .val (.int (4 : Int32))] [(.int (4 : Int32))]))
        refine wwn_go (fun _ kk_ => XS.iload X7.here hx rfl (hb hby at_113) rfl kk_) ?_
        show own_W p e below s Z own_EL _ _ _ (T7.setTop (mkF m 115 #[.val (.int x0), .val (.int x1), .val (.int x2), .val (.int x3), .val (.int (x0 &&& (7 : Int32))), .val .null, .val .null, .val (.ref x4), .val (.ref b5), .val (.int (4 : Int32))] [(.int (4 : Int32)), (.int (4 : Int32))]))
        refine wwn_ic_neN X7 hx (pc := 115) (hb hby at_115) (by decide) ?_
        show own_W p e below s Z own_EL _ _ _ (T7.setTop (mkF m 118 #[.val (.int x0), .val (.int x1), .val (.int x2), .val (.int x3), .val (.int (x0 &&& (7 : Int32))), .val .null, .val .null, .val (.ref x4), .val (.ref b5), .val (.int (4 : Int32))] []))
        refine wwn_go (fun _ kk_ => XS.iload X7.here hx rfl (hb hby at_118) rfl kk_) ?_
        show own_W p e below s Z own_EL _ _ _ (T7.setTop (mkF m 120 #[.val (.int x0), .val (.int x1), .val (.int x2), .val (.int x3), .val (.int (x0 &&& (7 : Int32))), .val .null, .val .null, .val (.ref x4), .val (.ref b5), .val (.int (4 : Int32))] [(.int (4 : Int32))]))
        refine wwn_go (fun _ kk_ => XS.iload X7.here hx rfl (hb hby at_120) rfl kk_) ?_
        show own_W p e below s Z own_EL _ _ _ (T7.setTop (mkF m 122 #[.val (.int x0), .val (.int x1), .val (.int x2), .val (.int x3), .val (.int (x0 &&& (7 : Int32))), .val .null, .val .null, .val (.ref x4), .val (.ref b5), .val (.int (4 : Int32))] [(.int (x0 &&& (7 : Int32))), (.int (4 : Int32))]))
        refine wwn_ic_neN X7 hx (pc := 122) (hb hby at_122) (by rw [own_bits x0, if_pos hc10, if_pos hc27, if_neg hc44]; rfl) ?_
        show own_W p e below s Z own_EL _ _ _ (T7.setTop (mkF m 125 #[.val (.int x0), .val (.int x1), .val (.int x2), .val (.int x3), .val (.int (x0 &&& (7 : Int32))), .val .null, .val .null, .val (.ref x4), .val (.ref b5), .val (.int (4 : Int32))] []))
        refine wwn_go (fun _ kk_ => XS.iconst X7.here hx rfl (hb hby at_125) kk_) ?_
        show own_W p e below s Z own_EL _ _ _ (T7.setTop (mkF m 126 #[.val (.int x0), .val (.int x1), .val (.int x2), .val (.int x3), .val (.int (x0 &&& (7 : Int32))), .val .null, .val .null, .val (.ref x4), .val (.ref b5), .val (.int (4 : Int32))] [(.int (1 : Int32))]))
        refine wwn_go (fun _ kk_ => XS.goto X7.here hx rfl (pc0 := 126) (pc' := 130) rfl (hb hby at_126) (by decide) (by decide) kk_) ?_
        show own_W p e below s Z own_EL _ _ _ (T7.setTop (mkF m 130 #[.val (.int x0), .val (.int x1), .val (.int x2), .val (.int x3), .val (.int (x0 &&& (7 : Int32))), .val .null, .val .null, .val (.ref x4), .val (.ref b5), .val (.int (4 : Int32))] [(.int (1 : Int32))]))
        exact wwn_retN (t := .boolean) (ht := by simp) X7 hx hZ hEL Bd.returns (BodyLoose.notSynchronized Bd) (hb hby at_130) e7 I6 ⟨rfl, N7⟩ (by decide) (by decide)
    · show own_W p e below s Z own_EL _ _ _ (s₁.setTop (mkF m 30 #[.val (.int x0), .val (.int x1), .val (.int x2), .val (.int x3), .val (.int (x0 &&& (7 : Int32))), .val .null, .unset, .unset, .unset, .unset] []))
      refine wwn_go (fun _ kk_ => XS.iloadN X0.here hx rfl (hb hby at_30) rfl kk_) ?_
      show own_W p e below s Z own_EL _ _ _ (s₁.setTop (mkF m 31 #[.val (.int x0), .val (.int x1), .val (.int x2), .val (.int x3), .val (.int (x0 &&& (7 : Int32))), .val .null, .unset, .unset, .unset, .unset] [(.int x2)]))
      obtain ⟨_, _, ⟨T8, L8, k8, n8⟩, -, X8, S8, gr8, ⟨Lc8, hQ8, l8, y8, z8, C8⟩, st8⟩ := callSS X0 hx (y := (⟨"com/example/accordant/accordant/policy/ScopeShapePinLaw", "str", "(I)Ljava/lang/String;"⟩ : MethodName)) hown (mvT hZ (hw _ (List.mem_of_getElem? (i := 25) rfl))) (mvT hZ (hw _ (List.mem_of_getElem? (i := 26) rfl))) (mvT hZ (hw _ (List.mem_of_getElem? (i := 27) rfl))) (mvT hZ (hw _ (List.mem_of_getElem? (i := 28) rfl))) (by decide) (backOfSH (W := 0) (rmStr l Z a0 hw [] x2 zc h0 n0 Z0 O_0 O2 hz) hZ (hw _ (List.mem_of_getElem? (i := 28) rfl)) (hw _ (List.mem_of_getElem? (i := 27) rfl)) (by decide) (by decide) hEL I0.1.1) (g := (mkF m 31 #[.val (.int x0), .val (.int x1), .val (.int x2), .val (.int x3), .val (.int (x0 &&& (7 : Int32))), .val .null, .unset, .unset, .unset, .unset] [(.int x2)])) rfl (by rw [hml]; rfl) (argsL := [(.int x2)]) (rest := []) (lenOf pd_5 rfl) rfl (by show 2 * 0 + _ ≤ _; exact Nat.le_of_eq rfl) (hb hby at_31) (fun _ _ => ⟨rfl, e0, (by decide : 0 + 6 ≤ _), (by decide : 0 + 12 ≤ _)⟩)
      dsimp only [Pt.U, Pt.locs, Pt.cells, Pt.slots] at X8 S8 gr8 l8 y8 z8 C8 st8 hQ8
      subst l8 y8 z8
      obtain ⟨X8, I8, hZ, hown⟩ := own_I.reb I0 e0 X8 S8 gr8 hZ hown C8
      generalize e8 : T8.heap = h8 at hQ8 I8
      obtain ⟨x8, rfl, N8q, gx8, Kq8, Eq8, O8_⟩ := hQ8
      have N8 := Fr.app N0 N8q
      have Z8 : n0 ≤ h8.size := Nat.le_trans Z0 Kq8.1
      refine wwn_go (fun _ kk_ => st8.trans kk_) ?_
      show own_W p e below s Z own_EL _ _ _ (T8.setTop (mkF m 34 #[.val (.int x0), .val (.int x1), .val (.int x2), .val (.int x3), .val (.int (x0 &&& (7 : Int32))), .val .null, .unset, .unset, .unset, .unset] [(.ref x8)]))
      refine wwn_go (fun _ kk_ => XS.goto X8.here hx rfl (pc0 := 34) (pc' := 38) rfl (hb hby at_34) (by decide) (by decide) kk_) ?_
      show own_W p e below s Z own_EL _ _ _ (T8.setTop (mkF m 38 #[.val (.int x0), .val (.int x1), .val (.int x2), .val (.int x3), .val (.int (x0 &&& (7 : Int32))), .val .null, .unset, .unset, .unset, .unset] [(.ref x8)]))
      refine wwn_go (fun _ kk_ => XS.astore X8.here hx rfl (hb hby at_38) rfl rfl (l' := #[.val (.int x0), .val (.int x1), .val (.int x2), .val (.int x3), .val (.int (x0 &&& (7 : Int32))), .val .null, .val (.ref x8), .unset, .unset, .unset]) rfl kk_) ?_
      show own_W p e below s Z own_EL _ _ _ (T8.setTop (mkF m 40 #[.val (.int x0), .val (.int x1), .val (.int x2), .val (.int x3), .val (.int (x0 &&& (7 : Int32))), .val .null, .val (.ref x8), .unset, .unset, .unset] []))
      refine wwn_go (fun _ kk_ => XS.iload X8.here hx rfl (hb hby at_40) rfl kk_) ?_
      show own_W p e below s Z own_EL _ _ _ (T8.setTop (mkF m 42 #[.val (.int x0), .val (.int x1), .val (.int x2), .val (.int x3), .val (.int (x0 &&& (7 : Int32))), .val .null, .val (.ref x8), .unset, .unset, .unset] [(.int (x0 &&& (7 : Int32)))]))
      refine wwn_go (fun _ kk_ => XS.iconst X8.here hx rfl (hb hby at_42) kk_) ?_
      show own_W p e below s Z own_EL _ _ _ (T8.setTop (mkF m 43 #[.val (.int x0), .val (.int x1), .val (.int x2), .val (.int x3), .val (.int (x0 &&& (7 : Int32))), .val .null, .val (.ref x8), .unset, .unset, .unset] [(.int (4 : Int32)), (.int (x0 &&& (7 : Int32)))]))
      refine wwn_go (fun _ kk_ => XS.iand X8.here hx rfl (hb hby at_43) rfl kk_) ?_
      show own_W p e below s Z own_EL _ _ _ (T8.setTop (mkF m 44 #[.val (.int x0), .val (.int x1), .val (.int x2), .val (.int x3), .val (.int (x0 &&& (7 : Int32))), .val .null, .val (.ref x8), .unset, .unset, .unset] [(.int ((x0 &&& (7 : Int32)) &&& (4 : Int32)))]))
      refine wwn_if_eq X8 hx (pc := 44) (pc' := 54) (hb hby at_44) (by decide) (by decide) (fun hc44 => ?_) (fun hc44 => ?_)
      · show own_W p e below s Z own_EL _ _ _ (T8.setTop (mkF m 54 #[.val (.int x0), .val (.int x1), .val (.int x2), .val (.int x3), .val (.int (x0 &&& (7 : Int32))), .val .null, .val (.ref x8), .unset, .unset, .unset] []))
        refine wwn_go (fun _ kk_ => XS.aconstNull X8.here hx rfl (hb hby at_54) kk_) ?_
        show own_W p e below s Z own_EL _ _ _ (T8.setTop (mkF m 55 #[.val (.int x0), .val (.int x1), .val (.int x2), .val (.int x3), .val (.int (x0 &&& (7 : Int32))), .val .null, .val (.ref x8), .unset, .unset, .unset] [.null]))
        refine wwn_go (fun _ kk_ => XS.astore X8.here hx rfl (hb hby at_55) rfl rfl (l' := #[.val (.int x0), .val (.int x1), .val (.int x2), .val (.int x3), .val (.int (x0 &&& (7 : Int32))), .val .null, .val (.ref x8), .val .null, .unset, .unset]) rfl kk_) ?_
        show own_W p e below s Z own_EL _ _ _ (T8.setTop (mkF m 57 #[.val (.int x0), .val (.int x1), .val (.int x2), .val (.int x3), .val (.int (x0 &&& (7 : Int32))), .val .null, .val (.ref x8), .val .null, .unset, .unset] []))
        obtain ⟨T9, h9, X9, e9, E9, A9, D9, -, st9⟩ := newO X8 hx hZ hown (hw _ (List.mem_of_getElem? (i := 0) rfl)) (hw _ (List.mem_of_getElem? (i := 1) rfl)) (hw _ (List.mem_of_getElem? (i := 2) rfl)) e8 (g := (mkF m 57 #[.val (.int x0), .val (.int x1), .val (.int x2), .val (.int x3), .val (.int (x0 &&& (7 : Int32))), .val .null, .val (.ref x8), .val .null, .unset, .unset] [])) rfl (hb hby at_57) (by decide) (by decide)
        obtain ⟨b9, g9⟩ : ∃ z, z = h8.size := ⟨_, rfl⟩
        rw [← g9] at A9 D9 st9
        refine wwn_go st9 ?_
        have I9 := I8.ext E9
        have O9_ := O8_.ext E9
        have g_b9 : n0 ≤ b9 := Nat.le_trans Z8 (Nat.le_of_eq g9.symm)
        have Z9 : n0 ≤ h9.size := Nat.le_trans Z8 E9.1
        have F9_b9_vendor : Fld Z h9 b9 "com/example/accordant/accordant/policy/Scope" "vendor" "Ljava/lang/String;" .null := D9 (Or.inr (hw _ (List.mem_of_getElem? (i := 15) rfl))) (ty := (.object "java/lang/String")) (by decide)
        have F9_b9_item : Fld Z h9 b9 "com/example/accordant/accordant/policy/Scope" "item" "Ljava/lang/String;" .null := D9 (Or.inr (hw _ (List.mem_of_getElem? (i := 17) rfl))) (ty := (.object "java/lang/String")) (by decide)
        have F9_b9_itemGroup : Fld Z h9 b9 "com/example/accordant/accordant/policy/Scope" "itemGroup" "Ljava/lang/String;" .null := D9 (Or.inr (hw _ (List.mem_of_getElem? (i := 19) rfl))) (ty := (.object "java/lang/String")) (by decide)
        show own_W p e below s Z own_EL _ _ _ (T9.setTop (mkF m 60 #[.val (.int x0), .val (.int x1), .val (.int x2), .val (.int x3), .val (.int (x0 &&& (7 : Int32))), .val .null, .val (.ref x8), .val .null, .unset, .unset] [(.ref b9)]))
        refine wwn_go (fun _ kk_ => XS.dup X9.here hx rfl (hb hby at_60) rfl rfl kk_) ?_
        show own_W p e below s Z own_EL _ _ _ (T9.setTop (mkF m 61 #[.val (.int x0), .val (.int x1), .val (.int x2), .val (.int x3), .val (.int (x0 &&& (7 : Int32))), .val .null, .val (.ref x8), .val .null, .unset, .unset] [(.ref b9), (.ref b9)]))
        refine wwn_go (fun _ kk_ => XS.aload X9.here hx rfl (hb hby at_61) rfl rfl kk_) ?_
        show own_W p e below s Z own_EL _ _ _ (T9.setTop (mkF m 63 #[.val (.int x0), .val (.int x1), .val (.int x2), .val (.int x3), .val (.int (x0 &&& (7 : Int32))), .val .null, .val (.ref x8), .val .null, .unset, .unset] [.null, (.ref b9), (.ref b9)]))
        refine wwn_go (fun _ kk_ => XS.aload X9.here hx rfl (hb hby at_63) rfl rfl kk_) ?_
        show own_W p e below s Z own_EL _ _ _ (T9.setTop (mkF m 65 #[.val (.int x0), .val (.int x1), .val (.int x2), .val (.int x3), .val (.int (x0 &&& (7 : Int32))), .val .null, .val (.ref x8), .val .null, .unset, .unset] [(.ref x8), .null, (.ref b9), (.ref b9)]))
        refine wwn_go (fun _ kk_ => XS.aload X9.here hx rfl (hb hby at_65) rfl rfl kk_) ?_
        show own_W p e below s Z own_EL _ _ _ (T9.setTop (mkF m 67 #[.val (.int x0), .val (.int x1), .val (.int x2), .val (.int x3), .val (.int (x0 &&& (7 : Int32))), .val .null, .val (.ref x8), .val .null, .unset, .unset] [.null, (.ref x8), .null, (.ref b9), (.ref b9)]))
        obtain ⟨_, _, ⟨T10, L10, k10, n10⟩, -, X10, ⟨Lc10, hQ10, l10, y10, z10⟩, st10⟩ := X9.specialBack hx (y := (⟨"com/example/accordant/accordant/policy/Scope", "<init>", "(Ljava/lang/String;Ljava/lang/String;Ljava/lang/String;)V"⟩ : MethodName)) rfl hown (mvT hZ (hw _ (List.mem_of_getElem? (i := 3) rfl))) (mvT hZ (hw _ (List.mem_of_getElem? (i := 4) rfl))) (mvT hZ (hw _ (List.mem_of_getElem? (i := 5) rfl))) (by decide) (backOf (W := 1) (rmI010 l Z a0 hw [] b9 x8 h9 n0 Z9 A9 g_b9 F9_b9_vendor F9_b9_item F9_b9_itemGroup) hZ (hw _ (List.mem_of_getElem? (i := 5) rfl)) (hw _ (List.mem_of_getElem? (i := 2) rfl)) (by decide) (by decide)) (g := (mkF m 67 #[.val (.int x0), .val (.int x1), .val (.int x2), .val (.int x3), .val (.int (x0 &&& (7 : Int32))), .val .null, .val (.ref x8), .val .null, .unset, .unset] [.null, (.ref x8), .null, (.ref b9), (.ref b9)])) rfl (by rw [hml]; rfl) (Steps.refl _) (a := b9) (argsL := [.null, (.ref x8), .null]) (rest := [(.ref b9)]) (lenOf pd_3 rfl) rfl (by show 2 * 0 + _ ≤ _; exact Nat.le_of_eq rfl) (hb hby at_67) (fun _ _ => ⟨rfl, e9, (by decide : 7 + 0 ≤ _), (by decide : 15 + 0 ≤ _)⟩)
        dsimp only [Pt.U, Pt.locs, Pt.cells, Pt.slots] at X10 l10 y10 z10 st10 hQ10
        subst l10 y10 z10
        generalize e10 : T10.heap = h10 at hQ10
        obtain ⟨rfl, N10q, Kq10, Eq10, F10_0, F10_1, F10_2⟩ := hQ10
        have N10 := Fr.app N8 N10q
        have I10 := I9.keep Kq10 (fun y hy => by cases List.mem_singleton.mp hy; exact (Safe.exa hZ.alike A9 (by decide) (by decide)))
        have Z10 : n0 ≤ h10.size := Nat.le_trans Z9 Kq10.1
        refine wwn_go (fun _ kk_ => st10.trans kk_) ?_
        show own_W p e below s Z own_EL _ _ _ (T10.setTop (mkF m 70 #[.val (.int x0), .val (.int x1), .val (.int x2), .val (.int x3), .val (.int (x0 &&& (7 : Int32))), .val .null, .val (.ref x8), .val .null, .unset, .unset] [(.ref b9)]))
        refine wwn_go (fun _ kk_ => XS.astore X10.here hx rfl (hb hby at_70) rfl rfl (l' := #[.val (.int x0), .val (.int x1), .val (.int x2), .val (.int x3), .val (.int (x0 &&& (7 : Int32))), .val .null, .val (.ref x8), .val .null, .val (.ref b9), .unset]) rfl kk_) ?_
        show own_W p e below s Z own_EL _ _ _ (T10.setTop (mkF m 72 #[.val (.int x0), .val (.int x1), .val (.int x2), .val (.int x3), .val (.int (x0 &&& (7 : Int32))), .val .null, .val (.ref x8), .val .null, .val (.ref b9), .unset] []))
        refine wwn_go (fun _ kk_ => XS.iconst X10.here hx rfl (hb hby at_72) kk_) ?_
        show own_W p e below s Z own_EL _ _ _ (T10.setTop (mkF m 73 #[.val (.int x0), .val (.int x1), .val (.int x2), .val (.int x3), .val (.int (x0 &&& (7 : Int32))), .val .null, .val (.ref x8), .val .null, .val (.ref b9), .unset] [(.int (0 : Int32))]))
        refine wwn_go (fun _ kk_ => XS.istore X10.here hx rfl (hb hby at_73) rfl (l' := #[.val (.int x0), .val (.int x1), .val (.int x2), .val (.int x3), .val (.int (x0 &&& (7 : Int32))), .val .null, .val (.ref x8), .val .null, .val (.ref b9), .val (.int (0 : Int32))]) rfl kk_) ?_
        show own_W p e below s Z own_EL _ _ _ (T10.setTop (mkF m 75 #[.val (.int x0), .val (.int x1), .val (.int x2), .val (.int x3), .val (.int (x0 &&& (7 : Int32))), .val .null, .val (.ref x8), .val .null, .val (.ref b9), .val (.int (0 : Int32))] []))
        refine wwn_go (fun _ kk_ => XS.aload X10.here hx rfl (hb hby at_75) rfl rfl kk_) ?_
        show own_W p e below s Z own_EL _ _ _ (T10.setTop (mkF m 77 #[.val (.int x0), .val (.int x1), .val (.int x2), .val (.int x3), .val (.int (x0 &&& (7 : Int32))), .val .null, .val (.ref x8), .val .null, .val (.ref b9), .val (.int (0 : Int32))] [.null]))
        refine wwn_go (fun _ kk_ => XS.ifnullYes X10.here hx rfl (pc0 := 77) (pc' := 86) rfl (hb hby at_77) rfl (by decide) (by decide) kk_) ?_
        show own_W p e below s Z own_EL _ _ _ (T10.setTop (mkF m 86 #[.val (.int x0), .val (.int x1), .val (.int x2), .val (.int x3), .val (.int (x0 &&& (7 : Int32))), .val .null, .val (.ref x8), .val .null, .val (.ref b9), .val (.int (0 : Int32))] []))
        refine wwn_go (fun _ kk_ => XS.aload X10.here hx rfl (hb hby at_86) rfl rfl kk_) ?_
        show own_W p e below s Z own_EL _ _ _ (T10.setTop (mkF m 88 #[.val (.int x0), .val (.int x1), .val (.int x2), .val (.int x3), .val (.int (x0 &&& (7 : Int32))), .val .null, .val (.ref x8), .val .null, .val (.ref b9), .val (.int (0 : Int32))] [(.ref x8)]))
        refine wwn_go (fun _ kk_ => XS.ifnullNo X10.here hx rfl (hb hby at_88) rfl kk_) ?_
        show own_W p e below s Z own_EL _ _ _ (T10.setTop (mkF m 91 #[.val (.int x0), .val (.int x1), .val (.int x2), .val (.int x3), .val (.int (x0 &&& (7 : Int32))), .val .null, .val (.ref x8), .val .null, .val (.ref b9), .val (.int (0 : Int32))] []))
        refine wwn_go (fun _ kk_ => XS.iload X10.here hx rfl (hb hby at_91) rfl kk_) ?_
        show own_W p e below s Z own_EL _ _ _ (T10.setTop (mkF m 93 #[.val (.int x0), .val (.int x1), .val (.int x2), .val (.int x3), .val (.int (x0 &&& (7 : Int32))), .val .null, .val (.ref x8), .val .null, .val (.ref b9), .val (.int (0 : Int32))] [(.int (0 : Int32))]))
        refine wwn_go (fun _ kk_ => XS.iconst X10.here hx rfl (hb hby at_93) kk_) ?_
        show own_W p e below s Z own_EL _ _ _ (T10.setTop (mkF m 94 #[.val (.int x0), .val (.int x1), .val (.int x2), .val (.int x3), .val (.int (x0 &&& (7 : Int32))), .val .null, .val (.ref x8), .val .null, .val (.ref b9), .val (.int (0 : Int32))] [(.int (2 : Int32)), (.int (0 : Int32))]))
        refine wwn_go (fun _ kk_ => XS.iadd X10.here hx rfl (hb hby at_94) rfl kk_) ?_
        show own_W p e below s Z own_EL _ _ _ (T10.setTop (mkF m 95 #[.val (.int x0), .val (.int x1), .val (.int x2), .val (.int x3), .val (.int (x0 &&& (7 : Int32))), .val .null, .val (.ref x8), .val .null, .val (.ref b9), .val (.int (0 : Int32))] [(.int (2 : Int32))]))
        refine wwn_go (fun _ kk_ => XS.istore X10.here hx rfl (hb hby at_95) rfl (l' := #[.val (.int x0), .val (.int x1), .val (.int x2), .val (.int x3), .val (.int (x0 &&& (7 : Int32))), .val .null, .val (.ref x8), .val .null, .val (.ref b9), .val (.int (2 : Int32))]) rfl kk_) ?_
        show own_W p e below s Z own_EL _ _ _ (T10.setTop (mkF m 97 #[.val (.int x0), .val (.int x1), .val (.int x2), .val (.int x3), .val (.int (x0 &&& (7 : Int32))), .val .null, .val (.ref x8), .val .null, .val (.ref b9), .val (.int (2 : Int32))] []))
        refine wwn_go (fun _ kk_ => XS.aload X10.here hx rfl (hb hby at_97) rfl rfl kk_) ?_
        show own_W p e below s Z own_EL _ _ _ (T10.setTop (mkF m 99 #[.val (.int x0), .val (.int x1), .val (.int x2), .val (.int x3), .val (.int (x0 &&& (7 : Int32))), .val .null, .val (.ref x8), .val .null, .val (.ref b9), .val (.int (2 : Int32))] [.null]))
        refine wwn_go (fun _ kk_ => XS.ifnullYes X10.here hx rfl (pc0 := 99) (pc' := 108) rfl (hb hby at_99) rfl (by decide) (by decide) kk_) ?_
        show own_W p e below s Z own_EL _ _ _ (T10.setTop (mkF m 108 #[.val (.int x0), .val (.int x1), .val (.int x2), .val (.int x3), .val (.int (x0 &&& (7 : Int32))), .val .null, .val (.ref x8), .val .null, .val (.ref b9), .val (.int (2 : Int32))] []))
        refine wwn_go (fun _ kk_ => XS.aload X10.here hx rfl (hb hby at_108) rfl rfl kk_) ?_
        show own_W p e below s Z own_EL _ _ _ (T10.setTop (mkF m 110 #[.val (.int x0), .val (.int x1), .val (.int x2), .val (.int x3), .val (.int (x0 &&& (7 : Int32))), .val .null, .val (.ref x8), .val .null, .val (.ref b9), .val (.int (2 : Int32))] [(.ref b9)]))
        obtain ⟨cq11, kq11, q11a, q11b, q11c⟩ := isOf hZ e10 Eq10
        obtain ⟨_, _, ⟨T11, L11, k11, n11⟩, -, X11, ⟨Lc11, hQ11, l11, y11, z11⟩, st11⟩ := X10.virtualBack hx (y := (⟨"com/example/accordant/accordant/policy/Scope", "shape", "()I"⟩ : MethodName)) (z := (⟨"com/example/accordant/accordant/policy/Scope", "shape", "()I"⟩ : MethodName)) hown (mvT hZ (hw _ (List.mem_of_getElem? (i := 20) rfl))) (mvT hZ (hw _ (List.mem_of_getElem? (i := 21) rfl))) (notFace_of_selects (args := #[]) (mvT hZ (hw _ (List.mem_of_getElem? (i := 23) rfl)))) (mvT hZ (hw _ (List.mem_of_getElem? (i := 23) rfl))) (mvT hZ (hw _ (List.mem_of_getElem? (i := 22) rfl))) (by decide) (backOf (W := 0) (rmP010 l Z a0 hw [] b9 x8 h10 n0 Z10 F10_0 F10_1 F10_2) hZ (hw _ (List.mem_of_getElem? (i := 24) rfl)) (hw _ (List.mem_of_getElem? (i := 2) rfl)) (by decide) (by decide)) q11a q11c (g := (mkF m 110 #[.val (.int x0), .val (.int x1), .val (.int x2), .val (.int x3), .val (.int (x0 &&& (7 : Int32))), .val .null, .val (.ref x8), .val .null, .val (.ref b9), .val (.int (2 : Int32))] [(.ref b9)])) rfl (by rw [hml]; rfl) (Steps.refl _) (argsL := []) (rest := []) (lenOf pd_4 rfl) rfl (by show 2 * 0 + _ ≤ _; exact Nat.le_of_eq rfl) (hb hby at_110) (fun _ _ => ⟨rfl, e10, (by decide : 7 + 0 ≤ _), (by decide : 15 + 0 ≤ _)⟩)
        dsimp only [Pt.U, Pt.locs, Pt.cells, Pt.slots] at X11 l11 y11 z11 st11 hQ11
        subst l11 y11 z11
        obtain ⟨rfl, N11q, e11⟩ := hQ11
        have N11 := Fr.app N10 N11q
        refine wwn_go (fun _ kk_ => st11.trans kk_) ?_
        show own_W p e below s Z own_EL _ _ _ (T11.setTop (mkF m 113 #[.val (.int x0), .val (.int x1), .val (.int x2), .val (.int x3), .val (.int (x0 &&& (7 : Int32))), .val .null, .val (.ref x8), .val .null, .val (.ref b9), .val (.int (2 : Int32))] [(.int (2 : Int32))]))
        refine wwn_go (fun _ kk_ => XS.iload X11.here hx rfl (hb hby at_113) rfl kk_) ?_
        show own_W p e below s Z own_EL _ _ _ (T11.setTop (mkF m 115 #[.val (.int x0), .val (.int x1), .val (.int x2), .val (.int x3), .val (.int (x0 &&& (7 : Int32))), .val .null, .val (.ref x8), .val .null, .val (.ref b9), .val (.int (2 : Int32))] [(.int (2 : Int32)), (.int (2 : Int32))]))
        refine wwn_ic_neN X11 hx (pc := 115) (hb hby at_115) (by decide) ?_
        show own_W p e below s Z own_EL _ _ _ (T11.setTop (mkF m 118 #[.val (.int x0), .val (.int x1), .val (.int x2), .val (.int x3), .val (.int (x0 &&& (7 : Int32))), .val .null, .val (.ref x8), .val .null, .val (.ref b9), .val (.int (2 : Int32))] []))
        refine wwn_go (fun _ kk_ => XS.iload X11.here hx rfl (hb hby at_118) rfl kk_) ?_
        show own_W p e below s Z own_EL _ _ _ (T11.setTop (mkF m 120 #[.val (.int x0), .val (.int x1), .val (.int x2), .val (.int x3), .val (.int (x0 &&& (7 : Int32))), .val .null, .val (.ref x8), .val .null, .val (.ref b9), .val (.int (2 : Int32))] [(.int (2 : Int32))]))
        refine wwn_go (fun _ kk_ => XS.iload X11.here hx rfl (hb hby at_120) rfl kk_) ?_
        show own_W p e below s Z own_EL _ _ _ (T11.setTop (mkF m 122 #[.val (.int x0), .val (.int x1), .val (.int x2), .val (.int x3), .val (.int (x0 &&& (7 : Int32))), .val .null, .val (.ref x8), .val .null, .val (.ref b9), .val (.int (2 : Int32))] [(.int (x0 &&& (7 : Int32))), (.int (2 : Int32))]))
        refine wwn_ic_neN X11 hx (pc := 122) (hb hby at_122) (by rw [own_bits x0, if_pos hc10, if_neg hc27, if_pos hc44]; rfl) ?_
        show own_W p e below s Z own_EL _ _ _ (T11.setTop (mkF m 125 #[.val (.int x0), .val (.int x1), .val (.int x2), .val (.int x3), .val (.int (x0 &&& (7 : Int32))), .val .null, .val (.ref x8), .val .null, .val (.ref b9), .val (.int (2 : Int32))] []))
        refine wwn_go (fun _ kk_ => XS.iconst X11.here hx rfl (hb hby at_125) kk_) ?_
        show own_W p e below s Z own_EL _ _ _ (T11.setTop (mkF m 126 #[.val (.int x0), .val (.int x1), .val (.int x2), .val (.int x3), .val (.int (x0 &&& (7 : Int32))), .val .null, .val (.ref x8), .val .null, .val (.ref b9), .val (.int (2 : Int32))] [(.int (1 : Int32))]))
        refine wwn_go (fun _ kk_ => XS.goto X11.here hx rfl (pc0 := 126) (pc' := 130) rfl (hb hby at_126) (by decide) (by decide) kk_) ?_
        show own_W p e below s Z own_EL _ _ _ (T11.setTop (mkF m 130 #[.val (.int x0), .val (.int x1), .val (.int x2), .val (.int x3), .val (.int (x0 &&& (7 : Int32))), .val .null, .val (.ref x8), .val .null, .val (.ref b9), .val (.int (2 : Int32))] [(.int (1 : Int32))]))
        exact wwn_retN (t := .boolean) (ht := by simp) X11 hx hZ hEL Bd.returns (BodyLoose.notSynchronized Bd) (hb hby at_130) e11 I10 ⟨rfl, N11⟩ (by decide) (by decide)
      · show own_W p e below s Z own_EL _ _ _ (T8.setTop (mkF m 47 #[.val (.int x0), .val (.int x1), .val (.int x2), .val (.int x3), .val (.int (x0 &&& (7 : Int32))), .val .null, .val (.ref x8), .unset, .unset, .unset] []))
        refine wwn_go (fun _ kk_ => XS.iloadN X8.here hx rfl (hb hby at_47) rfl kk_) ?_
        show own_W p e below s Z own_EL _ _ _ (T8.setTop (mkF m 48 #[.val (.int x0), .val (.int x1), .val (.int x2), .val (.int x3), .val (.int (x0 &&& (7 : Int32))), .val .null, .val (.ref x8), .unset, .unset, .unset] [(.int x3)]))
        obtain ⟨_, _, ⟨T12, L12, k12, n12⟩, -, X12, S12, gr12, ⟨Lc12, hQ12, l12, y12, z12, C12⟩, st12⟩ := callSS X8 hx (y := (⟨"com/example/accordant/accordant/policy/ScopeShapePinLaw", "str", "(I)Ljava/lang/String;"⟩ : MethodName)) hown (mvT hZ (hw _ (List.mem_of_getElem? (i := 25) rfl))) (mvT hZ (hw _ (List.mem_of_getElem? (i := 26) rfl))) (mvT hZ (hw _ (List.mem_of_getElem? (i := 27) rfl))) (mvT hZ (hw _ (List.mem_of_getElem? (i := 28) rfl))) (by decide) (backOfSH (W := 0) (rmStr l Z a0 hw [] x3 zc h8 n0 Z8 O8_ O2 hz) hZ (hw _ (List.mem_of_getElem? (i := 28) rfl)) (hw _ (List.mem_of_getElem? (i := 27) rfl)) (by decide) (by decide) hEL I8.1.1) (g := (mkF m 48 #[.val (.int x0), .val (.int x1), .val (.int x2), .val (.int x3), .val (.int (x0 &&& (7 : Int32))), .val .null, .val (.ref x8), .unset, .unset, .unset] [(.int x3)])) rfl (by rw [hml]; rfl) (argsL := [(.int x3)]) (rest := []) (lenOf pd_5 rfl) rfl (by show 2 * 0 + _ ≤ _; exact Nat.le_of_eq rfl) (hb hby at_48) (fun _ _ => ⟨rfl, e8, (by decide : 6 + 6 ≤ _), (by decide : 12 + 12 ≤ _)⟩)
        dsimp only [Pt.U, Pt.locs, Pt.cells, Pt.slots] at X12 S12 gr12 l12 y12 z12 C12 st12 hQ12
        subst l12 y12 z12
        obtain ⟨X12, I12, hZ, hown⟩ := own_I.reb I8 e8 X12 S12 gr12 hZ hown C12
        generalize e12 : T12.heap = h12 at hQ12 I12
        obtain ⟨x12, rfl, N12q, gx12, Kq12, Eq12, O12_⟩ := hQ12
        have N12 := Fr.app N8 N12q
        have Z12 : n0 ≤ h12.size := Nat.le_trans Z8 Kq12.1
        refine wwn_go (fun _ kk_ => st12.trans kk_) ?_
        show own_W p e below s Z own_EL _ _ _ (T12.setTop (mkF m 51 #[.val (.int x0), .val (.int x1), .val (.int x2), .val (.int x3), .val (.int (x0 &&& (7 : Int32))), .val .null, .val (.ref x8), .unset, .unset, .unset] [(.ref x12)]))
        refine wwn_go (fun _ kk_ => XS.goto X12.here hx rfl (pc0 := 51) (pc' := 55) rfl (hb hby at_51) (by decide) (by decide) kk_) ?_
        show own_W p e below s Z own_EL _ _ _ (T12.setTop (mkF m 55 #[.val (.int x0), .val (.int x1), .val (.int x2), .val (.int x3), .val (.int (x0 &&& (7 : Int32))), .val .null, .val (.ref x8), .unset, .unset, .unset] [(.ref x12)]))
        refine wwn_go (fun _ kk_ => XS.astore X12.here hx rfl (hb hby at_55) rfl rfl (l' := #[.val (.int x0), .val (.int x1), .val (.int x2), .val (.int x3), .val (.int (x0 &&& (7 : Int32))), .val .null, .val (.ref x8), .val (.ref x12), .unset, .unset]) rfl kk_) ?_
        show own_W p e below s Z own_EL _ _ _ (T12.setTop (mkF m 57 #[.val (.int x0), .val (.int x1), .val (.int x2), .val (.int x3), .val (.int (x0 &&& (7 : Int32))), .val .null, .val (.ref x8), .val (.ref x12), .unset, .unset] []))
        obtain ⟨T13, h13, X13, e13, E13, A13, D13, -, st13⟩ := newO X12 hx hZ hown (hw _ (List.mem_of_getElem? (i := 0) rfl)) (hw _ (List.mem_of_getElem? (i := 1) rfl)) (hw _ (List.mem_of_getElem? (i := 2) rfl)) e12 (g := (mkF m 57 #[.val (.int x0), .val (.int x1), .val (.int x2), .val (.int x3), .val (.int (x0 &&& (7 : Int32))), .val .null, .val (.ref x8), .val (.ref x12), .unset, .unset] [])) rfl (hb hby at_57) (by decide) (by decide)
        obtain ⟨b13, g13⟩ : ∃ z, z = h12.size := ⟨_, rfl⟩
        rw [← g13] at A13 D13 st13
        refine wwn_go st13 ?_
        have I13 := I12.ext E13
        have O13_ := O12_.ext E13
        have g_b13 : n0 ≤ b13 := Nat.le_trans Z12 (Nat.le_of_eq g13.symm)
        have Z13 : n0 ≤ h13.size := Nat.le_trans Z12 E13.1
        have F13_b13_vendor : Fld Z h13 b13 "com/example/accordant/accordant/policy/Scope" "vendor" "Ljava/lang/String;" .null := D13 (Or.inr (hw _ (List.mem_of_getElem? (i := 15) rfl))) (ty := (.object "java/lang/String")) (by decide)
        have F13_b13_item : Fld Z h13 b13 "com/example/accordant/accordant/policy/Scope" "item" "Ljava/lang/String;" .null := D13 (Or.inr (hw _ (List.mem_of_getElem? (i := 17) rfl))) (ty := (.object "java/lang/String")) (by decide)
        have F13_b13_itemGroup : Fld Z h13 b13 "com/example/accordant/accordant/policy/Scope" "itemGroup" "Ljava/lang/String;" .null := D13 (Or.inr (hw _ (List.mem_of_getElem? (i := 19) rfl))) (ty := (.object "java/lang/String")) (by decide)
        show own_W p e below s Z own_EL _ _ _ (T13.setTop (mkF m 60 #[.val (.int x0), .val (.int x1), .val (.int x2), .val (.int x3), .val (.int (x0 &&& (7 : Int32))), .val .null, .val (.ref x8), .val (.ref x12), .unset, .unset] [(.ref b13)]))
        refine wwn_go (fun _ kk_ => XS.dup X13.here hx rfl (hb hby at_60) rfl rfl kk_) ?_
        show own_W p e below s Z own_EL _ _ _ (T13.setTop (mkF m 61 #[.val (.int x0), .val (.int x1), .val (.int x2), .val (.int x3), .val (.int (x0 &&& (7 : Int32))), .val .null, .val (.ref x8), .val (.ref x12), .unset, .unset] [(.ref b13), (.ref b13)]))
        refine wwn_go (fun _ kk_ => XS.aload X13.here hx rfl (hb hby at_61) rfl rfl kk_) ?_
        show own_W p e below s Z own_EL _ _ _ (T13.setTop (mkF m 63 #[.val (.int x0), .val (.int x1), .val (.int x2), .val (.int x3), .val (.int (x0 &&& (7 : Int32))), .val .null, .val (.ref x8), .val (.ref x12), .unset, .unset] [.null, (.ref b13), (.ref b13)]))
        refine wwn_go (fun _ kk_ => XS.aload X13.here hx rfl (hb hby at_63) rfl rfl kk_) ?_
        show own_W p e below s Z own_EL _ _ _ (T13.setTop (mkF m 65 #[.val (.int x0), .val (.int x1), .val (.int x2), .val (.int x3), .val (.int (x0 &&& (7 : Int32))), .val .null, .val (.ref x8), .val (.ref x12), .unset, .unset] [(.ref x8), .null, (.ref b13), (.ref b13)]))
        refine wwn_go (fun _ kk_ => XS.aload X13.here hx rfl (hb hby at_65) rfl rfl kk_) ?_
        show own_W p e below s Z own_EL _ _ _ (T13.setTop (mkF m 67 #[.val (.int x0), .val (.int x1), .val (.int x2), .val (.int x3), .val (.int (x0 &&& (7 : Int32))), .val .null, .val (.ref x8), .val (.ref x12), .unset, .unset] [(.ref x12), (.ref x8), .null, (.ref b13), (.ref b13)]))
        obtain ⟨_, _, ⟨T14, L14, k14, n14⟩, -, X14, ⟨Lc14, hQ14, l14, y14, z14⟩, st14⟩ := X13.specialBack hx (y := (⟨"com/example/accordant/accordant/policy/Scope", "<init>", "(Ljava/lang/String;Ljava/lang/String;Ljava/lang/String;)V"⟩ : MethodName)) rfl hown (mvT hZ (hw _ (List.mem_of_getElem? (i := 3) rfl))) (mvT hZ (hw _ (List.mem_of_getElem? (i := 4) rfl))) (mvT hZ (hw _ (List.mem_of_getElem? (i := 5) rfl))) (by decide) (backOf (W := 1) (rmI011 l Z a0 hw [] b13 x8 x12 h13 n0 Z13 A13 g_b13 F13_b13_vendor F13_b13_item F13_b13_itemGroup) hZ (hw _ (List.mem_of_getElem? (i := 5) rfl)) (hw _ (List.mem_of_getElem? (i := 2) rfl)) (by decide) (by decide)) (g := (mkF m 67 #[.val (.int x0), .val (.int x1), .val (.int x2), .val (.int x3), .val (.int (x0 &&& (7 : Int32))), .val .null, .val (.ref x8), .val (.ref x12), .unset, .unset] [(.ref x12), (.ref x8), .null, (.ref b13), (.ref b13)])) rfl (by rw [hml]; rfl) (Steps.refl _) (a := b13) (argsL := [.null, (.ref x8), (.ref x12)]) (rest := [(.ref b13)]) (lenOf pd_3 rfl) rfl (by show 2 * 0 + _ ≤ _; exact Nat.le_of_eq rfl) (hb hby at_67) (fun _ _ => ⟨rfl, e13, (by decide : 13 + 0 ≤ _), (by decide : 27 + 0 ≤ _)⟩)
        dsimp only [Pt.U, Pt.locs, Pt.cells, Pt.slots] at X14 l14 y14 z14 st14 hQ14
        subst l14 y14 z14
        generalize e14 : T14.heap = h14 at hQ14
        obtain ⟨rfl, N14q, Kq14, Eq14, F14_0, F14_1, F14_2⟩ := hQ14
        have N14 := Fr.app N12 N14q
        have I14 := I13.keep Kq14 (fun y hy => by cases List.mem_singleton.mp hy; exact (Safe.exa hZ.alike A13 (by decide) (by decide)))
        have Z14 : n0 ≤ h14.size := Nat.le_trans Z13 Kq14.1
        refine wwn_go (fun _ kk_ => st14.trans kk_) ?_
        show own_W p e below s Z own_EL _ _ _ (T14.setTop (mkF m 70 #[.val (.int x0), .val (.int x1), .val (.int x2), .val (.int x3), .val (.int (x0 &&& (7 : Int32))), .val .null, .val (.ref x8), .val (.ref x12), .unset, .unset] [(.ref b13)]))
        refine wwn_go (fun _ kk_ => XS.astore X14.here hx rfl (hb hby at_70) rfl rfl (l' := #[.val (.int x0), .val (.int x1), .val (.int x2), .val (.int x3), .val (.int (x0 &&& (7 : Int32))), .val .null, .val (.ref x8), .val (.ref x12), .val (.ref b13), .unset]) rfl kk_) ?_
        show own_W p e below s Z own_EL _ _ _ (T14.setTop (mkF m 72 #[.val (.int x0), .val (.int x1), .val (.int x2), .val (.int x3), .val (.int (x0 &&& (7 : Int32))), .val .null, .val (.ref x8), .val (.ref x12), .val (.ref b13), .unset] []))
        refine wwn_go (fun _ kk_ => XS.iconst X14.here hx rfl (hb hby at_72) kk_) ?_
        show own_W p e below s Z own_EL _ _ _ (T14.setTop (mkF m 73 #[.val (.int x0), .val (.int x1), .val (.int x2), .val (.int x3), .val (.int (x0 &&& (7 : Int32))), .val .null, .val (.ref x8), .val (.ref x12), .val (.ref b13), .unset] [(.int (0 : Int32))]))
        refine wwn_go (fun _ kk_ => XS.istore X14.here hx rfl (hb hby at_73) rfl (l' := #[.val (.int x0), .val (.int x1), .val (.int x2), .val (.int x3), .val (.int (x0 &&& (7 : Int32))), .val .null, .val (.ref x8), .val (.ref x12), .val (.ref b13), .val (.int (0 : Int32))]) rfl kk_) ?_
        show own_W p e below s Z own_EL _ _ _ (T14.setTop (mkF m 75 #[.val (.int x0), .val (.int x1), .val (.int x2), .val (.int x3), .val (.int (x0 &&& (7 : Int32))), .val .null, .val (.ref x8), .val (.ref x12), .val (.ref b13), .val (.int (0 : Int32))] []))
        refine wwn_go (fun _ kk_ => XS.aload X14.here hx rfl (hb hby at_75) rfl rfl kk_) ?_
        show own_W p e below s Z own_EL _ _ _ (T14.setTop (mkF m 77 #[.val (.int x0), .val (.int x1), .val (.int x2), .val (.int x3), .val (.int (x0 &&& (7 : Int32))), .val .null, .val (.ref x8), .val (.ref x12), .val (.ref b13), .val (.int (0 : Int32))] [.null]))
        refine wwn_go (fun _ kk_ => XS.ifnullYes X14.here hx rfl (pc0 := 77) (pc' := 86) rfl (hb hby at_77) rfl (by decide) (by decide) kk_) ?_
        show own_W p e below s Z own_EL _ _ _ (T14.setTop (mkF m 86 #[.val (.int x0), .val (.int x1), .val (.int x2), .val (.int x3), .val (.int (x0 &&& (7 : Int32))), .val .null, .val (.ref x8), .val (.ref x12), .val (.ref b13), .val (.int (0 : Int32))] []))
        refine wwn_go (fun _ kk_ => XS.aload X14.here hx rfl (hb hby at_86) rfl rfl kk_) ?_
        show own_W p e below s Z own_EL _ _ _ (T14.setTop (mkF m 88 #[.val (.int x0), .val (.int x1), .val (.int x2), .val (.int x3), .val (.int (x0 &&& (7 : Int32))), .val .null, .val (.ref x8), .val (.ref x12), .val (.ref b13), .val (.int (0 : Int32))] [(.ref x8)]))
        refine wwn_go (fun _ kk_ => XS.ifnullNo X14.here hx rfl (hb hby at_88) rfl kk_) ?_
        show own_W p e below s Z own_EL _ _ _ (T14.setTop (mkF m 91 #[.val (.int x0), .val (.int x1), .val (.int x2), .val (.int x3), .val (.int (x0 &&& (7 : Int32))), .val .null, .val (.ref x8), .val (.ref x12), .val (.ref b13), .val (.int (0 : Int32))] []))
        refine wwn_go (fun _ kk_ => XS.iload X14.here hx rfl (hb hby at_91) rfl kk_) ?_
        show own_W p e below s Z own_EL _ _ _ (T14.setTop (mkF m 93 #[.val (.int x0), .val (.int x1), .val (.int x2), .val (.int x3), .val (.int (x0 &&& (7 : Int32))), .val .null, .val (.ref x8), .val (.ref x12), .val (.ref b13), .val (.int (0 : Int32))] [(.int (0 : Int32))]))
        refine wwn_go (fun _ kk_ => XS.iconst X14.here hx rfl (hb hby at_93) kk_) ?_
        show own_W p e below s Z own_EL _ _ _ (T14.setTop (mkF m 94 #[.val (.int x0), .val (.int x1), .val (.int x2), .val (.int x3), .val (.int (x0 &&& (7 : Int32))), .val .null, .val (.ref x8), .val (.ref x12), .val (.ref b13), .val (.int (0 : Int32))] [(.int (2 : Int32)), (.int (0 : Int32))]))
        refine wwn_go (fun _ kk_ => XS.iadd X14.here hx rfl (hb hby at_94) rfl kk_) ?_
        show own_W p e below s Z own_EL _ _ _ (T14.setTop (mkF m 95 #[.val (.int x0), .val (.int x1), .val (.int x2), .val (.int x3), .val (.int (x0 &&& (7 : Int32))), .val .null, .val (.ref x8), .val (.ref x12), .val (.ref b13), .val (.int (0 : Int32))] [(.int (2 : Int32))]))
        refine wwn_go (fun _ kk_ => XS.istore X14.here hx rfl (hb hby at_95) rfl (l' := #[.val (.int x0), .val (.int x1), .val (.int x2), .val (.int x3), .val (.int (x0 &&& (7 : Int32))), .val .null, .val (.ref x8), .val (.ref x12), .val (.ref b13), .val (.int (2 : Int32))]) rfl kk_) ?_
        show own_W p e below s Z own_EL _ _ _ (T14.setTop (mkF m 97 #[.val (.int x0), .val (.int x1), .val (.int x2), .val (.int x3), .val (.int (x0 &&& (7 : Int32))), .val .null, .val (.ref x8), .val (.ref x12), .val (.ref b13), .val (.int (2 : Int32))] []))
        refine wwn_go (fun _ kk_ => XS.aload X14.here hx rfl (hb hby at_97) rfl rfl kk_) ?_
        show own_W p e below s Z own_EL _ _ _ (T14.setTop (mkF m 99 #[.val (.int x0), .val (.int x1), .val (.int x2), .val (.int x3), .val (.int (x0 &&& (7 : Int32))), .val .null, .val (.ref x8), .val (.ref x12), .val (.ref b13), .val (.int (2 : Int32))] [(.ref x12)]))
        refine wwn_go (fun _ kk_ => XS.ifnullNo X14.here hx rfl (hb hby at_99) rfl kk_) ?_
        show own_W p e below s Z own_EL _ _ _ (T14.setTop (mkF m 102 #[.val (.int x0), .val (.int x1), .val (.int x2), .val (.int x3), .val (.int (x0 &&& (7 : Int32))), .val .null, .val (.ref x8), .val (.ref x12), .val (.ref b13), .val (.int (2 : Int32))] []))
        refine wwn_go (fun _ kk_ => XS.iload X14.here hx rfl (hb hby at_102) rfl kk_) ?_
        show own_W p e below s Z own_EL _ _ _ (T14.setTop (mkF m 104 #[.val (.int x0), .val (.int x1), .val (.int x2), .val (.int x3), .val (.int (x0 &&& (7 : Int32))), .val .null, .val (.ref x8), .val (.ref x12), .val (.ref b13), .val (.int (2 : Int32))] [(.int (2 : Int32))]))
        refine wwn_go (fun _ kk_ => XS.iconst X14.here hx rfl (hb hby at_104) kk_) ?_
        show own_W p e below s Z own_EL _ _ _ (T14.setTop (mkF m 105 #[.val (.int x0), .val (.int x1), .val (.int x2), .val (.int x3), .val (.int (x0 &&& (7 : Int32))), .val .null, .val (.ref x8), .val (.ref x12), .val (.ref b13), .val (.int (2 : Int32))] [(.int (4 : Int32)), (.int (2 : Int32))]))
        refine wwn_go (fun _ kk_ => XS.iadd X14.here hx rfl (hb hby at_105) rfl kk_) ?_
        show own_W p e below s Z own_EL _ _ _ (T14.setTop (mkF m 106 #[.val (.int x0), .val (.int x1), .val (.int x2), .val (.int x3), .val (.int (x0 &&& (7 : Int32))), .val .null, .val (.ref x8), .val (.ref x12), .val (.ref b13), .val (.int (2 : Int32))] [(.int (6 : Int32))]))
        refine wwn_go (fun _ kk_ => XS.istore X14.here hx rfl (hb hby at_106) rfl (l' := #[.val (.int x0), .val (.int x1), .val (.int x2), .val (.int x3), .val (.int (x0 &&& (7 : Int32))), .val .null, .val (.ref x8), .val (.ref x12), .val (.ref b13), .val (.int (6 : Int32))]) rfl kk_) ?_
        show own_W p e below s Z own_EL _ _ _ (T14.setTop (mkF m 108 #[.val (.int x0), .val (.int x1), .val (.int x2), .val (.int x3), .val (.int (x0 &&& (7 : Int32))), .val .null, .val (.ref x8), .val (.ref x12), .val (.ref b13), .val (.int (6 : Int32))] []))
        refine wwn_go (fun _ kk_ => XS.aload X14.here hx rfl (hb hby at_108) rfl rfl kk_) ?_
        show own_W p e below s Z own_EL _ _ _ (T14.setTop (mkF m 110 #[.val (.int x0), .val (.int x1), .val (.int x2), .val (.int x3), .val (.int (x0 &&& (7 : Int32))), .val .null, .val (.ref x8), .val (.ref x12), .val (.ref b13), .val (.int (6 : Int32))] [(.ref b13)]))
        obtain ⟨cq15, kq15, q15a, q15b, q15c⟩ := isOf hZ e14 Eq14
        obtain ⟨_, _, ⟨T15, L15, k15, n15⟩, -, X15, ⟨Lc15, hQ15, l15, y15, z15⟩, st15⟩ := X14.virtualBack hx (y := (⟨"com/example/accordant/accordant/policy/Scope", "shape", "()I"⟩ : MethodName)) (z := (⟨"com/example/accordant/accordant/policy/Scope", "shape", "()I"⟩ : MethodName)) hown (mvT hZ (hw _ (List.mem_of_getElem? (i := 20) rfl))) (mvT hZ (hw _ (List.mem_of_getElem? (i := 21) rfl))) (notFace_of_selects (args := #[]) (mvT hZ (hw _ (List.mem_of_getElem? (i := 23) rfl)))) (mvT hZ (hw _ (List.mem_of_getElem? (i := 23) rfl))) (mvT hZ (hw _ (List.mem_of_getElem? (i := 22) rfl))) (by decide) (backOf (W := 0) (rmP011 l Z a0 hw [] b13 x8 x12 h14 n0 Z14 F14_0 F14_1 F14_2) hZ (hw _ (List.mem_of_getElem? (i := 24) rfl)) (hw _ (List.mem_of_getElem? (i := 2) rfl)) (by decide) (by decide)) q15a q15c (g := (mkF m 110 #[.val (.int x0), .val (.int x1), .val (.int x2), .val (.int x3), .val (.int (x0 &&& (7 : Int32))), .val .null, .val (.ref x8), .val (.ref x12), .val (.ref b13), .val (.int (6 : Int32))] [(.ref b13)])) rfl (by rw [hml]; rfl) (Steps.refl _) (argsL := []) (rest := []) (lenOf pd_4 rfl) rfl (by show 2 * 0 + _ ≤ _; exact Nat.le_of_eq rfl) (hb hby at_110) (fun _ _ => ⟨rfl, e14, (by decide : 13 + 0 ≤ _), (by decide : 27 + 0 ≤ _)⟩)
        dsimp only [Pt.U, Pt.locs, Pt.cells, Pt.slots] at X15 l15 y15 z15 st15 hQ15
        subst l15 y15 z15
        obtain ⟨rfl, N15q, e15⟩ := hQ15
        have N15 := Fr.app N14 N15q
        refine wwn_go (fun _ kk_ => st15.trans kk_) ?_
        show own_W p e below s Z own_EL _ _ _ (T15.setTop (mkF m 113 #[.val (.int x0), .val (.int x1), .val (.int x2), .val (.int x3), .val (.int (x0 &&& (7 : Int32))), .val .null, .val (.ref x8), .val (.ref x12), .val (.ref b13), .val (.int (6 : Int32))] [(.int (6 : Int32))]))
        refine wwn_go (fun _ kk_ => XS.iload X15.here hx rfl (hb hby at_113) rfl kk_) ?_
        show own_W p e below s Z own_EL _ _ _ (T15.setTop (mkF m 115 #[.val (.int x0), .val (.int x1), .val (.int x2), .val (.int x3), .val (.int (x0 &&& (7 : Int32))), .val .null, .val (.ref x8), .val (.ref x12), .val (.ref b13), .val (.int (6 : Int32))] [(.int (6 : Int32)), (.int (6 : Int32))]))
        refine wwn_ic_neN X15 hx (pc := 115) (hb hby at_115) (by decide) ?_
        show own_W p e below s Z own_EL _ _ _ (T15.setTop (mkF m 118 #[.val (.int x0), .val (.int x1), .val (.int x2), .val (.int x3), .val (.int (x0 &&& (7 : Int32))), .val .null, .val (.ref x8), .val (.ref x12), .val (.ref b13), .val (.int (6 : Int32))] []))
        refine wwn_go (fun _ kk_ => XS.iload X15.here hx rfl (hb hby at_118) rfl kk_) ?_
        show own_W p e below s Z own_EL _ _ _ (T15.setTop (mkF m 120 #[.val (.int x0), .val (.int x1), .val (.int x2), .val (.int x3), .val (.int (x0 &&& (7 : Int32))), .val .null, .val (.ref x8), .val (.ref x12), .val (.ref b13), .val (.int (6 : Int32))] [(.int (6 : Int32))]))
        refine wwn_go (fun _ kk_ => XS.iload X15.here hx rfl (hb hby at_120) rfl kk_) ?_
        show own_W p e below s Z own_EL _ _ _ (T15.setTop (mkF m 122 #[.val (.int x0), .val (.int x1), .val (.int x2), .val (.int x3), .val (.int (x0 &&& (7 : Int32))), .val .null, .val (.ref x8), .val (.ref x12), .val (.ref b13), .val (.int (6 : Int32))] [(.int (x0 &&& (7 : Int32))), (.int (6 : Int32))]))
        refine wwn_ic_neN X15 hx (pc := 122) (hb hby at_122) (by rw [own_bits x0, if_pos hc10, if_neg hc27, if_neg hc44]; rfl) ?_
        show own_W p e below s Z own_EL _ _ _ (T15.setTop (mkF m 125 #[.val (.int x0), .val (.int x1), .val (.int x2), .val (.int x3), .val (.int (x0 &&& (7 : Int32))), .val .null, .val (.ref x8), .val (.ref x12), .val (.ref b13), .val (.int (6 : Int32))] []))
        refine wwn_go (fun _ kk_ => XS.iconst X15.here hx rfl (hb hby at_125) kk_) ?_
        show own_W p e below s Z own_EL _ _ _ (T15.setTop (mkF m 126 #[.val (.int x0), .val (.int x1), .val (.int x2), .val (.int x3), .val (.int (x0 &&& (7 : Int32))), .val .null, .val (.ref x8), .val (.ref x12), .val (.ref b13), .val (.int (6 : Int32))] [(.int (1 : Int32))]))
        refine wwn_go (fun _ kk_ => XS.goto X15.here hx rfl (pc0 := 126) (pc' := 130) rfl (hb hby at_126) (by decide) (by decide) kk_) ?_
        show own_W p e below s Z own_EL _ _ _ (T15.setTop (mkF m 130 #[.val (.int x0), .val (.int x1), .val (.int x2), .val (.int x3), .val (.int (x0 &&& (7 : Int32))), .val .null, .val (.ref x8), .val (.ref x12), .val (.ref b13), .val (.int (6 : Int32))] [(.int (1 : Int32))]))
        exact wwn_retN (t := .boolean) (ht := by simp) X15 hx hZ hEL Bd.returns (BodyLoose.notSynchronized Bd) (hb hby at_130) e15 I14 ⟨rfl, N15⟩ (by decide) (by decide)
  · show own_W p e below s Z own_EL _ _ _ (s₁.setTop (mkF m 13 #[.val (.int x0), .val (.int x1), .val (.int x2), .val (.int x3), .val (.int (x0 &&& (7 : Int32))), .unset, .unset, .unset, .unset, .unset] []))
    refine wwn_go (fun _ kk_ => XS.iloadN X0.here hx rfl (hb hby at_13) rfl kk_) ?_
    show own_W p e below s Z own_EL _ _ _ (s₁.setTop (mkF m 14 #[.val (.int x0), .val (.int x1), .val (.int x2), .val (.int x3), .val (.int (x0 &&& (7 : Int32))), .unset, .unset, .unset, .unset, .unset] [(.int x1)]))
    obtain ⟨_, _, ⟨T16, L16, k16, n16⟩, -, X16, S16, gr16, ⟨Lc16, hQ16, l16, y16, z16, C16⟩, st16⟩ := callSS X0 hx (y := (⟨"com/example/accordant/accordant/policy/ScopeShapePinLaw", "str", "(I)Ljava/lang/String;"⟩ : MethodName)) hown (mvT hZ (hw _ (List.mem_of_getElem? (i := 25) rfl))) (mvT hZ (hw _ (List.mem_of_getElem? (i := 26) rfl))) (mvT hZ (hw _ (List.mem_of_getElem? (i := 27) rfl))) (mvT hZ (hw _ (List.mem_of_getElem? (i := 28) rfl))) (by decide) (backOfSH (W := 0) (rmStr l Z a0 hw [] x1 zc h0 n0 Z0 O_0 O2 hz) hZ (hw _ (List.mem_of_getElem? (i := 28) rfl)) (hw _ (List.mem_of_getElem? (i := 27) rfl)) (by decide) (by decide) hEL I0.1.1) (g := (mkF m 14 #[.val (.int x0), .val (.int x1), .val (.int x2), .val (.int x3), .val (.int (x0 &&& (7 : Int32))), .unset, .unset, .unset, .unset, .unset] [(.int x1)])) rfl (by rw [hml]; rfl) (argsL := [(.int x1)]) (rest := []) (lenOf pd_5 rfl) rfl (by show 2 * 0 + _ ≤ _; exact Nat.le_of_eq rfl) (hb hby at_14) (fun _ _ => ⟨rfl, e0, (by decide : 0 + 6 ≤ _), (by decide : 0 + 12 ≤ _)⟩)
    dsimp only [Pt.U, Pt.locs, Pt.cells, Pt.slots] at X16 S16 gr16 l16 y16 z16 C16 st16 hQ16
    subst l16 y16 z16
    obtain ⟨X16, I16, hZ, hown⟩ := own_I.reb I0 e0 X16 S16 gr16 hZ hown C16
    generalize e16 : T16.heap = h16 at hQ16 I16
    obtain ⟨x16, rfl, N16q, gx16, Kq16, Eq16, O16_⟩ := hQ16
    have N16 := Fr.app N0 N16q
    have Z16 : n0 ≤ h16.size := Nat.le_trans Z0 Kq16.1
    refine wwn_go (fun _ kk_ => st16.trans kk_) ?_
    show own_W p e below s Z own_EL _ _ _ (T16.setTop (mkF m 17 #[.val (.int x0), .val (.int x1), .val (.int x2), .val (.int x3), .val (.int (x0 &&& (7 : Int32))), .unset, .unset, .unset, .unset, .unset] [(.ref x16)]))
    refine wwn_go (fun _ kk_ => XS.goto X16.here hx rfl (pc0 := 17) (pc' := 21) rfl (hb hby at_17) (by decide) (by decide) kk_) ?_
    show own_W p e below s Z own_EL _ _ _ (T16.setTop (mkF m 21 #[.val (.int x0), .val (.int x1), .val (.int x2), .val (.int x3), .val (.int (x0 &&& (7 : Int32))), .unset, .unset, .unset, .unset, .unset] [(.ref x16)]))
    refine wwn_go (fun _ kk_ => XS.astore X16.here hx rfl (hb hby at_21) rfl rfl (l' := #[.val (.int x0), .val (.int x1), .val (.int x2), .val (.int x3), .val (.int (x0 &&& (7 : Int32))), .val (.ref x16), .unset, .unset, .unset, .unset]) rfl kk_) ?_
    show own_W p e below s Z own_EL _ _ _ (T16.setTop (mkF m 23 #[.val (.int x0), .val (.int x1), .val (.int x2), .val (.int x3), .val (.int (x0 &&& (7 : Int32))), .val (.ref x16), .unset, .unset, .unset, .unset] []))
    refine wwn_go (fun _ kk_ => XS.iload X16.here hx rfl (hb hby at_23) rfl kk_) ?_
    show own_W p e below s Z own_EL _ _ _ (T16.setTop (mkF m 25 #[.val (.int x0), .val (.int x1), .val (.int x2), .val (.int x3), .val (.int (x0 &&& (7 : Int32))), .val (.ref x16), .unset, .unset, .unset, .unset] [(.int (x0 &&& (7 : Int32)))]))
    refine wwn_go (fun _ kk_ => XS.iconst X16.here hx rfl (hb hby at_25) kk_) ?_
    show own_W p e below s Z own_EL _ _ _ (T16.setTop (mkF m 26 #[.val (.int x0), .val (.int x1), .val (.int x2), .val (.int x3), .val (.int (x0 &&& (7 : Int32))), .val (.ref x16), .unset, .unset, .unset, .unset] [(.int (2 : Int32)), (.int (x0 &&& (7 : Int32)))]))
    refine wwn_go (fun _ kk_ => XS.iand X16.here hx rfl (hb hby at_26) rfl kk_) ?_
    show own_W p e below s Z own_EL _ _ _ (T16.setTop (mkF m 27 #[.val (.int x0), .val (.int x1), .val (.int x2), .val (.int x3), .val (.int (x0 &&& (7 : Int32))), .val (.ref x16), .unset, .unset, .unset, .unset] [(.int ((x0 &&& (7 : Int32)) &&& (2 : Int32)))]))
    refine wwn_if_eq X16 hx (pc := 27) (pc' := 37) (hb hby at_27) (by decide) (by decide) (fun hc27 => ?_) (fun hc27 => ?_)
    · show own_W p e below s Z own_EL _ _ _ (T16.setTop (mkF m 37 #[.val (.int x0), .val (.int x1), .val (.int x2), .val (.int x3), .val (.int (x0 &&& (7 : Int32))), .val (.ref x16), .unset, .unset, .unset, .unset] []))
      refine wwn_go (fun _ kk_ => XS.aconstNull X16.here hx rfl (hb hby at_37) kk_) ?_
      show own_W p e below s Z own_EL _ _ _ (T16.setTop (mkF m 38 #[.val (.int x0), .val (.int x1), .val (.int x2), .val (.int x3), .val (.int (x0 &&& (7 : Int32))), .val (.ref x16), .unset, .unset, .unset, .unset] [.null]))
      refine wwn_go (fun _ kk_ => XS.astore X16.here hx rfl (hb hby at_38) rfl rfl (l' := #[.val (.int x0), .val (.int x1), .val (.int x2), .val (.int x3), .val (.int (x0 &&& (7 : Int32))), .val (.ref x16), .val .null, .unset, .unset, .unset]) rfl kk_) ?_
      show own_W p e below s Z own_EL _ _ _ (T16.setTop (mkF m 40 #[.val (.int x0), .val (.int x1), .val (.int x2), .val (.int x3), .val (.int (x0 &&& (7 : Int32))), .val (.ref x16), .val .null, .unset, .unset, .unset] []))
      refine wwn_go (fun _ kk_ => XS.iload X16.here hx rfl (hb hby at_40) rfl kk_) ?_
      show own_W p e below s Z own_EL _ _ _ (T16.setTop (mkF m 42 #[.val (.int x0), .val (.int x1), .val (.int x2), .val (.int x3), .val (.int (x0 &&& (7 : Int32))), .val (.ref x16), .val .null, .unset, .unset, .unset] [(.int (x0 &&& (7 : Int32)))]))
      refine wwn_go (fun _ kk_ => XS.iconst X16.here hx rfl (hb hby at_42) kk_) ?_
      show own_W p e below s Z own_EL _ _ _ (T16.setTop (mkF m 43 #[.val (.int x0), .val (.int x1), .val (.int x2), .val (.int x3), .val (.int (x0 &&& (7 : Int32))), .val (.ref x16), .val .null, .unset, .unset, .unset] [(.int (4 : Int32)), (.int (x0 &&& (7 : Int32)))]))
      refine wwn_go (fun _ kk_ => XS.iand X16.here hx rfl (hb hby at_43) rfl kk_) ?_
      show own_W p e below s Z own_EL _ _ _ (T16.setTop (mkF m 44 #[.val (.int x0), .val (.int x1), .val (.int x2), .val (.int x3), .val (.int (x0 &&& (7 : Int32))), .val (.ref x16), .val .null, .unset, .unset, .unset] [(.int ((x0 &&& (7 : Int32)) &&& (4 : Int32)))]))
      refine wwn_if_eq X16 hx (pc := 44) (pc' := 54) (hb hby at_44) (by decide) (by decide) (fun hc44 => ?_) (fun hc44 => ?_)
      · show own_W p e below s Z own_EL _ _ _ (T16.setTop (mkF m 54 #[.val (.int x0), .val (.int x1), .val (.int x2), .val (.int x3), .val (.int (x0 &&& (7 : Int32))), .val (.ref x16), .val .null, .unset, .unset, .unset] []))
        refine wwn_go (fun _ kk_ => XS.aconstNull X16.here hx rfl (hb hby at_54) kk_) ?_
        show own_W p e below s Z own_EL _ _ _ (T16.setTop (mkF m 55 #[.val (.int x0), .val (.int x1), .val (.int x2), .val (.int x3), .val (.int (x0 &&& (7 : Int32))), .val (.ref x16), .val .null, .unset, .unset, .unset] [.null]))
        refine wwn_go (fun _ kk_ => XS.astore X16.here hx rfl (hb hby at_55) rfl rfl (l' := #[.val (.int x0), .val (.int x1), .val (.int x2), .val (.int x3), .val (.int (x0 &&& (7 : Int32))), .val (.ref x16), .val .null, .val .null, .unset, .unset]) rfl kk_) ?_
        show own_W p e below s Z own_EL _ _ _ (T16.setTop (mkF m 57 #[.val (.int x0), .val (.int x1), .val (.int x2), .val (.int x3), .val (.int (x0 &&& (7 : Int32))), .val (.ref x16), .val .null, .val .null, .unset, .unset] []))
        obtain ⟨T17, h17, X17, e17, E17, A17, D17, -, st17⟩ := newO X16 hx hZ hown (hw _ (List.mem_of_getElem? (i := 0) rfl)) (hw _ (List.mem_of_getElem? (i := 1) rfl)) (hw _ (List.mem_of_getElem? (i := 2) rfl)) e16 (g := (mkF m 57 #[.val (.int x0), .val (.int x1), .val (.int x2), .val (.int x3), .val (.int (x0 &&& (7 : Int32))), .val (.ref x16), .val .null, .val .null, .unset, .unset] [])) rfl (hb hby at_57) (by decide) (by decide)
        obtain ⟨b17, g17⟩ : ∃ z, z = h16.size := ⟨_, rfl⟩
        rw [← g17] at A17 D17 st17
        refine wwn_go st17 ?_
        have I17 := I16.ext E17
        have O17_ := O16_.ext E17
        have g_b17 : n0 ≤ b17 := Nat.le_trans Z16 (Nat.le_of_eq g17.symm)
        have Z17 : n0 ≤ h17.size := Nat.le_trans Z16 E17.1
        have F17_b17_vendor : Fld Z h17 b17 "com/example/accordant/accordant/policy/Scope" "vendor" "Ljava/lang/String;" .null := D17 (Or.inr (hw _ (List.mem_of_getElem? (i := 15) rfl))) (ty := (.object "java/lang/String")) (by decide)
        have F17_b17_item : Fld Z h17 b17 "com/example/accordant/accordant/policy/Scope" "item" "Ljava/lang/String;" .null := D17 (Or.inr (hw _ (List.mem_of_getElem? (i := 17) rfl))) (ty := (.object "java/lang/String")) (by decide)
        have F17_b17_itemGroup : Fld Z h17 b17 "com/example/accordant/accordant/policy/Scope" "itemGroup" "Ljava/lang/String;" .null := D17 (Or.inr (hw _ (List.mem_of_getElem? (i := 19) rfl))) (ty := (.object "java/lang/String")) (by decide)
        show own_W p e below s Z own_EL _ _ _ (T17.setTop (mkF m 60 #[.val (.int x0), .val (.int x1), .val (.int x2), .val (.int x3), .val (.int (x0 &&& (7 : Int32))), .val (.ref x16), .val .null, .val .null, .unset, .unset] [(.ref b17)]))
        refine wwn_go (fun _ kk_ => XS.dup X17.here hx rfl (hb hby at_60) rfl rfl kk_) ?_
        show own_W p e below s Z own_EL _ _ _ (T17.setTop (mkF m 61 #[.val (.int x0), .val (.int x1), .val (.int x2), .val (.int x3), .val (.int (x0 &&& (7 : Int32))), .val (.ref x16), .val .null, .val .null, .unset, .unset] [(.ref b17), (.ref b17)]))
        refine wwn_go (fun _ kk_ => XS.aload X17.here hx rfl (hb hby at_61) rfl rfl kk_) ?_
        show own_W p e below s Z own_EL _ _ _ (T17.setTop (mkF m 63 #[.val (.int x0), .val (.int x1), .val (.int x2), .val (.int x3), .val (.int (x0 &&& (7 : Int32))), .val (.ref x16), .val .null, .val .null, .unset, .unset] [(.ref x16), (.ref b17), (.ref b17)]))
        refine wwn_go (fun _ kk_ => XS.aload X17.here hx rfl (hb hby at_63) rfl rfl kk_) ?_
        show own_W p e below s Z own_EL _ _ _ (T17.setTop (mkF m 65 #[.val (.int x0), .val (.int x1), .val (.int x2), .val (.int x3), .val (.int (x0 &&& (7 : Int32))), .val (.ref x16), .val .null, .val .null, .unset, .unset] [.null, (.ref x16), (.ref b17), (.ref b17)]))
        refine wwn_go (fun _ kk_ => XS.aload X17.here hx rfl (hb hby at_65) rfl rfl kk_) ?_
        show own_W p e below s Z own_EL _ _ _ (T17.setTop (mkF m 67 #[.val (.int x0), .val (.int x1), .val (.int x2), .val (.int x3), .val (.int (x0 &&& (7 : Int32))), .val (.ref x16), .val .null, .val .null, .unset, .unset] [.null, .null, (.ref x16), (.ref b17), (.ref b17)]))
        obtain ⟨_, _, ⟨T18, L18, k18, n18⟩, -, X18, ⟨Lc18, hQ18, l18, y18, z18⟩, st18⟩ := X17.specialBack hx (y := (⟨"com/example/accordant/accordant/policy/Scope", "<init>", "(Ljava/lang/String;Ljava/lang/String;Ljava/lang/String;)V"⟩ : MethodName)) rfl hown (mvT hZ (hw _ (List.mem_of_getElem? (i := 3) rfl))) (mvT hZ (hw _ (List.mem_of_getElem? (i := 4) rfl))) (mvT hZ (hw _ (List.mem_of_getElem? (i := 5) rfl))) (by decide) (backOf (W := 1) (rmI100 l Z a0 hw [] b17 x16 h17 n0 Z17 A17 g_b17 F17_b17_vendor F17_b17_item F17_b17_itemGroup) hZ (hw _ (List.mem_of_getElem? (i := 5) rfl)) (hw _ (List.mem_of_getElem? (i := 2) rfl)) (by decide) (by decide)) (g := (mkF m 67 #[.val (.int x0), .val (.int x1), .val (.int x2), .val (.int x3), .val (.int (x0 &&& (7 : Int32))), .val (.ref x16), .val .null, .val .null, .unset, .unset] [.null, .null, (.ref x16), (.ref b17), (.ref b17)])) rfl (by rw [hml]; rfl) (Steps.refl _) (a := b17) (argsL := [(.ref x16), .null, .null]) (rest := [(.ref b17)]) (lenOf pd_3 rfl) rfl (by show 2 * 0 + _ ≤ _; exact Nat.le_of_eq rfl) (hb hby at_67) (fun _ _ => ⟨rfl, e17, (by decide : 7 + 0 ≤ _), (by decide : 15 + 0 ≤ _)⟩)
        dsimp only [Pt.U, Pt.locs, Pt.cells, Pt.slots] at X18 l18 y18 z18 st18 hQ18
        subst l18 y18 z18
        generalize e18 : T18.heap = h18 at hQ18
        obtain ⟨rfl, N18q, Kq18, Eq18, F18_0, F18_1, F18_2⟩ := hQ18
        have N18 := Fr.app N16 N18q
        have I18 := I17.keep Kq18 (fun y hy => by cases List.mem_singleton.mp hy; exact (Safe.exa hZ.alike A17 (by decide) (by decide)))
        have Z18 : n0 ≤ h18.size := Nat.le_trans Z17 Kq18.1
        refine wwn_go (fun _ kk_ => st18.trans kk_) ?_
        show own_W p e below s Z own_EL _ _ _ (T18.setTop (mkF m 70 #[.val (.int x0), .val (.int x1), .val (.int x2), .val (.int x3), .val (.int (x0 &&& (7 : Int32))), .val (.ref x16), .val .null, .val .null, .unset, .unset] [(.ref b17)]))
        refine wwn_go (fun _ kk_ => XS.astore X18.here hx rfl (hb hby at_70) rfl rfl (l' := #[.val (.int x0), .val (.int x1), .val (.int x2), .val (.int x3), .val (.int (x0 &&& (7 : Int32))), .val (.ref x16), .val .null, .val .null, .val (.ref b17), .unset]) rfl kk_) ?_
        show own_W p e below s Z own_EL _ _ _ (T18.setTop (mkF m 72 #[.val (.int x0), .val (.int x1), .val (.int x2), .val (.int x3), .val (.int (x0 &&& (7 : Int32))), .val (.ref x16), .val .null, .val .null, .val (.ref b17), .unset] []))
        refine wwn_go (fun _ kk_ => XS.iconst X18.here hx rfl (hb hby at_72) kk_) ?_
        show own_W p e below s Z own_EL _ _ _ (T18.setTop (mkF m 73 #[.val (.int x0), .val (.int x1), .val (.int x2), .val (.int x3), .val (.int (x0 &&& (7 : Int32))), .val (.ref x16), .val .null, .val .null, .val (.ref b17), .unset] [(.int (0 : Int32))]))
        refine wwn_go (fun _ kk_ => XS.istore X18.here hx rfl (hb hby at_73) rfl (l' := #[.val (.int x0), .val (.int x1), .val (.int x2), .val (.int x3), .val (.int (x0 &&& (7 : Int32))), .val (.ref x16), .val .null, .val .null, .val (.ref b17), .val (.int (0 : Int32))]) rfl kk_) ?_
        show own_W p e below s Z own_EL _ _ _ (T18.setTop (mkF m 75 #[.val (.int x0), .val (.int x1), .val (.int x2), .val (.int x3), .val (.int (x0 &&& (7 : Int32))), .val (.ref x16), .val .null, .val .null, .val (.ref b17), .val (.int (0 : Int32))] []))
        refine wwn_go (fun _ kk_ => XS.aload X18.here hx rfl (hb hby at_75) rfl rfl kk_) ?_
        show own_W p e below s Z own_EL _ _ _ (T18.setTop (mkF m 77 #[.val (.int x0), .val (.int x1), .val (.int x2), .val (.int x3), .val (.int (x0 &&& (7 : Int32))), .val (.ref x16), .val .null, .val .null, .val (.ref b17), .val (.int (0 : Int32))] [(.ref x16)]))
        refine wwn_go (fun _ kk_ => XS.ifnullNo X18.here hx rfl (hb hby at_77) rfl kk_) ?_
        show own_W p e below s Z own_EL _ _ _ (T18.setTop (mkF m 80 #[.val (.int x0), .val (.int x1), .val (.int x2), .val (.int x3), .val (.int (x0 &&& (7 : Int32))), .val (.ref x16), .val .null, .val .null, .val (.ref b17), .val (.int (0 : Int32))] []))
        refine wwn_go (fun _ kk_ => XS.iload X18.here hx rfl (hb hby at_80) rfl kk_) ?_
        show own_W p e below s Z own_EL _ _ _ (T18.setTop (mkF m 82 #[.val (.int x0), .val (.int x1), .val (.int x2), .val (.int x3), .val (.int (x0 &&& (7 : Int32))), .val (.ref x16), .val .null, .val .null, .val (.ref b17), .val (.int (0 : Int32))] [(.int (0 : Int32))]))
        refine wwn_go (fun _ kk_ => XS.iconst X18.here hx rfl (hb hby at_82) kk_) ?_
        show own_W p e below s Z own_EL _ _ _ (T18.setTop (mkF m 83 #[.val (.int x0), .val (.int x1), .val (.int x2), .val (.int x3), .val (.int (x0 &&& (7 : Int32))), .val (.ref x16), .val .null, .val .null, .val (.ref b17), .val (.int (0 : Int32))] [(.int (1 : Int32)), (.int (0 : Int32))]))
        refine wwn_go (fun _ kk_ => XS.iadd X18.here hx rfl (hb hby at_83) rfl kk_) ?_
        show own_W p e below s Z own_EL _ _ _ (T18.setTop (mkF m 84 #[.val (.int x0), .val (.int x1), .val (.int x2), .val (.int x3), .val (.int (x0 &&& (7 : Int32))), .val (.ref x16), .val .null, .val .null, .val (.ref b17), .val (.int (0 : Int32))] [(.int (1 : Int32))]))
        refine wwn_go (fun _ kk_ => XS.istore X18.here hx rfl (hb hby at_84) rfl (l' := #[.val (.int x0), .val (.int x1), .val (.int x2), .val (.int x3), .val (.int (x0 &&& (7 : Int32))), .val (.ref x16), .val .null, .val .null, .val (.ref b17), .val (.int (1 : Int32))]) rfl kk_) ?_
        show own_W p e below s Z own_EL _ _ _ (T18.setTop (mkF m 86 #[.val (.int x0), .val (.int x1), .val (.int x2), .val (.int x3), .val (.int (x0 &&& (7 : Int32))), .val (.ref x16), .val .null, .val .null, .val (.ref b17), .val (.int (1 : Int32))] []))
        refine wwn_go (fun _ kk_ => XS.aload X18.here hx rfl (hb hby at_86) rfl rfl kk_) ?_
        show own_W p e below s Z own_EL _ _ _ (T18.setTop (mkF m 88 #[.val (.int x0), .val (.int x1), .val (.int x2), .val (.int x3), .val (.int (x0 &&& (7 : Int32))), .val (.ref x16), .val .null, .val .null, .val (.ref b17), .val (.int (1 : Int32))] [.null]))
        refine wwn_go (fun _ kk_ => XS.ifnullYes X18.here hx rfl (pc0 := 88) (pc' := 97) rfl (hb hby at_88) rfl (by decide) (by decide) kk_) ?_
        show own_W p e below s Z own_EL _ _ _ (T18.setTop (mkF m 97 #[.val (.int x0), .val (.int x1), .val (.int x2), .val (.int x3), .val (.int (x0 &&& (7 : Int32))), .val (.ref x16), .val .null, .val .null, .val (.ref b17), .val (.int (1 : Int32))] []))
        refine wwn_go (fun _ kk_ => XS.aload X18.here hx rfl (hb hby at_97) rfl rfl kk_) ?_
        show own_W p e below s Z own_EL _ _ _ (T18.setTop (mkF m 99 #[.val (.int x0), .val (.int x1), .val (.int x2), .val (.int x3), .val (.int (x0 &&& (7 : Int32))), .val (.ref x16), .val .null, .val .null, .val (.ref b17), .val (.int (1 : Int32))] [.null]))
        refine wwn_go (fun _ kk_ => XS.ifnullYes X18.here hx rfl (pc0 := 99) (pc' := 108) rfl (hb hby at_99) rfl (by decide) (by decide) kk_) ?_
        show own_W p e below s Z own_EL _ _ _ (T18.setTop (mkF m 108 #[.val (.int x0), .val (.int x1), .val (.int x2), .val (.int x3), .val (.int (x0 &&& (7 : Int32))), .val (.ref x16), .val .null, .val .null, .val (.ref b17), .val (.int (1 : Int32))] []))
        refine wwn_go (fun _ kk_ => XS.aload X18.here hx rfl (hb hby at_108) rfl rfl kk_) ?_
        show own_W p e below s Z own_EL _ _ _ (T18.setTop (mkF m 110 #[.val (.int x0), .val (.int x1), .val (.int x2), .val (.int x3), .val (.int (x0 &&& (7 : Int32))), .val (.ref x16), .val .null, .val .null, .val (.ref b17), .val (.int (1 : Int32))] [(.ref b17)]))
        obtain ⟨cq19, kq19, q19a, q19b, q19c⟩ := isOf hZ e18 Eq18
        obtain ⟨_, _, ⟨T19, L19, k19, n19⟩, -, X19, ⟨Lc19, hQ19, l19, y19, z19⟩, st19⟩ := X18.virtualBack hx (y := (⟨"com/example/accordant/accordant/policy/Scope", "shape", "()I"⟩ : MethodName)) (z := (⟨"com/example/accordant/accordant/policy/Scope", "shape", "()I"⟩ : MethodName)) hown (mvT hZ (hw _ (List.mem_of_getElem? (i := 20) rfl))) (mvT hZ (hw _ (List.mem_of_getElem? (i := 21) rfl))) (notFace_of_selects (args := #[]) (mvT hZ (hw _ (List.mem_of_getElem? (i := 23) rfl)))) (mvT hZ (hw _ (List.mem_of_getElem? (i := 23) rfl))) (mvT hZ (hw _ (List.mem_of_getElem? (i := 22) rfl))) (by decide) (backOf (W := 0) (rmP100 l Z a0 hw [] b17 x16 h18 n0 Z18 F18_0 F18_1 F18_2) hZ (hw _ (List.mem_of_getElem? (i := 24) rfl)) (hw _ (List.mem_of_getElem? (i := 2) rfl)) (by decide) (by decide)) q19a q19c (g := (mkF m 110 #[.val (.int x0), .val (.int x1), .val (.int x2), .val (.int x3), .val (.int (x0 &&& (7 : Int32))), .val (.ref x16), .val .null, .val .null, .val (.ref b17), .val (.int (1 : Int32))] [(.ref b17)])) rfl (by rw [hml]; rfl) (Steps.refl _) (argsL := []) (rest := []) (lenOf pd_4 rfl) rfl (by show 2 * 0 + _ ≤ _; exact Nat.le_of_eq rfl) (hb hby at_110) (fun _ _ => ⟨rfl, e18, (by decide : 7 + 0 ≤ _), (by decide : 15 + 0 ≤ _)⟩)
        dsimp only [Pt.U, Pt.locs, Pt.cells, Pt.slots] at X19 l19 y19 z19 st19 hQ19
        subst l19 y19 z19
        obtain ⟨rfl, N19q, e19⟩ := hQ19
        have N19 := Fr.app N18 N19q
        refine wwn_go (fun _ kk_ => st19.trans kk_) ?_
        show own_W p e below s Z own_EL _ _ _ (T19.setTop (mkF m 113 #[.val (.int x0), .val (.int x1), .val (.int x2), .val (.int x3), .val (.int (x0 &&& (7 : Int32))), .val (.ref x16), .val .null, .val .null, .val (.ref b17), .val (.int (1 : Int32))] [(.int (1 : Int32))]))
        refine wwn_go (fun _ kk_ => XS.iload X19.here hx rfl (hb hby at_113) rfl kk_) ?_
        show own_W p e below s Z own_EL _ _ _ (T19.setTop (mkF m 115 #[.val (.int x0), .val (.int x1), .val (.int x2), .val (.int x3), .val (.int (x0 &&& (7 : Int32))), .val (.ref x16), .val .null, .val .null, .val (.ref b17), .val (.int (1 : Int32))] [(.int (1 : Int32)), (.int (1 : Int32))]))
        refine wwn_ic_neN X19 hx (pc := 115) (hb hby at_115) (by decide) ?_
        show own_W p e below s Z own_EL _ _ _ (T19.setTop (mkF m 118 #[.val (.int x0), .val (.int x1), .val (.int x2), .val (.int x3), .val (.int (x0 &&& (7 : Int32))), .val (.ref x16), .val .null, .val .null, .val (.ref b17), .val (.int (1 : Int32))] []))
        refine wwn_go (fun _ kk_ => XS.iload X19.here hx rfl (hb hby at_118) rfl kk_) ?_
        show own_W p e below s Z own_EL _ _ _ (T19.setTop (mkF m 120 #[.val (.int x0), .val (.int x1), .val (.int x2), .val (.int x3), .val (.int (x0 &&& (7 : Int32))), .val (.ref x16), .val .null, .val .null, .val (.ref b17), .val (.int (1 : Int32))] [(.int (1 : Int32))]))
        refine wwn_go (fun _ kk_ => XS.iload X19.here hx rfl (hb hby at_120) rfl kk_) ?_
        show own_W p e below s Z own_EL _ _ _ (T19.setTop (mkF m 122 #[.val (.int x0), .val (.int x1), .val (.int x2), .val (.int x3), .val (.int (x0 &&& (7 : Int32))), .val (.ref x16), .val .null, .val .null, .val (.ref b17), .val (.int (1 : Int32))] [(.int (x0 &&& (7 : Int32))), (.int (1 : Int32))]))
        refine wwn_ic_neN X19 hx (pc := 122) (hb hby at_122) (by rw [own_bits x0, if_neg hc10, if_pos hc27, if_pos hc44]; rfl) ?_
        show own_W p e below s Z own_EL _ _ _ (T19.setTop (mkF m 125 #[.val (.int x0), .val (.int x1), .val (.int x2), .val (.int x3), .val (.int (x0 &&& (7 : Int32))), .val (.ref x16), .val .null, .val .null, .val (.ref b17), .val (.int (1 : Int32))] []))
        refine wwn_go (fun _ kk_ => XS.iconst X19.here hx rfl (hb hby at_125) kk_) ?_
        show own_W p e below s Z own_EL _ _ _ (T19.setTop (mkF m 126 #[.val (.int x0), .val (.int x1), .val (.int x2), .val (.int x3), .val (.int (x0 &&& (7 : Int32))), .val (.ref x16), .val .null, .val .null, .val (.ref b17), .val (.int (1 : Int32))] [(.int (1 : Int32))]))
        refine wwn_go (fun _ kk_ => XS.goto X19.here hx rfl (pc0 := 126) (pc' := 130) rfl (hb hby at_126) (by decide) (by decide) kk_) ?_
        show own_W p e below s Z own_EL _ _ _ (T19.setTop (mkF m 130 #[.val (.int x0), .val (.int x1), .val (.int x2), .val (.int x3), .val (.int (x0 &&& (7 : Int32))), .val (.ref x16), .val .null, .val .null, .val (.ref b17), .val (.int (1 : Int32))] [(.int (1 : Int32))]))
        exact wwn_retN (t := .boolean) (ht := by simp) X19 hx hZ hEL Bd.returns (BodyLoose.notSynchronized Bd) (hb hby at_130) e19 I18 ⟨rfl, N19⟩ (by decide) (by decide)
      · show own_W p e below s Z own_EL _ _ _ (T16.setTop (mkF m 47 #[.val (.int x0), .val (.int x1), .val (.int x2), .val (.int x3), .val (.int (x0 &&& (7 : Int32))), .val (.ref x16), .val .null, .unset, .unset, .unset] []))
        refine wwn_go (fun _ kk_ => XS.iloadN X16.here hx rfl (hb hby at_47) rfl kk_) ?_
        show own_W p e below s Z own_EL _ _ _ (T16.setTop (mkF m 48 #[.val (.int x0), .val (.int x1), .val (.int x2), .val (.int x3), .val (.int (x0 &&& (7 : Int32))), .val (.ref x16), .val .null, .unset, .unset, .unset] [(.int x3)]))
        obtain ⟨_, _, ⟨T20, L20, k20, n20⟩, -, X20, S20, gr20, ⟨Lc20, hQ20, l20, y20, z20, C20⟩, st20⟩ := callSS X16 hx (y := (⟨"com/example/accordant/accordant/policy/ScopeShapePinLaw", "str", "(I)Ljava/lang/String;"⟩ : MethodName)) hown (mvT hZ (hw _ (List.mem_of_getElem? (i := 25) rfl))) (mvT hZ (hw _ (List.mem_of_getElem? (i := 26) rfl))) (mvT hZ (hw _ (List.mem_of_getElem? (i := 27) rfl))) (mvT hZ (hw _ (List.mem_of_getElem? (i := 28) rfl))) (by decide) (backOfSH (W := 0) (rmStr l Z a0 hw [] x3 zc h16 n0 Z16 O16_ O2 hz) hZ (hw _ (List.mem_of_getElem? (i := 28) rfl)) (hw _ (List.mem_of_getElem? (i := 27) rfl)) (by decide) (by decide) hEL I16.1.1) (g := (mkF m 48 #[.val (.int x0), .val (.int x1), .val (.int x2), .val (.int x3), .val (.int (x0 &&& (7 : Int32))), .val (.ref x16), .val .null, .unset, .unset, .unset] [(.int x3)])) rfl (by rw [hml]; rfl) (argsL := [(.int x3)]) (rest := []) (lenOf pd_5 rfl) rfl (by show 2 * 0 + _ ≤ _; exact Nat.le_of_eq rfl) (hb hby at_48) (fun _ _ => ⟨rfl, e16, (by decide : 6 + 6 ≤ _), (by decide : 12 + 12 ≤ _)⟩)
        dsimp only [Pt.U, Pt.locs, Pt.cells, Pt.slots] at X20 S20 gr20 l20 y20 z20 C20 st20 hQ20
        subst l20 y20 z20
        obtain ⟨X20, I20, hZ, hown⟩ := own_I.reb I16 e16 X20 S20 gr20 hZ hown C20
        generalize e20 : T20.heap = h20 at hQ20 I20
        obtain ⟨x20, rfl, N20q, gx20, Kq20, Eq20, O20_⟩ := hQ20
        have N20 := Fr.app N16 N20q
        have Z20 : n0 ≤ h20.size := Nat.le_trans Z16 Kq20.1
        refine wwn_go (fun _ kk_ => st20.trans kk_) ?_
        show own_W p e below s Z own_EL _ _ _ (T20.setTop (mkF m 51 #[.val (.int x0), .val (.int x1), .val (.int x2), .val (.int x3), .val (.int (x0 &&& (7 : Int32))), .val (.ref x16), .val .null, .unset, .unset, .unset] [(.ref x20)]))
        refine wwn_go (fun _ kk_ => XS.goto X20.here hx rfl (pc0 := 51) (pc' := 55) rfl (hb hby at_51) (by decide) (by decide) kk_) ?_
        show own_W p e below s Z own_EL _ _ _ (T20.setTop (mkF m 55 #[.val (.int x0), .val (.int x1), .val (.int x2), .val (.int x3), .val (.int (x0 &&& (7 : Int32))), .val (.ref x16), .val .null, .unset, .unset, .unset] [(.ref x20)]))
        refine wwn_go (fun _ kk_ => XS.astore X20.here hx rfl (hb hby at_55) rfl rfl (l' := #[.val (.int x0), .val (.int x1), .val (.int x2), .val (.int x3), .val (.int (x0 &&& (7 : Int32))), .val (.ref x16), .val .null, .val (.ref x20), .unset, .unset]) rfl kk_) ?_
        show own_W p e below s Z own_EL _ _ _ (T20.setTop (mkF m 57 #[.val (.int x0), .val (.int x1), .val (.int x2), .val (.int x3), .val (.int (x0 &&& (7 : Int32))), .val (.ref x16), .val .null, .val (.ref x20), .unset, .unset] []))
        obtain ⟨T21, h21, X21, e21, E21, A21, D21, -, st21⟩ := newO X20 hx hZ hown (hw _ (List.mem_of_getElem? (i := 0) rfl)) (hw _ (List.mem_of_getElem? (i := 1) rfl)) (hw _ (List.mem_of_getElem? (i := 2) rfl)) e20 (g := (mkF m 57 #[.val (.int x0), .val (.int x1), .val (.int x2), .val (.int x3), .val (.int (x0 &&& (7 : Int32))), .val (.ref x16), .val .null, .val (.ref x20), .unset, .unset] [])) rfl (hb hby at_57) (by decide) (by decide)
        obtain ⟨b21, g21⟩ : ∃ z, z = h20.size := ⟨_, rfl⟩
        rw [← g21] at A21 D21 st21
        refine wwn_go st21 ?_
        have I21 := I20.ext E21
        have O21_ := O20_.ext E21
        have g_b21 : n0 ≤ b21 := Nat.le_trans Z20 (Nat.le_of_eq g21.symm)
        have Z21 : n0 ≤ h21.size := Nat.le_trans Z20 E21.1
        have F21_b21_vendor : Fld Z h21 b21 "com/example/accordant/accordant/policy/Scope" "vendor" "Ljava/lang/String;" .null := D21 (Or.inr (hw _ (List.mem_of_getElem? (i := 15) rfl))) (ty := (.object "java/lang/String")) (by decide)
        have F21_b21_item : Fld Z h21 b21 "com/example/accordant/accordant/policy/Scope" "item" "Ljava/lang/String;" .null := D21 (Or.inr (hw _ (List.mem_of_getElem? (i := 17) rfl))) (ty := (.object "java/lang/String")) (by decide)
        have F21_b21_itemGroup : Fld Z h21 b21 "com/example/accordant/accordant/policy/Scope" "itemGroup" "Ljava/lang/String;" .null := D21 (Or.inr (hw _ (List.mem_of_getElem? (i := 19) rfl))) (ty := (.object "java/lang/String")) (by decide)
        show own_W p e below s Z own_EL _ _ _ (T21.setTop (mkF m 60 #[.val (.int x0), .val (.int x1), .val (.int x2), .val (.int x3), .val (.int (x0 &&& (7 : Int32))), .val (.ref x16), .val .null, .val (.ref x20), .unset, .unset] [(.ref b21)]))
        refine wwn_go (fun _ kk_ => XS.dup X21.here hx rfl (hb hby at_60) rfl rfl kk_) ?_
        show own_W p e below s Z own_EL _ _ _ (T21.setTop (mkF m 61 #[.val (.int x0), .val (.int x1), .val (.int x2), .val (.int x3), .val (.int (x0 &&& (7 : Int32))), .val (.ref x16), .val .null, .val (.ref x20), .unset, .unset] [(.ref b21), (.ref b21)]))
        refine wwn_go (fun _ kk_ => XS.aload X21.here hx rfl (hb hby at_61) rfl rfl kk_) ?_
        show own_W p e below s Z own_EL _ _ _ (T21.setTop (mkF m 63 #[.val (.int x0), .val (.int x1), .val (.int x2), .val (.int x3), .val (.int (x0 &&& (7 : Int32))), .val (.ref x16), .val .null, .val (.ref x20), .unset, .unset] [(.ref x16), (.ref b21), (.ref b21)]))
        refine wwn_go (fun _ kk_ => XS.aload X21.here hx rfl (hb hby at_63) rfl rfl kk_) ?_
        show own_W p e below s Z own_EL _ _ _ (T21.setTop (mkF m 65 #[.val (.int x0), .val (.int x1), .val (.int x2), .val (.int x3), .val (.int (x0 &&& (7 : Int32))), .val (.ref x16), .val .null, .val (.ref x20), .unset, .unset] [.null, (.ref x16), (.ref b21), (.ref b21)]))
        refine wwn_go (fun _ kk_ => XS.aload X21.here hx rfl (hb hby at_65) rfl rfl kk_) ?_
        show own_W p e below s Z own_EL _ _ _ (T21.setTop (mkF m 67 #[.val (.int x0), .val (.int x1), .val (.int x2), .val (.int x3), .val (.int (x0 &&& (7 : Int32))), .val (.ref x16), .val .null, .val (.ref x20), .unset, .unset] [(.ref x20), .null, (.ref x16), (.ref b21), (.ref b21)]))
        obtain ⟨_, _, ⟨T22, L22, k22, n22⟩, -, X22, ⟨Lc22, hQ22, l22, y22, z22⟩, st22⟩ := X21.specialBack hx (y := (⟨"com/example/accordant/accordant/policy/Scope", "<init>", "(Ljava/lang/String;Ljava/lang/String;Ljava/lang/String;)V"⟩ : MethodName)) rfl hown (mvT hZ (hw _ (List.mem_of_getElem? (i := 3) rfl))) (mvT hZ (hw _ (List.mem_of_getElem? (i := 4) rfl))) (mvT hZ (hw _ (List.mem_of_getElem? (i := 5) rfl))) (by decide) (backOf (W := 1) (rmI101 l Z a0 hw [] b21 x16 x20 h21 n0 Z21 A21 g_b21 F21_b21_vendor F21_b21_item F21_b21_itemGroup) hZ (hw _ (List.mem_of_getElem? (i := 5) rfl)) (hw _ (List.mem_of_getElem? (i := 2) rfl)) (by decide) (by decide)) (g := (mkF m 67 #[.val (.int x0), .val (.int x1), .val (.int x2), .val (.int x3), .val (.int (x0 &&& (7 : Int32))), .val (.ref x16), .val .null, .val (.ref x20), .unset, .unset] [(.ref x20), .null, (.ref x16), (.ref b21), (.ref b21)])) rfl (by rw [hml]; rfl) (Steps.refl _) (a := b21) (argsL := [(.ref x16), .null, (.ref x20)]) (rest := [(.ref b21)]) (lenOf pd_3 rfl) rfl (by show 2 * 0 + _ ≤ _; exact Nat.le_of_eq rfl) (hb hby at_67) (fun _ _ => ⟨rfl, e21, (by decide : 13 + 0 ≤ _), (by decide : 27 + 0 ≤ _)⟩)
        dsimp only [Pt.U, Pt.locs, Pt.cells, Pt.slots] at X22 l22 y22 z22 st22 hQ22
        subst l22 y22 z22
        generalize e22 : T22.heap = h22 at hQ22
        obtain ⟨rfl, N22q, Kq22, Eq22, F22_0, F22_1, F22_2⟩ := hQ22
        have N22 := Fr.app N20 N22q
        have I22 := I21.keep Kq22 (fun y hy => by cases List.mem_singleton.mp hy; exact (Safe.exa hZ.alike A21 (by decide) (by decide)))
        have Z22 : n0 ≤ h22.size := Nat.le_trans Z21 Kq22.1
        refine wwn_go (fun _ kk_ => st22.trans kk_) ?_
        show own_W p e below s Z own_EL _ _ _ (T22.setTop (mkF m 70 #[.val (.int x0), .val (.int x1), .val (.int x2), .val (.int x3), .val (.int (x0 &&& (7 : Int32))), .val (.ref x16), .val .null, .val (.ref x20), .unset, .unset] [(.ref b21)]))
        refine wwn_go (fun _ kk_ => XS.astore X22.here hx rfl (hb hby at_70) rfl rfl (l' := #[.val (.int x0), .val (.int x1), .val (.int x2), .val (.int x3), .val (.int (x0 &&& (7 : Int32))), .val (.ref x16), .val .null, .val (.ref x20), .val (.ref b21), .unset]) rfl kk_) ?_
        show own_W p e below s Z own_EL _ _ _ (T22.setTop (mkF m 72 #[.val (.int x0), .val (.int x1), .val (.int x2), .val (.int x3), .val (.int (x0 &&& (7 : Int32))), .val (.ref x16), .val .null, .val (.ref x20), .val (.ref b21), .unset] []))
        refine wwn_go (fun _ kk_ => XS.iconst X22.here hx rfl (hb hby at_72) kk_) ?_
        show own_W p e below s Z own_EL _ _ _ (T22.setTop (mkF m 73 #[.val (.int x0), .val (.int x1), .val (.int x2), .val (.int x3), .val (.int (x0 &&& (7 : Int32))), .val (.ref x16), .val .null, .val (.ref x20), .val (.ref b21), .unset] [(.int (0 : Int32))]))
        refine wwn_go (fun _ kk_ => XS.istore X22.here hx rfl (hb hby at_73) rfl (l' := #[.val (.int x0), .val (.int x1), .val (.int x2), .val (.int x3), .val (.int (x0 &&& (7 : Int32))), .val (.ref x16), .val .null, .val (.ref x20), .val (.ref b21), .val (.int (0 : Int32))]) rfl kk_) ?_
        show own_W p e below s Z own_EL _ _ _ (T22.setTop (mkF m 75 #[.val (.int x0), .val (.int x1), .val (.int x2), .val (.int x3), .val (.int (x0 &&& (7 : Int32))), .val (.ref x16), .val .null, .val (.ref x20), .val (.ref b21), .val (.int (0 : Int32))] []))
        refine wwn_go (fun _ kk_ => XS.aload X22.here hx rfl (hb hby at_75) rfl rfl kk_) ?_
        show own_W p e below s Z own_EL _ _ _ (T22.setTop (mkF m 77 #[.val (.int x0), .val (.int x1), .val (.int x2), .val (.int x3), .val (.int (x0 &&& (7 : Int32))), .val (.ref x16), .val .null, .val (.ref x20), .val (.ref b21), .val (.int (0 : Int32))] [(.ref x16)]))
        refine wwn_go (fun _ kk_ => XS.ifnullNo X22.here hx rfl (hb hby at_77) rfl kk_) ?_
        show own_W p e below s Z own_EL _ _ _ (T22.setTop (mkF m 80 #[.val (.int x0), .val (.int x1), .val (.int x2), .val (.int x3), .val (.int (x0 &&& (7 : Int32))), .val (.ref x16), .val .null, .val (.ref x20), .val (.ref b21), .val (.int (0 : Int32))] []))
        refine wwn_go (fun _ kk_ => XS.iload X22.here hx rfl (hb hby at_80) rfl kk_) ?_
        show own_W p e below s Z own_EL _ _ _ (T22.setTop (mkF m 82 #[.val (.int x0), .val (.int x1), .val (.int x2), .val (.int x3), .val (.int (x0 &&& (7 : Int32))), .val (.ref x16), .val .null, .val (.ref x20), .val (.ref b21), .val (.int (0 : Int32))] [(.int (0 : Int32))]))
        refine wwn_go (fun _ kk_ => XS.iconst X22.here hx rfl (hb hby at_82) kk_) ?_
        show own_W p e below s Z own_EL _ _ _ (T22.setTop (mkF m 83 #[.val (.int x0), .val (.int x1), .val (.int x2), .val (.int x3), .val (.int (x0 &&& (7 : Int32))), .val (.ref x16), .val .null, .val (.ref x20), .val (.ref b21), .val (.int (0 : Int32))] [(.int (1 : Int32)), (.int (0 : Int32))]))
        refine wwn_go (fun _ kk_ => XS.iadd X22.here hx rfl (hb hby at_83) rfl kk_) ?_
        show own_W p e below s Z own_EL _ _ _ (T22.setTop (mkF m 84 #[.val (.int x0), .val (.int x1), .val (.int x2), .val (.int x3), .val (.int (x0 &&& (7 : Int32))), .val (.ref x16), .val .null, .val (.ref x20), .val (.ref b21), .val (.int (0 : Int32))] [(.int (1 : Int32))]))
        refine wwn_go (fun _ kk_ => XS.istore X22.here hx rfl (hb hby at_84) rfl (l' := #[.val (.int x0), .val (.int x1), .val (.int x2), .val (.int x3), .val (.int (x0 &&& (7 : Int32))), .val (.ref x16), .val .null, .val (.ref x20), .val (.ref b21), .val (.int (1 : Int32))]) rfl kk_) ?_
        show own_W p e below s Z own_EL _ _ _ (T22.setTop (mkF m 86 #[.val (.int x0), .val (.int x1), .val (.int x2), .val (.int x3), .val (.int (x0 &&& (7 : Int32))), .val (.ref x16), .val .null, .val (.ref x20), .val (.ref b21), .val (.int (1 : Int32))] []))
        refine wwn_go (fun _ kk_ => XS.aload X22.here hx rfl (hb hby at_86) rfl rfl kk_) ?_
        show own_W p e below s Z own_EL _ _ _ (T22.setTop (mkF m 88 #[.val (.int x0), .val (.int x1), .val (.int x2), .val (.int x3), .val (.int (x0 &&& (7 : Int32))), .val (.ref x16), .val .null, .val (.ref x20), .val (.ref b21), .val (.int (1 : Int32))] [.null]))
        refine wwn_go (fun _ kk_ => XS.ifnullYes X22.here hx rfl (pc0 := 88) (pc' := 97) rfl (hb hby at_88) rfl (by decide) (by decide) kk_) ?_
        show own_W p e below s Z own_EL _ _ _ (T22.setTop (mkF m 97 #[.val (.int x0), .val (.int x1), .val (.int x2), .val (.int x3), .val (.int (x0 &&& (7 : Int32))), .val (.ref x16), .val .null, .val (.ref x20), .val (.ref b21), .val (.int (1 : Int32))] []))
        refine wwn_go (fun _ kk_ => XS.aload X22.here hx rfl (hb hby at_97) rfl rfl kk_) ?_
        show own_W p e below s Z own_EL _ _ _ (T22.setTop (mkF m 99 #[.val (.int x0), .val (.int x1), .val (.int x2), .val (.int x3), .val (.int (x0 &&& (7 : Int32))), .val (.ref x16), .val .null, .val (.ref x20), .val (.ref b21), .val (.int (1 : Int32))] [(.ref x20)]))
        refine wwn_go (fun _ kk_ => XS.ifnullNo X22.here hx rfl (hb hby at_99) rfl kk_) ?_
        show own_W p e below s Z own_EL _ _ _ (T22.setTop (mkF m 102 #[.val (.int x0), .val (.int x1), .val (.int x2), .val (.int x3), .val (.int (x0 &&& (7 : Int32))), .val (.ref x16), .val .null, .val (.ref x20), .val (.ref b21), .val (.int (1 : Int32))] []))
        refine wwn_go (fun _ kk_ => XS.iload X22.here hx rfl (hb hby at_102) rfl kk_) ?_
        show own_W p e below s Z own_EL _ _ _ (T22.setTop (mkF m 104 #[.val (.int x0), .val (.int x1), .val (.int x2), .val (.int x3), .val (.int (x0 &&& (7 : Int32))), .val (.ref x16), .val .null, .val (.ref x20), .val (.ref b21), .val (.int (1 : Int32))] [(.int (1 : Int32))]))
        refine wwn_go (fun _ kk_ => XS.iconst X22.here hx rfl (hb hby at_104) kk_) ?_
        show own_W p e below s Z own_EL _ _ _ (T22.setTop (mkF m 105 #[.val (.int x0), .val (.int x1), .val (.int x2), .val (.int x3), .val (.int (x0 &&& (7 : Int32))), .val (.ref x16), .val .null, .val (.ref x20), .val (.ref b21), .val (.int (1 : Int32))] [(.int (4 : Int32)), (.int (1 : Int32))]))
        refine wwn_go (fun _ kk_ => XS.iadd X22.here hx rfl (hb hby at_105) rfl kk_) ?_
        show own_W p e below s Z own_EL _ _ _ (T22.setTop (mkF m 106 #[.val (.int x0), .val (.int x1), .val (.int x2), .val (.int x3), .val (.int (x0 &&& (7 : Int32))), .val (.ref x16), .val .null, .val (.ref x20), .val (.ref b21), .val (.int (1 : Int32))] [(.int (5 : Int32))]))
        refine wwn_go (fun _ kk_ => XS.istore X22.here hx rfl (hb hby at_106) rfl (l' := #[.val (.int x0), .val (.int x1), .val (.int x2), .val (.int x3), .val (.int (x0 &&& (7 : Int32))), .val (.ref x16), .val .null, .val (.ref x20), .val (.ref b21), .val (.int (5 : Int32))]) rfl kk_) ?_
        show own_W p e below s Z own_EL _ _ _ (T22.setTop (mkF m 108 #[.val (.int x0), .val (.int x1), .val (.int x2), .val (.int x3), .val (.int (x0 &&& (7 : Int32))), .val (.ref x16), .val .null, .val (.ref x20), .val (.ref b21), .val (.int (5 : Int32))] []))
        refine wwn_go (fun _ kk_ => XS.aload X22.here hx rfl (hb hby at_108) rfl rfl kk_) ?_
        show own_W p e below s Z own_EL _ _ _ (T22.setTop (mkF m 110 #[.val (.int x0), .val (.int x1), .val (.int x2), .val (.int x3), .val (.int (x0 &&& (7 : Int32))), .val (.ref x16), .val .null, .val (.ref x20), .val (.ref b21), .val (.int (5 : Int32))] [(.ref b21)]))
        obtain ⟨cq23, kq23, q23a, q23b, q23c⟩ := isOf hZ e22 Eq22
        obtain ⟨_, _, ⟨T23, L23, k23, n23⟩, -, X23, ⟨Lc23, hQ23, l23, y23, z23⟩, st23⟩ := X22.virtualBack hx (y := (⟨"com/example/accordant/accordant/policy/Scope", "shape", "()I"⟩ : MethodName)) (z := (⟨"com/example/accordant/accordant/policy/Scope", "shape", "()I"⟩ : MethodName)) hown (mvT hZ (hw _ (List.mem_of_getElem? (i := 20) rfl))) (mvT hZ (hw _ (List.mem_of_getElem? (i := 21) rfl))) (notFace_of_selects (args := #[]) (mvT hZ (hw _ (List.mem_of_getElem? (i := 23) rfl)))) (mvT hZ (hw _ (List.mem_of_getElem? (i := 23) rfl))) (mvT hZ (hw _ (List.mem_of_getElem? (i := 22) rfl))) (by decide) (backOf (W := 0) (rmP101 l Z a0 hw [] b21 x16 x20 h22 n0 Z22 F22_0 F22_1 F22_2) hZ (hw _ (List.mem_of_getElem? (i := 24) rfl)) (hw _ (List.mem_of_getElem? (i := 2) rfl)) (by decide) (by decide)) q23a q23c (g := (mkF m 110 #[.val (.int x0), .val (.int x1), .val (.int x2), .val (.int x3), .val (.int (x0 &&& (7 : Int32))), .val (.ref x16), .val .null, .val (.ref x20), .val (.ref b21), .val (.int (5 : Int32))] [(.ref b21)])) rfl (by rw [hml]; rfl) (Steps.refl _) (argsL := []) (rest := []) (lenOf pd_4 rfl) rfl (by show 2 * 0 + _ ≤ _; exact Nat.le_of_eq rfl) (hb hby at_110) (fun _ _ => ⟨rfl, e22, (by decide : 13 + 0 ≤ _), (by decide : 27 + 0 ≤ _)⟩)
        dsimp only [Pt.U, Pt.locs, Pt.cells, Pt.slots] at X23 l23 y23 z23 st23 hQ23
        subst l23 y23 z23
        obtain ⟨rfl, N23q, e23⟩ := hQ23
        have N23 := Fr.app N22 N23q
        refine wwn_go (fun _ kk_ => st23.trans kk_) ?_
        show own_W p e below s Z own_EL _ _ _ (T23.setTop (mkF m 113 #[.val (.int x0), .val (.int x1), .val (.int x2), .val (.int x3), .val (.int (x0 &&& (7 : Int32))), .val (.ref x16), .val .null, .val (.ref x20), .val (.ref b21), .val (.int (5 : Int32))] [(.int (5 : Int32))]))
        refine wwn_go (fun _ kk_ => XS.iload X23.here hx rfl (hb hby at_113) rfl kk_) ?_
        show own_W p e below s Z own_EL _ _ _ (T23.setTop (mkF m 115 #[.val (.int x0), .val (.int x1), .val (.int x2), .val (.int x3), .val (.int (x0 &&& (7 : Int32))), .val (.ref x16), .val .null, .val (.ref x20), .val (.ref b21), .val (.int (5 : Int32))] [(.int (5 : Int32)), (.int (5 : Int32))]))
        refine wwn_ic_neN X23 hx (pc := 115) (hb hby at_115) (by decide) ?_
        show own_W p e below s Z own_EL _ _ _ (T23.setTop (mkF m 118 #[.val (.int x0), .val (.int x1), .val (.int x2), .val (.int x3), .val (.int (x0 &&& (7 : Int32))), .val (.ref x16), .val .null, .val (.ref x20), .val (.ref b21), .val (.int (5 : Int32))] []))
        refine wwn_go (fun _ kk_ => XS.iload X23.here hx rfl (hb hby at_118) rfl kk_) ?_
        show own_W p e below s Z own_EL _ _ _ (T23.setTop (mkF m 120 #[.val (.int x0), .val (.int x1), .val (.int x2), .val (.int x3), .val (.int (x0 &&& (7 : Int32))), .val (.ref x16), .val .null, .val (.ref x20), .val (.ref b21), .val (.int (5 : Int32))] [(.int (5 : Int32))]))
        refine wwn_go (fun _ kk_ => XS.iload X23.here hx rfl (hb hby at_120) rfl kk_) ?_
        show own_W p e below s Z own_EL _ _ _ (T23.setTop (mkF m 122 #[.val (.int x0), .val (.int x1), .val (.int x2), .val (.int x3), .val (.int (x0 &&& (7 : Int32))), .val (.ref x16), .val .null, .val (.ref x20), .val (.ref b21), .val (.int (5 : Int32))] [(.int (x0 &&& (7 : Int32))), (.int (5 : Int32))]))
        refine wwn_ic_neN X23 hx (pc := 122) (hb hby at_122) (by rw [own_bits x0, if_neg hc10, if_pos hc27, if_neg hc44]; rfl) ?_
        show own_W p e below s Z own_EL _ _ _ (T23.setTop (mkF m 125 #[.val (.int x0), .val (.int x1), .val (.int x2), .val (.int x3), .val (.int (x0 &&& (7 : Int32))), .val (.ref x16), .val .null, .val (.ref x20), .val (.ref b21), .val (.int (5 : Int32))] []))
        refine wwn_go (fun _ kk_ => XS.iconst X23.here hx rfl (hb hby at_125) kk_) ?_
        show own_W p e below s Z own_EL _ _ _ (T23.setTop (mkF m 126 #[.val (.int x0), .val (.int x1), .val (.int x2), .val (.int x3), .val (.int (x0 &&& (7 : Int32))), .val (.ref x16), .val .null, .val (.ref x20), .val (.ref b21), .val (.int (5 : Int32))] [(.int (1 : Int32))]))
        refine wwn_go (fun _ kk_ => XS.goto X23.here hx rfl (pc0 := 126) (pc' := 130) rfl (hb hby at_126) (by decide) (by decide) kk_) ?_
        show own_W p e below s Z own_EL _ _ _ (T23.setTop (mkF m 130 #[.val (.int x0), .val (.int x1), .val (.int x2), .val (.int x3), .val (.int (x0 &&& (7 : Int32))), .val (.ref x16), .val .null, .val (.ref x20), .val (.ref b21), .val (.int (5 : Int32))] [(.int (1 : Int32))]))
        exact wwn_retN (t := .boolean) (ht := by simp) X23 hx hZ hEL Bd.returns (BodyLoose.notSynchronized Bd) (hb hby at_130) e23 I22 ⟨rfl, N23⟩ (by decide) (by decide)
    · show own_W p e below s Z own_EL _ _ _ (T16.setTop (mkF m 30 #[.val (.int x0), .val (.int x1), .val (.int x2), .val (.int x3), .val (.int (x0 &&& (7 : Int32))), .val (.ref x16), .unset, .unset, .unset, .unset] []))
      refine wwn_go (fun _ kk_ => XS.iloadN X16.here hx rfl (hb hby at_30) rfl kk_) ?_
      show own_W p e below s Z own_EL _ _ _ (T16.setTop (mkF m 31 #[.val (.int x0), .val (.int x1), .val (.int x2), .val (.int x3), .val (.int (x0 &&& (7 : Int32))), .val (.ref x16), .unset, .unset, .unset, .unset] [(.int x2)]))
      obtain ⟨_, _, ⟨T24, L24, k24, n24⟩, -, X24, S24, gr24, ⟨Lc24, hQ24, l24, y24, z24, C24⟩, st24⟩ := callSS X16 hx (y := (⟨"com/example/accordant/accordant/policy/ScopeShapePinLaw", "str", "(I)Ljava/lang/String;"⟩ : MethodName)) hown (mvT hZ (hw _ (List.mem_of_getElem? (i := 25) rfl))) (mvT hZ (hw _ (List.mem_of_getElem? (i := 26) rfl))) (mvT hZ (hw _ (List.mem_of_getElem? (i := 27) rfl))) (mvT hZ (hw _ (List.mem_of_getElem? (i := 28) rfl))) (by decide) (backOfSH (W := 0) (rmStr l Z a0 hw [] x2 zc h16 n0 Z16 O16_ O2 hz) hZ (hw _ (List.mem_of_getElem? (i := 28) rfl)) (hw _ (List.mem_of_getElem? (i := 27) rfl)) (by decide) (by decide) hEL I16.1.1) (g := (mkF m 31 #[.val (.int x0), .val (.int x1), .val (.int x2), .val (.int x3), .val (.int (x0 &&& (7 : Int32))), .val (.ref x16), .unset, .unset, .unset, .unset] [(.int x2)])) rfl (by rw [hml]; rfl) (argsL := [(.int x2)]) (rest := []) (lenOf pd_5 rfl) rfl (by show 2 * 0 + _ ≤ _; exact Nat.le_of_eq rfl) (hb hby at_31) (fun _ _ => ⟨rfl, e16, (by decide : 6 + 6 ≤ _), (by decide : 12 + 12 ≤ _)⟩)
      dsimp only [Pt.U, Pt.locs, Pt.cells, Pt.slots] at X24 S24 gr24 l24 y24 z24 C24 st24 hQ24
      subst l24 y24 z24
      obtain ⟨X24, I24, hZ, hown⟩ := own_I.reb I16 e16 X24 S24 gr24 hZ hown C24
      generalize e24 : T24.heap = h24 at hQ24 I24
      obtain ⟨x24, rfl, N24q, gx24, Kq24, Eq24, O24_⟩ := hQ24
      have N24 := Fr.app N16 N24q
      have Z24 : n0 ≤ h24.size := Nat.le_trans Z16 Kq24.1
      refine wwn_go (fun _ kk_ => st24.trans kk_) ?_
      show own_W p e below s Z own_EL _ _ _ (T24.setTop (mkF m 34 #[.val (.int x0), .val (.int x1), .val (.int x2), .val (.int x3), .val (.int (x0 &&& (7 : Int32))), .val (.ref x16), .unset, .unset, .unset, .unset] [(.ref x24)]))
      refine wwn_go (fun _ kk_ => XS.goto X24.here hx rfl (pc0 := 34) (pc' := 38) rfl (hb hby at_34) (by decide) (by decide) kk_) ?_
      show own_W p e below s Z own_EL _ _ _ (T24.setTop (mkF m 38 #[.val (.int x0), .val (.int x1), .val (.int x2), .val (.int x3), .val (.int (x0 &&& (7 : Int32))), .val (.ref x16), .unset, .unset, .unset, .unset] [(.ref x24)]))
      refine wwn_go (fun _ kk_ => XS.astore X24.here hx rfl (hb hby at_38) rfl rfl (l' := #[.val (.int x0), .val (.int x1), .val (.int x2), .val (.int x3), .val (.int (x0 &&& (7 : Int32))), .val (.ref x16), .val (.ref x24), .unset, .unset, .unset]) rfl kk_) ?_
      show own_W p e below s Z own_EL _ _ _ (T24.setTop (mkF m 40 #[.val (.int x0), .val (.int x1), .val (.int x2), .val (.int x3), .val (.int (x0 &&& (7 : Int32))), .val (.ref x16), .val (.ref x24), .unset, .unset, .unset] []))
      refine wwn_go (fun _ kk_ => XS.iload X24.here hx rfl (hb hby at_40) rfl kk_) ?_
      show own_W p e below s Z own_EL _ _ _ (T24.setTop (mkF m 42 #[.val (.int x0), .val (.int x1), .val (.int x2), .val (.int x3), .val (.int (x0 &&& (7 : Int32))), .val (.ref x16), .val (.ref x24), .unset, .unset, .unset] [(.int (x0 &&& (7 : Int32)))]))
      refine wwn_go (fun _ kk_ => XS.iconst X24.here hx rfl (hb hby at_42) kk_) ?_
      show own_W p e below s Z own_EL _ _ _ (T24.setTop (mkF m 43 #[.val (.int x0), .val (.int x1), .val (.int x2), .val (.int x3), .val (.int (x0 &&& (7 : Int32))), .val (.ref x16), .val (.ref x24), .unset, .unset, .unset] [(.int (4 : Int32)), (.int (x0 &&& (7 : Int32)))]))
      refine wwn_go (fun _ kk_ => XS.iand X24.here hx rfl (hb hby at_43) rfl kk_) ?_
      show own_W p e below s Z own_EL _ _ _ (T24.setTop (mkF m 44 #[.val (.int x0), .val (.int x1), .val (.int x2), .val (.int x3), .val (.int (x0 &&& (7 : Int32))), .val (.ref x16), .val (.ref x24), .unset, .unset, .unset] [(.int ((x0 &&& (7 : Int32)) &&& (4 : Int32)))]))
      refine wwn_if_eq X24 hx (pc := 44) (pc' := 54) (hb hby at_44) (by decide) (by decide) (fun hc44 => ?_) (fun hc44 => ?_)
      · show own_W p e below s Z own_EL _ _ _ (T24.setTop (mkF m 54 #[.val (.int x0), .val (.int x1), .val (.int x2), .val (.int x3), .val (.int (x0 &&& (7 : Int32))), .val (.ref x16), .val (.ref x24), .unset, .unset, .unset] []))
        refine wwn_go (fun _ kk_ => XS.aconstNull X24.here hx rfl (hb hby at_54) kk_) ?_
        show own_W p e below s Z own_EL _ _ _ (T24.setTop (mkF m 55 #[.val (.int x0), .val (.int x1), .val (.int x2), .val (.int x3), .val (.int (x0 &&& (7 : Int32))), .val (.ref x16), .val (.ref x24), .unset, .unset, .unset] [.null]))
        refine wwn_go (fun _ kk_ => XS.astore X24.here hx rfl (hb hby at_55) rfl rfl (l' := #[.val (.int x0), .val (.int x1), .val (.int x2), .val (.int x3), .val (.int (x0 &&& (7 : Int32))), .val (.ref x16), .val (.ref x24), .val .null, .unset, .unset]) rfl kk_) ?_
        show own_W p e below s Z own_EL _ _ _ (T24.setTop (mkF m 57 #[.val (.int x0), .val (.int x1), .val (.int x2), .val (.int x3), .val (.int (x0 &&& (7 : Int32))), .val (.ref x16), .val (.ref x24), .val .null, .unset, .unset] []))
        obtain ⟨T25, h25, X25, e25, E25, A25, D25, -, st25⟩ := newO X24 hx hZ hown (hw _ (List.mem_of_getElem? (i := 0) rfl)) (hw _ (List.mem_of_getElem? (i := 1) rfl)) (hw _ (List.mem_of_getElem? (i := 2) rfl)) e24 (g := (mkF m 57 #[.val (.int x0), .val (.int x1), .val (.int x2), .val (.int x3), .val (.int (x0 &&& (7 : Int32))), .val (.ref x16), .val (.ref x24), .val .null, .unset, .unset] [])) rfl (hb hby at_57) (by decide) (by decide)
        obtain ⟨b25, g25⟩ : ∃ z, z = h24.size := ⟨_, rfl⟩
        rw [← g25] at A25 D25 st25
        refine wwn_go st25 ?_
        have I25 := I24.ext E25
        have O25_ := O24_.ext E25
        have g_b25 : n0 ≤ b25 := Nat.le_trans Z24 (Nat.le_of_eq g25.symm)
        have Z25 : n0 ≤ h25.size := Nat.le_trans Z24 E25.1
        have F25_b25_vendor : Fld Z h25 b25 "com/example/accordant/accordant/policy/Scope" "vendor" "Ljava/lang/String;" .null := D25 (Or.inr (hw _ (List.mem_of_getElem? (i := 15) rfl))) (ty := (.object "java/lang/String")) (by decide)
        have F25_b25_item : Fld Z h25 b25 "com/example/accordant/accordant/policy/Scope" "item" "Ljava/lang/String;" .null := D25 (Or.inr (hw _ (List.mem_of_getElem? (i := 17) rfl))) (ty := (.object "java/lang/String")) (by decide)
        have F25_b25_itemGroup : Fld Z h25 b25 "com/example/accordant/accordant/policy/Scope" "itemGroup" "Ljava/lang/String;" .null := D25 (Or.inr (hw _ (List.mem_of_getElem? (i := 19) rfl))) (ty := (.object "java/lang/String")) (by decide)
        show own_W p e below s Z own_EL _ _ _ (T25.setTop (mkF m 60 #[.val (.int x0), .val (.int x1), .val (.int x2), .val (.int x3), .val (.int (x0 &&& (7 : Int32))), .val (.ref x16), .val (.ref x24), .val .null, .unset, .unset] [(.ref b25)]))
        refine wwn_go (fun _ kk_ => XS.dup X25.here hx rfl (hb hby at_60) rfl rfl kk_) ?_
        show own_W p e below s Z own_EL _ _ _ (T25.setTop (mkF m 61 #[.val (.int x0), .val (.int x1), .val (.int x2), .val (.int x3), .val (.int (x0 &&& (7 : Int32))), .val (.ref x16), .val (.ref x24), .val .null, .unset, .unset] [(.ref b25), (.ref b25)]))
        refine wwn_go (fun _ kk_ => XS.aload X25.here hx rfl (hb hby at_61) rfl rfl kk_) ?_
        show own_W p e below s Z own_EL _ _ _ (T25.setTop (mkF m 63 #[.val (.int x0), .val (.int x1), .val (.int x2), .val (.int x3), .val (.int (x0 &&& (7 : Int32))), .val (.ref x16), .val (.ref x24), .val .null, .unset, .unset] [(.ref x16), (.ref b25), (.ref b25)]))
        refine wwn_go (fun _ kk_ => XS.aload X25.here hx rfl (hb hby at_63) rfl rfl kk_) ?_
        show own_W p e below s Z own_EL _ _ _ (T25.setTop (mkF m 65 #[.val (.int x0), .val (.int x1), .val (.int x2), .val (.int x3), .val (.int (x0 &&& (7 : Int32))), .val (.ref x16), .val (.ref x24), .val .null, .unset, .unset] [(.ref x24), (.ref x16), (.ref b25), (.ref b25)]))
        refine wwn_go (fun _ kk_ => XS.aload X25.here hx rfl (hb hby at_65) rfl rfl kk_) ?_
        show own_W p e below s Z own_EL _ _ _ (T25.setTop (mkF m 67 #[.val (.int x0), .val (.int x1), .val (.int x2), .val (.int x3), .val (.int (x0 &&& (7 : Int32))), .val (.ref x16), .val (.ref x24), .val .null, .unset, .unset] [.null, (.ref x24), (.ref x16), (.ref b25), (.ref b25)]))
        obtain ⟨_, _, ⟨T26, L26, k26, n26⟩, -, X26, ⟨Lc26, hQ26, l26, y26, z26⟩, st26⟩ := X25.specialBack hx (y := (⟨"com/example/accordant/accordant/policy/Scope", "<init>", "(Ljava/lang/String;Ljava/lang/String;Ljava/lang/String;)V"⟩ : MethodName)) rfl hown (mvT hZ (hw _ (List.mem_of_getElem? (i := 3) rfl))) (mvT hZ (hw _ (List.mem_of_getElem? (i := 4) rfl))) (mvT hZ (hw _ (List.mem_of_getElem? (i := 5) rfl))) (by decide) (backOf (W := 1) (rmI110 l Z a0 hw [] b25 x16 x24 h25 n0 Z25 A25 g_b25 F25_b25_vendor F25_b25_item F25_b25_itemGroup) hZ (hw _ (List.mem_of_getElem? (i := 5) rfl)) (hw _ (List.mem_of_getElem? (i := 2) rfl)) (by decide) (by decide)) (g := (mkF m 67 #[.val (.int x0), .val (.int x1), .val (.int x2), .val (.int x3), .val (.int (x0 &&& (7 : Int32))), .val (.ref x16), .val (.ref x24), .val .null, .unset, .unset] [.null, (.ref x24), (.ref x16), (.ref b25), (.ref b25)])) rfl (by rw [hml]; rfl) (Steps.refl _) (a := b25) (argsL := [(.ref x16), (.ref x24), .null]) (rest := [(.ref b25)]) (lenOf pd_3 rfl) rfl (by show 2 * 0 + _ ≤ _; exact Nat.le_of_eq rfl) (hb hby at_67) (fun _ _ => ⟨rfl, e25, (by decide : 13 + 0 ≤ _), (by decide : 27 + 0 ≤ _)⟩)
        dsimp only [Pt.U, Pt.locs, Pt.cells, Pt.slots] at X26 l26 y26 z26 st26 hQ26
        subst l26 y26 z26
        generalize e26 : T26.heap = h26 at hQ26
        obtain ⟨rfl, N26q, Kq26, Eq26, F26_0, F26_1, F26_2⟩ := hQ26
        have N26 := Fr.app N24 N26q
        have I26 := I25.keep Kq26 (fun y hy => by cases List.mem_singleton.mp hy; exact (Safe.exa hZ.alike A25 (by decide) (by decide)))
        have Z26 : n0 ≤ h26.size := Nat.le_trans Z25 Kq26.1
        refine wwn_go (fun _ kk_ => st26.trans kk_) ?_
        show own_W p e below s Z own_EL _ _ _ (T26.setTop (mkF m 70 #[.val (.int x0), .val (.int x1), .val (.int x2), .val (.int x3), .val (.int (x0 &&& (7 : Int32))), .val (.ref x16), .val (.ref x24), .val .null, .unset, .unset] [(.ref b25)]))
        refine wwn_go (fun _ kk_ => XS.astore X26.here hx rfl (hb hby at_70) rfl rfl (l' := #[.val (.int x0), .val (.int x1), .val (.int x2), .val (.int x3), .val (.int (x0 &&& (7 : Int32))), .val (.ref x16), .val (.ref x24), .val .null, .val (.ref b25), .unset]) rfl kk_) ?_
        show own_W p e below s Z own_EL _ _ _ (T26.setTop (mkF m 72 #[.val (.int x0), .val (.int x1), .val (.int x2), .val (.int x3), .val (.int (x0 &&& (7 : Int32))), .val (.ref x16), .val (.ref x24), .val .null, .val (.ref b25), .unset] []))
        refine wwn_go (fun _ kk_ => XS.iconst X26.here hx rfl (hb hby at_72) kk_) ?_
        show own_W p e below s Z own_EL _ _ _ (T26.setTop (mkF m 73 #[.val (.int x0), .val (.int x1), .val (.int x2), .val (.int x3), .val (.int (x0 &&& (7 : Int32))), .val (.ref x16), .val (.ref x24), .val .null, .val (.ref b25), .unset] [(.int (0 : Int32))]))
        refine wwn_go (fun _ kk_ => XS.istore X26.here hx rfl (hb hby at_73) rfl (l' := #[.val (.int x0), .val (.int x1), .val (.int x2), .val (.int x3), .val (.int (x0 &&& (7 : Int32))), .val (.ref x16), .val (.ref x24), .val .null, .val (.ref b25), .val (.int (0 : Int32))]) rfl kk_) ?_
        show own_W p e below s Z own_EL _ _ _ (T26.setTop (mkF m 75 #[.val (.int x0), .val (.int x1), .val (.int x2), .val (.int x3), .val (.int (x0 &&& (7 : Int32))), .val (.ref x16), .val (.ref x24), .val .null, .val (.ref b25), .val (.int (0 : Int32))] []))
        refine wwn_go (fun _ kk_ => XS.aload X26.here hx rfl (hb hby at_75) rfl rfl kk_) ?_
        show own_W p e below s Z own_EL _ _ _ (T26.setTop (mkF m 77 #[.val (.int x0), .val (.int x1), .val (.int x2), .val (.int x3), .val (.int (x0 &&& (7 : Int32))), .val (.ref x16), .val (.ref x24), .val .null, .val (.ref b25), .val (.int (0 : Int32))] [(.ref x16)]))
        refine wwn_go (fun _ kk_ => XS.ifnullNo X26.here hx rfl (hb hby at_77) rfl kk_) ?_
        show own_W p e below s Z own_EL _ _ _ (T26.setTop (mkF m 80 #[.val (.int x0), .val (.int x1), .val (.int x2), .val (.int x3), .val (.int (x0 &&& (7 : Int32))), .val (.ref x16), .val (.ref x24), .val .null, .val (.ref b25), .val (.int (0 : Int32))] []))
        refine wwn_go (fun _ kk_ => XS.iload X26.here hx rfl (hb hby at_80) rfl kk_) ?_
        show own_W p e below s Z own_EL _ _ _ (T26.setTop (mkF m 82 #[.val (.int x0), .val (.int x1), .val (.int x2), .val (.int x3), .val (.int (x0 &&& (7 : Int32))), .val (.ref x16), .val (.ref x24), .val .null, .val (.ref b25), .val (.int (0 : Int32))] [(.int (0 : Int32))]))
        refine wwn_go (fun _ kk_ => XS.iconst X26.here hx rfl (hb hby at_82) kk_) ?_
        show own_W p e below s Z own_EL _ _ _ (T26.setTop (mkF m 83 #[.val (.int x0), .val (.int x1), .val (.int x2), .val (.int x3), .val (.int (x0 &&& (7 : Int32))), .val (.ref x16), .val (.ref x24), .val .null, .val (.ref b25), .val (.int (0 : Int32))] [(.int (1 : Int32)), (.int (0 : Int32))]))
        refine wwn_go (fun _ kk_ => XS.iadd X26.here hx rfl (hb hby at_83) rfl kk_) ?_
        show own_W p e below s Z own_EL _ _ _ (T26.setTop (mkF m 84 #[.val (.int x0), .val (.int x1), .val (.int x2), .val (.int x3), .val (.int (x0 &&& (7 : Int32))), .val (.ref x16), .val (.ref x24), .val .null, .val (.ref b25), .val (.int (0 : Int32))] [(.int (1 : Int32))]))
        refine wwn_go (fun _ kk_ => XS.istore X26.here hx rfl (hb hby at_84) rfl (l' := #[.val (.int x0), .val (.int x1), .val (.int x2), .val (.int x3), .val (.int (x0 &&& (7 : Int32))), .val (.ref x16), .val (.ref x24), .val .null, .val (.ref b25), .val (.int (1 : Int32))]) rfl kk_) ?_
        show own_W p e below s Z own_EL _ _ _ (T26.setTop (mkF m 86 #[.val (.int x0), .val (.int x1), .val (.int x2), .val (.int x3), .val (.int (x0 &&& (7 : Int32))), .val (.ref x16), .val (.ref x24), .val .null, .val (.ref b25), .val (.int (1 : Int32))] []))
        refine wwn_go (fun _ kk_ => XS.aload X26.here hx rfl (hb hby at_86) rfl rfl kk_) ?_
        show own_W p e below s Z own_EL _ _ _ (T26.setTop (mkF m 88 #[.val (.int x0), .val (.int x1), .val (.int x2), .val (.int x3), .val (.int (x0 &&& (7 : Int32))), .val (.ref x16), .val (.ref x24), .val .null, .val (.ref b25), .val (.int (1 : Int32))] [(.ref x24)]))
        refine wwn_go (fun _ kk_ => XS.ifnullNo X26.here hx rfl (hb hby at_88) rfl kk_) ?_
        show own_W p e below s Z own_EL _ _ _ (T26.setTop (mkF m 91 #[.val (.int x0), .val (.int x1), .val (.int x2), .val (.int x3), .val (.int (x0 &&& (7 : Int32))), .val (.ref x16), .val (.ref x24), .val .null, .val (.ref b25), .val (.int (1 : Int32))] []))
        refine wwn_go (fun _ kk_ => XS.iload X26.here hx rfl (hb hby at_91) rfl kk_) ?_
        show own_W p e below s Z own_EL _ _ _ (T26.setTop (mkF m 93 #[.val (.int x0), .val (.int x1), .val (.int x2), .val (.int x3), .val (.int (x0 &&& (7 : Int32))), .val (.ref x16), .val (.ref x24), .val .null, .val (.ref b25), .val (.int (1 : Int32))] [(.int (1 : Int32))]))
        refine wwn_go (fun _ kk_ => XS.iconst X26.here hx rfl (hb hby at_93) kk_) ?_
        show own_W p e below s Z own_EL _ _ _ (T26.setTop (mkF m 94 #[.val (.int x0), .val (.int x1), .val (.int x2), .val (.int x3), .val (.int (x0 &&& (7 : Int32))), .val (.ref x16), .val (.ref x24), .val .null, .val (.ref b25), .val (.int (1 : Int32))] [(.int (2 : Int32)), (.int (1 : Int32))]))
        refine wwn_go (fun _ kk_ => XS.iadd X26.here hx rfl (hb hby at_94) rfl kk_) ?_
        show own_W p e below s Z own_EL _ _ _ (T26.setTop (mkF m 95 #[.val (.int x0), .val (.int x1), .val (.int x2), .val (.int x3), .val (.int (x0 &&& (7 : Int32))), .val (.ref x16), .val (.ref x24), .val .null, .val (.ref b25), .val (.int (1 : Int32))] [(.int (3 : Int32))]))
        refine wwn_go (fun _ kk_ => XS.istore X26.here hx rfl (hb hby at_95) rfl (l' := #[.val (.int x0), .val (.int x1), .val (.int x2), .val (.int x3), .val (.int (x0 &&& (7 : Int32))), .val (.ref x16), .val (.ref x24), .val .null, .val (.ref b25), .val (.int (3 : Int32))]) rfl kk_) ?_
        show own_W p e below s Z own_EL _ _ _ (T26.setTop (mkF m 97 #[.val (.int x0), .val (.int x1), .val (.int x2), .val (.int x3), .val (.int (x0 &&& (7 : Int32))), .val (.ref x16), .val (.ref x24), .val .null, .val (.ref b25), .val (.int (3 : Int32))] []))
        refine wwn_go (fun _ kk_ => XS.aload X26.here hx rfl (hb hby at_97) rfl rfl kk_) ?_
        show own_W p e below s Z own_EL _ _ _ (T26.setTop (mkF m 99 #[.val (.int x0), .val (.int x1), .val (.int x2), .val (.int x3), .val (.int (x0 &&& (7 : Int32))), .val (.ref x16), .val (.ref x24), .val .null, .val (.ref b25), .val (.int (3 : Int32))] [.null]))
        refine wwn_go (fun _ kk_ => XS.ifnullYes X26.here hx rfl (pc0 := 99) (pc' := 108) rfl (hb hby at_99) rfl (by decide) (by decide) kk_) ?_
        show own_W p e below s Z own_EL _ _ _ (T26.setTop (mkF m 108 #[.val (.int x0), .val (.int x1), .val (.int x2), .val (.int x3), .val (.int (x0 &&& (7 : Int32))), .val (.ref x16), .val (.ref x24), .val .null, .val (.ref b25), .val (.int (3 : Int32))] []))
        refine wwn_go (fun _ kk_ => XS.aload X26.here hx rfl (hb hby at_108) rfl rfl kk_) ?_
        show own_W p e below s Z own_EL _ _ _ (T26.setTop (mkF m 110 #[.val (.int x0), .val (.int x1), .val (.int x2), .val (.int x3), .val (.int (x0 &&& (7 : Int32))), .val (.ref x16), .val (.ref x24), .val .null, .val (.ref b25), .val (.int (3 : Int32))] [(.ref b25)]))
        obtain ⟨cq27, kq27, q27a, q27b, q27c⟩ := isOf hZ e26 Eq26
        obtain ⟨_, _, ⟨T27, L27, k27, n27⟩, -, X27, ⟨Lc27, hQ27, l27, y27, z27⟩, st27⟩ := X26.virtualBack hx (y := (⟨"com/example/accordant/accordant/policy/Scope", "shape", "()I"⟩ : MethodName)) (z := (⟨"com/example/accordant/accordant/policy/Scope", "shape", "()I"⟩ : MethodName)) hown (mvT hZ (hw _ (List.mem_of_getElem? (i := 20) rfl))) (mvT hZ (hw _ (List.mem_of_getElem? (i := 21) rfl))) (notFace_of_selects (args := #[]) (mvT hZ (hw _ (List.mem_of_getElem? (i := 23) rfl)))) (mvT hZ (hw _ (List.mem_of_getElem? (i := 23) rfl))) (mvT hZ (hw _ (List.mem_of_getElem? (i := 22) rfl))) (by decide) (backOf (W := 0) (rmP110 l Z a0 hw [] b25 x16 x24 h26 n0 Z26 F26_0 F26_1 F26_2) hZ (hw _ (List.mem_of_getElem? (i := 24) rfl)) (hw _ (List.mem_of_getElem? (i := 2) rfl)) (by decide) (by decide)) q27a q27c (g := (mkF m 110 #[.val (.int x0), .val (.int x1), .val (.int x2), .val (.int x3), .val (.int (x0 &&& (7 : Int32))), .val (.ref x16), .val (.ref x24), .val .null, .val (.ref b25), .val (.int (3 : Int32))] [(.ref b25)])) rfl (by rw [hml]; rfl) (Steps.refl _) (argsL := []) (rest := []) (lenOf pd_4 rfl) rfl (by show 2 * 0 + _ ≤ _; exact Nat.le_of_eq rfl) (hb hby at_110) (fun _ _ => ⟨rfl, e26, (by decide : 13 + 0 ≤ _), (by decide : 27 + 0 ≤ _)⟩)
        dsimp only [Pt.U, Pt.locs, Pt.cells, Pt.slots] at X27 l27 y27 z27 st27 hQ27
        subst l27 y27 z27
        obtain ⟨rfl, N27q, e27⟩ := hQ27
        have N27 := Fr.app N26 N27q
        refine wwn_go (fun _ kk_ => st27.trans kk_) ?_
        show own_W p e below s Z own_EL _ _ _ (T27.setTop (mkF m 113 #[.val (.int x0), .val (.int x1), .val (.int x2), .val (.int x3), .val (.int (x0 &&& (7 : Int32))), .val (.ref x16), .val (.ref x24), .val .null, .val (.ref b25), .val (.int (3 : Int32))] [(.int (3 : Int32))]))
        refine wwn_go (fun _ kk_ => XS.iload X27.here hx rfl (hb hby at_113) rfl kk_) ?_
        show own_W p e below s Z own_EL _ _ _ (T27.setTop (mkF m 115 #[.val (.int x0), .val (.int x1), .val (.int x2), .val (.int x3), .val (.int (x0 &&& (7 : Int32))), .val (.ref x16), .val (.ref x24), .val .null, .val (.ref b25), .val (.int (3 : Int32))] [(.int (3 : Int32)), (.int (3 : Int32))]))
        refine wwn_ic_neN X27 hx (pc := 115) (hb hby at_115) (by decide) ?_
        show own_W p e below s Z own_EL _ _ _ (T27.setTop (mkF m 118 #[.val (.int x0), .val (.int x1), .val (.int x2), .val (.int x3), .val (.int (x0 &&& (7 : Int32))), .val (.ref x16), .val (.ref x24), .val .null, .val (.ref b25), .val (.int (3 : Int32))] []))
        refine wwn_go (fun _ kk_ => XS.iload X27.here hx rfl (hb hby at_118) rfl kk_) ?_
        show own_W p e below s Z own_EL _ _ _ (T27.setTop (mkF m 120 #[.val (.int x0), .val (.int x1), .val (.int x2), .val (.int x3), .val (.int (x0 &&& (7 : Int32))), .val (.ref x16), .val (.ref x24), .val .null, .val (.ref b25), .val (.int (3 : Int32))] [(.int (3 : Int32))]))
        refine wwn_go (fun _ kk_ => XS.iload X27.here hx rfl (hb hby at_120) rfl kk_) ?_
        show own_W p e below s Z own_EL _ _ _ (T27.setTop (mkF m 122 #[.val (.int x0), .val (.int x1), .val (.int x2), .val (.int x3), .val (.int (x0 &&& (7 : Int32))), .val (.ref x16), .val (.ref x24), .val .null, .val (.ref b25), .val (.int (3 : Int32))] [(.int (x0 &&& (7 : Int32))), (.int (3 : Int32))]))
        refine wwn_ic_neN X27 hx (pc := 122) (hb hby at_122) (by rw [own_bits x0, if_neg hc10, if_neg hc27, if_pos hc44]; rfl) ?_
        show own_W p e below s Z own_EL _ _ _ (T27.setTop (mkF m 125 #[.val (.int x0), .val (.int x1), .val (.int x2), .val (.int x3), .val (.int (x0 &&& (7 : Int32))), .val (.ref x16), .val (.ref x24), .val .null, .val (.ref b25), .val (.int (3 : Int32))] []))
        refine wwn_go (fun _ kk_ => XS.iconst X27.here hx rfl (hb hby at_125) kk_) ?_
        show own_W p e below s Z own_EL _ _ _ (T27.setTop (mkF m 126 #[.val (.int x0), .val (.int x1), .val (.int x2), .val (.int x3), .val (.int (x0 &&& (7 : Int32))), .val (.ref x16), .val (.ref x24), .val .null, .val (.ref b25), .val (.int (3 : Int32))] [(.int (1 : Int32))]))
        refine wwn_go (fun _ kk_ => XS.goto X27.here hx rfl (pc0 := 126) (pc' := 130) rfl (hb hby at_126) (by decide) (by decide) kk_) ?_
        show own_W p e below s Z own_EL _ _ _ (T27.setTop (mkF m 130 #[.val (.int x0), .val (.int x1), .val (.int x2), .val (.int x3), .val (.int (x0 &&& (7 : Int32))), .val (.ref x16), .val (.ref x24), .val .null, .val (.ref b25), .val (.int (3 : Int32))] [(.int (1 : Int32))]))
        exact wwn_retN (t := .boolean) (ht := by simp) X27 hx hZ hEL Bd.returns (BodyLoose.notSynchronized Bd) (hb hby at_130) e27 I26 ⟨rfl, N27⟩ (by decide) (by decide)
      · show own_W p e below s Z own_EL _ _ _ (T24.setTop (mkF m 47 #[.val (.int x0), .val (.int x1), .val (.int x2), .val (.int x3), .val (.int (x0 &&& (7 : Int32))), .val (.ref x16), .val (.ref x24), .unset, .unset, .unset] []))
        refine wwn_go (fun _ kk_ => XS.iloadN X24.here hx rfl (hb hby at_47) rfl kk_) ?_
        show own_W p e below s Z own_EL _ _ _ (T24.setTop (mkF m 48 #[.val (.int x0), .val (.int x1), .val (.int x2), .val (.int x3), .val (.int (x0 &&& (7 : Int32))), .val (.ref x16), .val (.ref x24), .unset, .unset, .unset] [(.int x3)]))
        obtain ⟨_, _, ⟨T28, L28, k28, n28⟩, -, X28, S28, gr28, ⟨Lc28, hQ28, l28, y28, z28, C28⟩, st28⟩ := callSS X24 hx (y := (⟨"com/example/accordant/accordant/policy/ScopeShapePinLaw", "str", "(I)Ljava/lang/String;"⟩ : MethodName)) hown (mvT hZ (hw _ (List.mem_of_getElem? (i := 25) rfl))) (mvT hZ (hw _ (List.mem_of_getElem? (i := 26) rfl))) (mvT hZ (hw _ (List.mem_of_getElem? (i := 27) rfl))) (mvT hZ (hw _ (List.mem_of_getElem? (i := 28) rfl))) (by decide) (backOfSH (W := 0) (rmStr l Z a0 hw [] x3 zc h24 n0 Z24 O24_ O2 hz) hZ (hw _ (List.mem_of_getElem? (i := 28) rfl)) (hw _ (List.mem_of_getElem? (i := 27) rfl)) (by decide) (by decide) hEL I24.1.1) (g := (mkF m 48 #[.val (.int x0), .val (.int x1), .val (.int x2), .val (.int x3), .val (.int (x0 &&& (7 : Int32))), .val (.ref x16), .val (.ref x24), .unset, .unset, .unset] [(.int x3)])) rfl (by rw [hml]; rfl) (argsL := [(.int x3)]) (rest := []) (lenOf pd_5 rfl) rfl (by show 2 * 0 + _ ≤ _; exact Nat.le_of_eq rfl) (hb hby at_48) (fun _ _ => ⟨rfl, e24, (by decide : 12 + 6 ≤ _), (by decide : 24 + 12 ≤ _)⟩)
        dsimp only [Pt.U, Pt.locs, Pt.cells, Pt.slots] at X28 S28 gr28 l28 y28 z28 C28 st28 hQ28
        subst l28 y28 z28
        obtain ⟨X28, I28, hZ, hown⟩ := own_I.reb I24 e24 X28 S28 gr28 hZ hown C28
        generalize e28 : T28.heap = h28 at hQ28 I28
        obtain ⟨x28, rfl, N28q, gx28, Kq28, Eq28, O28_⟩ := hQ28
        have N28 := Fr.app N24 N28q
        have Z28 : n0 ≤ h28.size := Nat.le_trans Z24 Kq28.1
        refine wwn_go (fun _ kk_ => st28.trans kk_) ?_
        show own_W p e below s Z own_EL _ _ _ (T28.setTop (mkF m 51 #[.val (.int x0), .val (.int x1), .val (.int x2), .val (.int x3), .val (.int (x0 &&& (7 : Int32))), .val (.ref x16), .val (.ref x24), .unset, .unset, .unset] [(.ref x28)]))
        refine wwn_go (fun _ kk_ => XS.goto X28.here hx rfl (pc0 := 51) (pc' := 55) rfl (hb hby at_51) (by decide) (by decide) kk_) ?_
        show own_W p e below s Z own_EL _ _ _ (T28.setTop (mkF m 55 #[.val (.int x0), .val (.int x1), .val (.int x2), .val (.int x3), .val (.int (x0 &&& (7 : Int32))), .val (.ref x16), .val (.ref x24), .unset, .unset, .unset] [(.ref x28)]))
        refine wwn_go (fun _ kk_ => XS.astore X28.here hx rfl (hb hby at_55) rfl rfl (l' := #[.val (.int x0), .val (.int x1), .val (.int x2), .val (.int x3), .val (.int (x0 &&& (7 : Int32))), .val (.ref x16), .val (.ref x24), .val (.ref x28), .unset, .unset]) rfl kk_) ?_
        show own_W p e below s Z own_EL _ _ _ (T28.setTop (mkF m 57 #[.val (.int x0), .val (.int x1), .val (.int x2), .val (.int x3), .val (.int (x0 &&& (7 : Int32))), .val (.ref x16), .val (.ref x24), .val (.ref x28), .unset, .unset] []))
        obtain ⟨T29, h29, X29, e29, E29, A29, D29, -, st29⟩ := newO X28 hx hZ hown (hw _ (List.mem_of_getElem? (i := 0) rfl)) (hw _ (List.mem_of_getElem? (i := 1) rfl)) (hw _ (List.mem_of_getElem? (i := 2) rfl)) e28 (g := (mkF m 57 #[.val (.int x0), .val (.int x1), .val (.int x2), .val (.int x3), .val (.int (x0 &&& (7 : Int32))), .val (.ref x16), .val (.ref x24), .val (.ref x28), .unset, .unset] [])) rfl (hb hby at_57) (by decide) (by decide)
        obtain ⟨b29, g29⟩ : ∃ z, z = h28.size := ⟨_, rfl⟩
        rw [← g29] at A29 D29 st29
        refine wwn_go st29 ?_
        have I29 := I28.ext E29
        have O29_ := O28_.ext E29
        have g_b29 : n0 ≤ b29 := Nat.le_trans Z28 (Nat.le_of_eq g29.symm)
        have Z29 : n0 ≤ h29.size := Nat.le_trans Z28 E29.1
        have F29_b29_vendor : Fld Z h29 b29 "com/example/accordant/accordant/policy/Scope" "vendor" "Ljava/lang/String;" .null := D29 (Or.inr (hw _ (List.mem_of_getElem? (i := 15) rfl))) (ty := (.object "java/lang/String")) (by decide)
        have F29_b29_item : Fld Z h29 b29 "com/example/accordant/accordant/policy/Scope" "item" "Ljava/lang/String;" .null := D29 (Or.inr (hw _ (List.mem_of_getElem? (i := 17) rfl))) (ty := (.object "java/lang/String")) (by decide)
        have F29_b29_itemGroup : Fld Z h29 b29 "com/example/accordant/accordant/policy/Scope" "itemGroup" "Ljava/lang/String;" .null := D29 (Or.inr (hw _ (List.mem_of_getElem? (i := 19) rfl))) (ty := (.object "java/lang/String")) (by decide)
        show own_W p e below s Z own_EL _ _ _ (T29.setTop (mkF m 60 #[.val (.int x0), .val (.int x1), .val (.int x2), .val (.int x3), .val (.int (x0 &&& (7 : Int32))), .val (.ref x16), .val (.ref x24), .val (.ref x28), .unset, .unset] [(.ref b29)]))
        refine wwn_go (fun _ kk_ => XS.dup X29.here hx rfl (hb hby at_60) rfl rfl kk_) ?_
        show own_W p e below s Z own_EL _ _ _ (T29.setTop (mkF m 61 #[.val (.int x0), .val (.int x1), .val (.int x2), .val (.int x3), .val (.int (x0 &&& (7 : Int32))), .val (.ref x16), .val (.ref x24), .val (.ref x28), .unset, .unset] [(.ref b29), (.ref b29)]))
        refine wwn_go (fun _ kk_ => XS.aload X29.here hx rfl (hb hby at_61) rfl rfl kk_) ?_
        show own_W p e below s Z own_EL _ _ _ (T29.setTop (mkF m 63 #[.val (.int x0), .val (.int x1), .val (.int x2), .val (.int x3), .val (.int (x0 &&& (7 : Int32))), .val (.ref x16), .val (.ref x24), .val (.ref x28), .unset, .unset] [(.ref x16), (.ref b29), (.ref b29)]))
        refine wwn_go (fun _ kk_ => XS.aload X29.here hx rfl (hb hby at_63) rfl rfl kk_) ?_
        show own_W p e below s Z own_EL _ _ _ (T29.setTop (mkF m 65 #[.val (.int x0), .val (.int x1), .val (.int x2), .val (.int x3), .val (.int (x0 &&& (7 : Int32))), .val (.ref x16), .val (.ref x24), .val (.ref x28), .unset, .unset] [(.ref x24), (.ref x16), (.ref b29), (.ref b29)]))
        refine wwn_go (fun _ kk_ => XS.aload X29.here hx rfl (hb hby at_65) rfl rfl kk_) ?_
        show own_W p e below s Z own_EL _ _ _ (T29.setTop (mkF m 67 #[.val (.int x0), .val (.int x1), .val (.int x2), .val (.int x3), .val (.int (x0 &&& (7 : Int32))), .val (.ref x16), .val (.ref x24), .val (.ref x28), .unset, .unset] [(.ref x28), (.ref x24), (.ref x16), (.ref b29), (.ref b29)]))
        obtain ⟨_, _, ⟨T30, L30, k30, n30⟩, -, X30, ⟨Lc30, hQ30, l30, y30, z30⟩, st30⟩ := X29.specialBack hx (y := (⟨"com/example/accordant/accordant/policy/Scope", "<init>", "(Ljava/lang/String;Ljava/lang/String;Ljava/lang/String;)V"⟩ : MethodName)) rfl hown (mvT hZ (hw _ (List.mem_of_getElem? (i := 3) rfl))) (mvT hZ (hw _ (List.mem_of_getElem? (i := 4) rfl))) (mvT hZ (hw _ (List.mem_of_getElem? (i := 5) rfl))) (by decide) (backOf (W := 1) (rmI111 l Z a0 hw [] b29 x16 x24 x28 h29 n0 Z29 A29 g_b29 F29_b29_vendor F29_b29_item F29_b29_itemGroup) hZ (hw _ (List.mem_of_getElem? (i := 5) rfl)) (hw _ (List.mem_of_getElem? (i := 2) rfl)) (by decide) (by decide)) (g := (mkF m 67 #[.val (.int x0), .val (.int x1), .val (.int x2), .val (.int x3), .val (.int (x0 &&& (7 : Int32))), .val (.ref x16), .val (.ref x24), .val (.ref x28), .unset, .unset] [(.ref x28), (.ref x24), (.ref x16), (.ref b29), (.ref b29)])) rfl (by rw [hml]; rfl) (Steps.refl _) (a := b29) (argsL := [(.ref x16), (.ref x24), (.ref x28)]) (rest := [(.ref b29)]) (lenOf pd_3 rfl) rfl (by show 2 * 0 + _ ≤ _; exact Nat.le_of_eq rfl) (hb hby at_67) (fun _ _ => ⟨rfl, e29, (by decide : 19 + 0 ≤ _), (by decide : 39 + 0 ≤ _)⟩)
        dsimp only [Pt.U, Pt.locs, Pt.cells, Pt.slots] at X30 l30 y30 z30 st30 hQ30
        subst l30 y30 z30
        generalize e30 : T30.heap = h30 at hQ30
        obtain ⟨rfl, N30q, Kq30, Eq30, F30_0, F30_1, F30_2⟩ := hQ30
        have N30 := Fr.app N28 N30q
        have I30 := I29.keep Kq30 (fun y hy => by cases List.mem_singleton.mp hy; exact (Safe.exa hZ.alike A29 (by decide) (by decide)))
        have Z30 : n0 ≤ h30.size := Nat.le_trans Z29 Kq30.1
        refine wwn_go (fun _ kk_ => st30.trans kk_) ?_
        show own_W p e below s Z own_EL _ _ _ (T30.setTop (mkF m 70 #[.val (.int x0), .val (.int x1), .val (.int x2), .val (.int x3), .val (.int (x0 &&& (7 : Int32))), .val (.ref x16), .val (.ref x24), .val (.ref x28), .unset, .unset] [(.ref b29)]))
        refine wwn_go (fun _ kk_ => XS.astore X30.here hx rfl (hb hby at_70) rfl rfl (l' := #[.val (.int x0), .val (.int x1), .val (.int x2), .val (.int x3), .val (.int (x0 &&& (7 : Int32))), .val (.ref x16), .val (.ref x24), .val (.ref x28), .val (.ref b29), .unset]) rfl kk_) ?_
        show own_W p e below s Z own_EL _ _ _ (T30.setTop (mkF m 72 #[.val (.int x0), .val (.int x1), .val (.int x2), .val (.int x3), .val (.int (x0 &&& (7 : Int32))), .val (.ref x16), .val (.ref x24), .val (.ref x28), .val (.ref b29), .unset] []))
        refine wwn_go (fun _ kk_ => XS.iconst X30.here hx rfl (hb hby at_72) kk_) ?_
        show own_W p e below s Z own_EL _ _ _ (T30.setTop (mkF m 73 #[.val (.int x0), .val (.int x1), .val (.int x2), .val (.int x3), .val (.int (x0 &&& (7 : Int32))), .val (.ref x16), .val (.ref x24), .val (.ref x28), .val (.ref b29), .unset] [(.int (0 : Int32))]))
        refine wwn_go (fun _ kk_ => XS.istore X30.here hx rfl (hb hby at_73) rfl (l' := #[.val (.int x0), .val (.int x1), .val (.int x2), .val (.int x3), .val (.int (x0 &&& (7 : Int32))), .val (.ref x16), .val (.ref x24), .val (.ref x28), .val (.ref b29), .val (.int (0 : Int32))]) rfl kk_) ?_
        show own_W p e below s Z own_EL _ _ _ (T30.setTop (mkF m 75 #[.val (.int x0), .val (.int x1), .val (.int x2), .val (.int x3), .val (.int (x0 &&& (7 : Int32))), .val (.ref x16), .val (.ref x24), .val (.ref x28), .val (.ref b29), .val (.int (0 : Int32))] []))
        refine wwn_go (fun _ kk_ => XS.aload X30.here hx rfl (hb hby at_75) rfl rfl kk_) ?_
        show own_W p e below s Z own_EL _ _ _ (T30.setTop (mkF m 77 #[.val (.int x0), .val (.int x1), .val (.int x2), .val (.int x3), .val (.int (x0 &&& (7 : Int32))), .val (.ref x16), .val (.ref x24), .val (.ref x28), .val (.ref b29), .val (.int (0 : Int32))] [(.ref x16)]))
        refine wwn_go (fun _ kk_ => XS.ifnullNo X30.here hx rfl (hb hby at_77) rfl kk_) ?_
        show own_W p e below s Z own_EL _ _ _ (T30.setTop (mkF m 80 #[.val (.int x0), .val (.int x1), .val (.int x2), .val (.int x3), .val (.int (x0 &&& (7 : Int32))), .val (.ref x16), .val (.ref x24), .val (.ref x28), .val (.ref b29), .val (.int (0 : Int32))] []))
        refine wwn_go (fun _ kk_ => XS.iload X30.here hx rfl (hb hby at_80) rfl kk_) ?_
        show own_W p e below s Z own_EL _ _ _ (T30.setTop (mkF m 82 #[.val (.int x0), .val (.int x1), .val (.int x2), .val (.int x3), .val (.int (x0 &&& (7 : Int32))), .val (.ref x16), .val (.ref x24), .val (.ref x28), .val (.ref b29), .val (.int (0 : Int32))] [(.int (0 : Int32))]))
        refine wwn_go (fun _ kk_ => XS.iconst X30.here hx rfl (hb hby at_82) kk_) ?_
        show own_W p e below s Z own_EL _ _ _ (T30.setTop (mkF m 83 #[.val (.int x0), .val (.int x1), .val (.int x2), .val (.int x3), .val (.int (x0 &&& (7 : Int32))), .val (.ref x16), .val (.ref x24), .val (.ref x28), .val (.ref b29), .val (.int (0 : Int32))] [(.int (1 : Int32)), (.int (0 : Int32))]))
        refine wwn_go (fun _ kk_ => XS.iadd X30.here hx rfl (hb hby at_83) rfl kk_) ?_
        show own_W p e below s Z own_EL _ _ _ (T30.setTop (mkF m 84 #[.val (.int x0), .val (.int x1), .val (.int x2), .val (.int x3), .val (.int (x0 &&& (7 : Int32))), .val (.ref x16), .val (.ref x24), .val (.ref x28), .val (.ref b29), .val (.int (0 : Int32))] [(.int (1 : Int32))]))
        refine wwn_go (fun _ kk_ => XS.istore X30.here hx rfl (hb hby at_84) rfl (l' := #[.val (.int x0), .val (.int x1), .val (.int x2), .val (.int x3), .val (.int (x0 &&& (7 : Int32))), .val (.ref x16), .val (.ref x24), .val (.ref x28), .val (.ref b29), .val (.int (1 : Int32))]) rfl kk_) ?_
        show own_W p e below s Z own_EL _ _ _ (T30.setTop (mkF m 86 #[.val (.int x0), .val (.int x1), .val (.int x2), .val (.int x3), .val (.int (x0 &&& (7 : Int32))), .val (.ref x16), .val (.ref x24), .val (.ref x28), .val (.ref b29), .val (.int (1 : Int32))] []))
        refine wwn_go (fun _ kk_ => XS.aload X30.here hx rfl (hb hby at_86) rfl rfl kk_) ?_
        show own_W p e below s Z own_EL _ _ _ (T30.setTop (mkF m 88 #[.val (.int x0), .val (.int x1), .val (.int x2), .val (.int x3), .val (.int (x0 &&& (7 : Int32))), .val (.ref x16), .val (.ref x24), .val (.ref x28), .val (.ref b29), .val (.int (1 : Int32))] [(.ref x24)]))
        refine wwn_go (fun _ kk_ => XS.ifnullNo X30.here hx rfl (hb hby at_88) rfl kk_) ?_
        show own_W p e below s Z own_EL _ _ _ (T30.setTop (mkF m 91 #[.val (.int x0), .val (.int x1), .val (.int x2), .val (.int x3), .val (.int (x0 &&& (7 : Int32))), .val (.ref x16), .val (.ref x24), .val (.ref x28), .val (.ref b29), .val (.int (1 : Int32))] []))
        refine wwn_go (fun _ kk_ => XS.iload X30.here hx rfl (hb hby at_91) rfl kk_) ?_
        show own_W p e below s Z own_EL _ _ _ (T30.setTop (mkF m 93 #[.val (.int x0), .val (.int x1), .val (.int x2), .val (.int x3), .val (.int (x0 &&& (7 : Int32))), .val (.ref x16), .val (.ref x24), .val (.ref x28), .val (.ref b29), .val (.int (1 : Int32))] [(.int (1 : Int32))]))
        refine wwn_go (fun _ kk_ => XS.iconst X30.here hx rfl (hb hby at_93) kk_) ?_
        show own_W p e below s Z own_EL _ _ _ (T30.setTop (mkF m 94 #[.val (.int x0), .val (.int x1), .val (.int x2), .val (.int x3), .val (.int (x0 &&& (7 : Int32))), .val (.ref x16), .val (.ref x24), .val (.ref x28), .val (.ref b29), .val (.int (1 : Int32))] [(.int (2 : Int32)), (.int (1 : Int32))]))
        refine wwn_go (fun _ kk_ => XS.iadd X30.here hx rfl (hb hby at_94) rfl kk_) ?_
        show own_W p e below s Z own_EL _ _ _ (T30.setTop (mkF m 95 #[.val (.int x0), .val (.int x1), .val (.int x2), .val (.int x3), .val (.int (x0 &&& (7 : Int32))), .val (.ref x16), .val (.ref x24), .val (.ref x28), .val (.ref b29), .val (.int (1 : Int32))] [(.int (3 : Int32))]))
        refine wwn_go (fun _ kk_ => XS.istore X30.here hx rfl (hb hby at_95) rfl (l' := #[.val (.int x0), .val (.int x1), .val (.int x2), .val (.int x3), .val (.int (x0 &&& (7 : Int32))), .val (.ref x16), .val (.ref x24), .val (.ref x28), .val (.ref b29), .val (.int (3 : Int32))]) rfl kk_) ?_
        show own_W p e below s Z own_EL _ _ _ (T30.setTop (mkF m 97 #[.val (.int x0), .val (.int x1), .val (.int x2), .val (.int x3), .val (.int (x0 &&& (7 : Int32))), .val (.ref x16), .val (.ref x24), .val (.ref x28), .val (.ref b29), .val (.int (3 : Int32))] []))
        refine wwn_go (fun _ kk_ => XS.aload X30.here hx rfl (hb hby at_97) rfl rfl kk_) ?_
        show own_W p e below s Z own_EL _ _ _ (T30.setTop (mkF m 99 #[.val (.int x0), .val (.int x1), .val (.int x2), .val (.int x3), .val (.int (x0 &&& (7 : Int32))), .val (.ref x16), .val (.ref x24), .val (.ref x28), .val (.ref b29), .val (.int (3 : Int32))] [(.ref x28)]))
        refine wwn_go (fun _ kk_ => XS.ifnullNo X30.here hx rfl (hb hby at_99) rfl kk_) ?_
        show own_W p e below s Z own_EL _ _ _ (T30.setTop (mkF m 102 #[.val (.int x0), .val (.int x1), .val (.int x2), .val (.int x3), .val (.int (x0 &&& (7 : Int32))), .val (.ref x16), .val (.ref x24), .val (.ref x28), .val (.ref b29), .val (.int (3 : Int32))] []))
        refine wwn_go (fun _ kk_ => XS.iload X30.here hx rfl (hb hby at_102) rfl kk_) ?_
        show own_W p e below s Z own_EL _ _ _ (T30.setTop (mkF m 104 #[.val (.int x0), .val (.int x1), .val (.int x2), .val (.int x3), .val (.int (x0 &&& (7 : Int32))), .val (.ref x16), .val (.ref x24), .val (.ref x28), .val (.ref b29), .val (.int (3 : Int32))] [(.int (3 : Int32))]))
        refine wwn_go (fun _ kk_ => XS.iconst X30.here hx rfl (hb hby at_104) kk_) ?_
        show own_W p e below s Z own_EL _ _ _ (T30.setTop (mkF m 105 #[.val (.int x0), .val (.int x1), .val (.int x2), .val (.int x3), .val (.int (x0 &&& (7 : Int32))), .val (.ref x16), .val (.ref x24), .val (.ref x28), .val (.ref b29), .val (.int (3 : Int32))] [(.int (4 : Int32)), (.int (3 : Int32))]))
        refine wwn_go (fun _ kk_ => XS.iadd X30.here hx rfl (hb hby at_105) rfl kk_) ?_
        show own_W p e below s Z own_EL _ _ _ (T30.setTop (mkF m 106 #[.val (.int x0), .val (.int x1), .val (.int x2), .val (.int x3), .val (.int (x0 &&& (7 : Int32))), .val (.ref x16), .val (.ref x24), .val (.ref x28), .val (.ref b29), .val (.int (3 : Int32))] [(.int (7 : Int32))]))
        refine wwn_go (fun _ kk_ => XS.istore X30.here hx rfl (hb hby at_106) rfl (l' := #[.val (.int x0), .val (.int x1), .val (.int x2), .val (.int x3), .val (.int (x0 &&& (7 : Int32))), .val (.ref x16), .val (.ref x24), .val (.ref x28), .val (.ref b29), .val (.int (7 : Int32))]) rfl kk_) ?_
        show own_W p e below s Z own_EL _ _ _ (T30.setTop (mkF m 108 #[.val (.int x0), .val (.int x1), .val (.int x2), .val (.int x3), .val (.int (x0 &&& (7 : Int32))), .val (.ref x16), .val (.ref x24), .val (.ref x28), .val (.ref b29), .val (.int (7 : Int32))] []))
        refine wwn_go (fun _ kk_ => XS.aload X30.here hx rfl (hb hby at_108) rfl rfl kk_) ?_
        show own_W p e below s Z own_EL _ _ _ (T30.setTop (mkF m 110 #[.val (.int x0), .val (.int x1), .val (.int x2), .val (.int x3), .val (.int (x0 &&& (7 : Int32))), .val (.ref x16), .val (.ref x24), .val (.ref x28), .val (.ref b29), .val (.int (7 : Int32))] [(.ref b29)]))
        obtain ⟨cq31, kq31, q31a, q31b, q31c⟩ := isOf hZ e30 Eq30
        obtain ⟨_, _, ⟨T31, L31, k31, n31⟩, -, X31, ⟨Lc31, hQ31, l31, y31, z31⟩, st31⟩ := X30.virtualBack hx (y := (⟨"com/example/accordant/accordant/policy/Scope", "shape", "()I"⟩ : MethodName)) (z := (⟨"com/example/accordant/accordant/policy/Scope", "shape", "()I"⟩ : MethodName)) hown (mvT hZ (hw _ (List.mem_of_getElem? (i := 20) rfl))) (mvT hZ (hw _ (List.mem_of_getElem? (i := 21) rfl))) (notFace_of_selects (args := #[]) (mvT hZ (hw _ (List.mem_of_getElem? (i := 23) rfl)))) (mvT hZ (hw _ (List.mem_of_getElem? (i := 23) rfl))) (mvT hZ (hw _ (List.mem_of_getElem? (i := 22) rfl))) (by decide) (backOf (W := 0) (rmP111 l Z a0 hw [] b29 x16 x24 x28 h30 n0 Z30 F30_0 F30_1 F30_2) hZ (hw _ (List.mem_of_getElem? (i := 24) rfl)) (hw _ (List.mem_of_getElem? (i := 2) rfl)) (by decide) (by decide)) q31a q31c (g := (mkF m 110 #[.val (.int x0), .val (.int x1), .val (.int x2), .val (.int x3), .val (.int (x0 &&& (7 : Int32))), .val (.ref x16), .val (.ref x24), .val (.ref x28), .val (.ref b29), .val (.int (7 : Int32))] [(.ref b29)])) rfl (by rw [hml]; rfl) (Steps.refl _) (argsL := []) (rest := []) (lenOf pd_4 rfl) rfl (by show 2 * 0 + _ ≤ _; exact Nat.le_of_eq rfl) (hb hby at_110) (fun _ _ => ⟨rfl, e30, (by decide : 19 + 0 ≤ _), (by decide : 39 + 0 ≤ _)⟩)
        dsimp only [Pt.U, Pt.locs, Pt.cells, Pt.slots] at X31 l31 y31 z31 st31 hQ31
        subst l31 y31 z31
        obtain ⟨rfl, N31q, e31⟩ := hQ31
        have N31 := Fr.app N30 N31q
        refine wwn_go (fun _ kk_ => st31.trans kk_) ?_
        show own_W p e below s Z own_EL _ _ _ (T31.setTop (mkF m 113 #[.val (.int x0), .val (.int x1), .val (.int x2), .val (.int x3), .val (.int (x0 &&& (7 : Int32))), .val (.ref x16), .val (.ref x24), .val (.ref x28), .val (.ref b29), .val (.int (7 : Int32))] [(.int (7 : Int32))]))
        refine wwn_go (fun _ kk_ => XS.iload X31.here hx rfl (hb hby at_113) rfl kk_) ?_
        show own_W p e below s Z own_EL _ _ _ (T31.setTop (mkF m 115 #[.val (.int x0), .val (.int x1), .val (.int x2), .val (.int x3), .val (.int (x0 &&& (7 : Int32))), .val (.ref x16), .val (.ref x24), .val (.ref x28), .val (.ref b29), .val (.int (7 : Int32))] [(.int (7 : Int32)), (.int (7 : Int32))]))
        refine wwn_ic_neN X31 hx (pc := 115) (hb hby at_115) (by decide) ?_
        show own_W p e below s Z own_EL _ _ _ (T31.setTop (mkF m 118 #[.val (.int x0), .val (.int x1), .val (.int x2), .val (.int x3), .val (.int (x0 &&& (7 : Int32))), .val (.ref x16), .val (.ref x24), .val (.ref x28), .val (.ref b29), .val (.int (7 : Int32))] []))
        refine wwn_go (fun _ kk_ => XS.iload X31.here hx rfl (hb hby at_118) rfl kk_) ?_
        show own_W p e below s Z own_EL _ _ _ (T31.setTop (mkF m 120 #[.val (.int x0), .val (.int x1), .val (.int x2), .val (.int x3), .val (.int (x0 &&& (7 : Int32))), .val (.ref x16), .val (.ref x24), .val (.ref x28), .val (.ref b29), .val (.int (7 : Int32))] [(.int (7 : Int32))]))
        refine wwn_go (fun _ kk_ => XS.iload X31.here hx rfl (hb hby at_120) rfl kk_) ?_
        show own_W p e below s Z own_EL _ _ _ (T31.setTop (mkF m 122 #[.val (.int x0), .val (.int x1), .val (.int x2), .val (.int x3), .val (.int (x0 &&& (7 : Int32))), .val (.ref x16), .val (.ref x24), .val (.ref x28), .val (.ref b29), .val (.int (7 : Int32))] [(.int (x0 &&& (7 : Int32))), (.int (7 : Int32))]))
        refine wwn_ic_neN X31 hx (pc := 122) (hb hby at_122) (by rw [own_bits x0, if_neg hc10, if_neg hc27, if_neg hc44]; rfl) ?_
        show own_W p e below s Z own_EL _ _ _ (T31.setTop (mkF m 125 #[.val (.int x0), .val (.int x1), .val (.int x2), .val (.int x3), .val (.int (x0 &&& (7 : Int32))), .val (.ref x16), .val (.ref x24), .val (.ref x28), .val (.ref b29), .val (.int (7 : Int32))] []))
        refine wwn_go (fun _ kk_ => XS.iconst X31.here hx rfl (hb hby at_125) kk_) ?_
        show own_W p e below s Z own_EL _ _ _ (T31.setTop (mkF m 126 #[.val (.int x0), .val (.int x1), .val (.int x2), .val (.int x3), .val (.int (x0 &&& (7 : Int32))), .val (.ref x16), .val (.ref x24), .val (.ref x28), .val (.ref b29), .val (.int (7 : Int32))] [(.int (1 : Int32))]))
        refine wwn_go (fun _ kk_ => XS.goto X31.here hx rfl (pc0 := 126) (pc' := 130) rfl (hb hby at_126) (by decide) (by decide) kk_) ?_
        show own_W p e below s Z own_EL _ _ _ (T31.setTop (mkF m 130 #[.val (.int x0), .val (.int x1), .val (.int x2), .val (.int x3), .val (.int (x0 &&& (7 : Int32))), .val (.ref x16), .val (.ref x24), .val (.ref x28), .val (.ref b29), .val (.int (7 : Int32))] [(.int (1 : Int32))]))
        exact wwn_retN (t := .boolean) (ht := by simp) X31 hx hZ hEL Bd.returns (BodyLoose.notSynchronized Bd) (hb hby at_130) e31 I30 ⟨rfl, N31⟩ (by decide) (by decide)
set_option maxRecDepth 65536 in
set_option maxHeartbeats 40000000 in
theorem comes_1 {Post : Tables → Env → Array Value → State → Outcome → State → Prop} (hpost : ∀ tb e args s v u, (limb_1_1.after args s (.returned v) u = true ∧ limb_1_2.after args s (.returned v) u = true ∧ True) → FramedW s (.returned v) u (Jvm.fieldLocs frame_1_writes args s ++ Jvm.arrayLocs frame_1_arrays args s ++ Jvm.staticLocs frame_1_statics s) 32 1152 → Post tb e args s (.returned v) u) :
    ArmFor flags0 classFile x code maxLocals ret World_1 tables_1 room_1 Calls_1 rest_1 Pre_1 Post := by
  intro l hfl _ _ p e ha hc hk s m args below hf hA hF happ hP
  obtain ⟨hcalls, hrest, hpre⟩ := hP
  obtain ⟨-, -, -, hnamed, -, -, -, hat⟩ := (Spec.applies_iff hf).mp happ
  obtain ⟨hg, hn⟩ := and_e (Cond.before_iff.mp (show (Jvm.Cond.and given_1 narrow_1).before args s = true from hpre))
  obtain ⟨hct, hr0⟩ := and_e hg
  obtain ⟨hv0, hr1⟩ := and_e hr0
  obtain ⟨hv1, hr2⟩ := and_e hr1
  obtain ⟨hv2, hr3⟩ := and_e hr2
  obtain ⟨w0, w1, w2, w3, rfl⟩ : ∃ w0 w1 w2 w3 : Value, args = #[w0, w1, w2, w3] := by
    have hs : args.size = 4 := by simpa [Cond.value, given_1] using hct
    obtain ⟨L⟩ := args
    match L, hs with
    | [w0, w1, w2, w3], _ => exact ⟨w0, w1, w2, w3, rfl⟩
  have hw := fun d (hd : d ∈ tables_1) => atoms_spec (ws := Jvm.Cond.code x code maxLocals ret :: tables_1) hat d (List.mem_cons_of_mem _ hd)
  have hfit : Fit s := fun {y c} hc i hi => by
    obtain ⟨ha, rfl⟩ := Array.getElem?_eq_some_iff.mp hc
    have q := List.all_eq_true.mp ((Array.all_eq_true_iff_forall_mem.mp hF) _ (Array.getElem_mem ha)) i (List.mem_range.mpr hi)
    simpa [Array.getElem?_eq_getElem hi] using q
  obtain ⟨hsets, hown0⟩ := atoms_of _ (rest_1_c_eq ▸ (show rest_1_c.before _ s = true from hrest))
  obtain ⟨i0, ei0⟩ := is_v hv0
  obtain rfl : w0 = (.int i0) := Option.some.inj ei0
  obtain ⟨i1, ei1⟩ := is_v hv1
  obtain rfl : w1 = (.int i1) := Option.some.inj ei1
  obtain ⟨i2, ei2⟩ := is_v hv2
  obtain rfl : w2 = (.int i2) := Option.some.inj ei2
  obtain ⟨i3, ei3⟩ := is_v hr3
  obtain rfl : w3 = (.int i3) := Option.some.inj ei3
  have hcw : Jvm.Lit.compactW.before _ s = true := hsets _ (List.mem_of_getElem? (i := 2) rfl)
  have hCH : CHv s own_EL s.vm s.heap := CHv.start (own_hEL hw) (fun q hq => hcalls.1 q hq) hcw (hw _ (List.mem_of_getElem? (i := 42) rfl)) (hw _ (List.mem_of_getElem? (i := 30) rfl))
  have n3 := not_v (Cond.before_iff.mp (hsets _ (List.mem_of_getElem? (i := 2) rfl)))
  obtain ⟨zc, e6⟩ := is_v (Cond.before_iff.mp (hsets _ (List.mem_of_getElem? (i := 1) rfl)))
  have O2 : Sta s s.heap "java/lang/String" "COMPACT_STRINGS" "Z" (.int zc) := Sta.start e6 (Or.inl (hsets _ (List.mem_of_getElem? (i := 0) rfl)))
  have hz : ¬ (zc = (0 : Int32)) := gotF (Cond.eq_ints e6 (Term.int_eval (0))) n3
  obtain ⟨n, o, h1, h2, h3, _, L, rfl, ⟨rfl, N⟩, -, hq⟩ := rm0 l s _ hw tables_1 i0 i1 i2 i3 zc s.heap s.heap.size (Nat.le_refl _) (Old.start s) O2 hz p e ha hc hk s m _ below hf ((Spec.applies_iff_loose hf).mp happ).1 ⟨rfl, State.Warmed39.refl s, rfl, hCH⟩ trivial
  refine ⟨n, _, h1, h2, h3, hpost _ _ _ _ _ _ ⟨Cond.after_iff.mpr rfl, Cond.after_iff.mpr (eq_i res_at (Term.int_eval (1)) rfl), trivial⟩ ⟨hq.1, hq.2.1, hq.2.2.1, (hq.2.2.2.sift fun y hy => Or.inr (N y hy)).mono (by decide) (by decide)⟩⟩
theorem main_1_1 : Claimed_1_1 := comes_1 fun _ _ _ _ _ _ h hF => ⟨h.1, hF⟩
theorem main_1_2 : Claimed_1_2 := comes_1 fun _ _ _ _ _ _ h hF => ⟨h.2.1, hF⟩
end Jvm.Pilot.@@N@@
namespace Jvm.Pilot.@@N@@
open Jvm Jvm.ClassFile Sem Op Lib Jvm.Free Jvm.Stand Jvm.Pilot.@@N@@.Jvm.D
/-! MADE BY PROGRAM (witnessworld.py) out of the Statement's table words and the real class files: 21 classes; the members and pool entries that the words name. The judged class is class 1, her method 1. -/
namespace start1
open Jvm.ClassFile
def u (s : String) : CpInfo := .utf8 (stringToUtf16 s)
/-- a pool by its gaps: so many unusable entries, then the entry; so many at the end -/
def gap : Nat → List CpInfo → List CpInfo
  | 0, r => r
  | n + 1, r => .unusable :: gap n r
def poolList (es : List (Nat × CpInfo)) (last : Nat) : List CpInfo := es.foldr (fun e r => gap e.1 (e.2 :: r)) (gap last [])
def pool (es : List (Nat × CpInfo)) (last : Nat) : Array CpInfo := ⟨poolList es last⟩
def fileOf (pool : Array CpInfo) (this : Nat) (attrs : Array Attribute := #[]) (ms : Array MethodInfo := #[]) (fl : Nat := 33) (sup : Nat := 0) (ifs : Array Nat := #[]) (fds : Array FieldInfo := #[]) : ClassFile where
  minorVersion := 0
  majorVersion := 65
  constantPool := pool
  accessFlags := fl
  thisClass := this
  superClass := sup
  interfaces := ifs
  fields := fds
  methods := ms
  attributes := attrs
def plain (name : String) (sup : Option ClassId) : Class where
  name := name
  kind := .ordinary
  loader := none
  accessFlags := 33
  super := sup
  interfaces := #[]
  cf := none
  fields := #[]
  methods := #[]
  instanceTypes := #[]
  staticTypes := #[]
  resolved := #[]
  callSites := []
  init := .initialized
  statics := none
  mirror := none

def pool0 : Array CpInfo := pool [(5, u "<init>"), (0, u "()V"), (1, .class_ 10), (1, u "java/lang/Object")] 113

def k0c0 : Code := { maxStack := 0, maxLocals := 1, code := object_method_1_code, exceptionTable := #[], attributes := #[] }
def k0m0 : Method := { name := "<init>", desc := "()V", sig := { parameters := [], returnType := none }, accessFlags := 1, code := some k0c0 }
/-- java/lang/Object -/
def k0 : Class := { plain "java/lang/Object" none with
  accessFlags := 33
  interfaces := #[]
  cf := some (fileOf pool0 8 #[] #[{ accessFlags := 1, nameIndex := 5, descriptorIndex := 6, attributes := #[] }] 33 0 #[] #[])
  fields := #[]
  methods := #[k0m0]
  instanceTypes := #[]
  staticTypes := #[]
  resolved := Array.replicate 124 none
  statics := none }

def pool1 : Array CpInfo := pool [(2, .class_ 4), (1, u "java/lang/Object"), (0, u "<init>"), (0, u "()V"), (0, .methodref 8 9), (0, .class_ 10), (0, .nameAndType 11 12), (0, u "com/example/accordant/accordant/policy/ScopeShapePinLaw"), (0, u "str"), (0, u "(I)Ljava/lang/String;"), (0, .class_ 14), (0, u "com/example/accordant/accordant/policy/Scope"), (0, .methodref 13 16), (0, .nameAndType 5 17), (0, u "(Ljava/lang/String;Ljava/lang/String;Ljava/lang/String;)V"), (0, .methodref 13 19), (0, .nameAndType 20 21), (0, u "shape"), (0, u "()I"), (0, .class_ 23), (0, u "java/lang/String"), (0, .methodref 22 25), (0, .nameAndType 5 26), (0, u "([C)V"), (2, u "law"), (0, u "(IIII)Z")] 3

def k1m0 : Method := { name := "<init>", desc := "()V", sig := { parameters := [], returnType := none }, accessFlags := 1, code := none }
def k1c1 : Code := { maxStack := 5, maxLocals := 10, code := code, exceptionTable := #[], attributes := #[] }
def k1m1 : Method := { name := "law", desc := "(IIII)Z", sig := { parameters := [.int, .int, .int, .int], returnType := some .boolean }, accessFlags := 9, code := some k1c1 }
def k1c2 : Code := { maxStack := 7, maxLocals := 1, code := method_3_code, exceptionTable := #[], attributes := #[] }
def k1m2 : Method := { name := "str", desc := "(I)Ljava/lang/String;", sig := { parameters := [.int], returnType := some (.object "java/lang/String") }, accessFlags := 10, code := some k1c2 }
/-- com/example/accordant/accordant/policy/ScopeShapePinLaw -/
def k1 : Class := { plain "com/example/accordant/accordant/policy/ScopeShapePinLaw" (some 0) with
  accessFlags := 49
  interfaces := #[]
  cf := some (fileOf pool1 8 #[] #[{ accessFlags := 1, nameIndex := 5, descriptorIndex := 6, attributes := #[] }, { accessFlags := 9, nameIndex := 29, descriptorIndex := 30, attributes := #[] }, { accessFlags := 10, nameIndex := 11, descriptorIndex := 12, attributes := #[] }] 49 2 #[] #[])
  fields := #[]
  methods := #[k1m0, k1m1, k1m2]
  instanceTypes := #[]
  staticTypes := #[]
  resolved := Array.replicate 34 none
  statics := none }

def pool2 : Array CpInfo := pool [(1, .methodref 2 3), (0, .class_ 4), (0, .nameAndType 5 6), (0, u "java/lang/Object"), (0, u "<init>"), (0, u "()V"), (0, .class_ 8), (0, u "java/lang/Record")] 13

def k2c0 : Code := { maxStack := 1, maxLocals := 1, code := jdk_30_method_1_code, exceptionTable := #[], attributes := #[] }
def k2m0 : Method := { name := "<init>", desc := "()V", sig := { parameters := [], returnType := none }, accessFlags := 4, code := some k2c0 }
/-- java/lang/Record -/
def k2 : Class := { plain "java/lang/Record" (some 0) with
  accessFlags := 1057
  interfaces := #[]
  cf := some (fileOf pool2 7 #[] #[{ accessFlags := 4, nameIndex := 5, descriptorIndex := 6, attributes := #[] }] 1057 2 #[] #[])
  fields := #[]
  methods := #[k2m0]
  instanceTypes := #[]
  staticTypes := #[]
  resolved := Array.replicate 22 none
  statics := none }

def pool3 : Array CpInfo := pool [(1, .methodref 2 3), (0, .class_ 4), (0, .nameAndType 5 6), (0, u "java/lang/Record"), (0, u "<init>"), (0, u "()V"), (0, .fieldref 8 9), (0, .class_ 10), (0, .nameAndType 11 12), (0, u "com/example/accordant/accordant/policy/Scope"), (0, u "vendor"), (0, u "Ljava/lang/String;"), (0, .fieldref 8 14), (0, .nameAndType 15 12), (0, u "item"), (0, .fieldref 8 17), (0, .nameAndType 18 12), (0, u "itemGroup"), (2, u "shape"), (0, u "()I"), (8, u "ANY"), (0, u "Lcom/example/accordant/accordant/policy/Scope;"), (2, u "(Ljava/lang/String;Ljava/lang/String;Ljava/lang/String;)V"), (38, u "VENDOR"), (0, u "I"), (2, u "ITEM"), (1, u "ITEM_GROUP"), (1, u "SHAPES")] 34

def k3c0 : Code := { maxStack := 2, maxLocals := 4, code := prog_47_method_1_code, exceptionTable := #[], attributes := #[] }
def k3m0 : Method := { name := "<init>", desc := "(Ljava/lang/String;Ljava/lang/String;Ljava/lang/String;)V", sig := { parameters := [(.object "java/lang/String"), (.object "java/lang/String"), (.object "java/lang/String")], returnType := none }, accessFlags := 1, code := some k3c0 }
def k3c1 : Code := { maxStack := 2, maxLocals := 1, code := prog_47_method_2_code, exceptionTable := #[], attributes := #[] }
def k3m1 : Method := { name := "shape", desc := "()I", sig := { parameters := [], returnType := some .int }, accessFlags := 0, code := some k3c1 }
/-- com/example/accordant/accordant/policy/Scope -/
def k3 : Class := { plain "com/example/accordant/accordant/policy/Scope" (some 2) with
  accessFlags := 49
  interfaces := #[]
  cf := some (fileOf pool3 8 #[] #[{ accessFlags := 1, nameIndex := 5, descriptorIndex := 35, attributes := #[] }, { accessFlags := 0, nameIndex := 21, descriptorIndex := 22, attributes := #[] }] 49 2 #[] #[{ accessFlags := 18, nameIndex := 11, descriptorIndex := 12, attributes := #[] }, { accessFlags := 18, nameIndex := 15, descriptorIndex := 12, attributes := #[] }, { accessFlags := 18, nameIndex := 18, descriptorIndex := 12, attributes := #[] }, { accessFlags := 25, nameIndex := 31, descriptorIndex := 32, attributes := #[] }, { accessFlags := 24, nameIndex := 74, descriptorIndex := 75, attributes := #[] }, { accessFlags := 24, nameIndex := 78, descriptorIndex := 75, attributes := #[] }, { accessFlags := 24, nameIndex := 80, descriptorIndex := 75, attributes := #[] }, { accessFlags := 24, nameIndex := 82, descriptorIndex := 75, attributes := #[] }])
  fields := #[{ name := "vendor", type := (.object "java/lang/String"), accessFlags := 18, slot := 0, constantValue := 0 }, { name := "item", type := (.object "java/lang/String"), accessFlags := 18, slot := 1, constantValue := 0 }, { name := "itemGroup", type := (.object "java/lang/String"), accessFlags := 18, slot := 2, constantValue := 0 }, { name := "ANY", type := (.object "com/example/accordant/accordant/policy/Scope"), accessFlags := 25, slot := 0, constantValue := 0 }, { name := "VENDOR", type := .int, accessFlags := 24, slot := 1, constantValue := 0 }, { name := "ITEM", type := .int, accessFlags := 24, slot := 2, constantValue := 0 }, { name := "ITEM_GROUP", type := .int, accessFlags := 24, slot := 3, constantValue := 0 }, { name := "SHAPES", type := .int, accessFlags := 24, slot := 4, constantValue := 0 }]
  methods := #[k3m0, k3m1]
  instanceTypes := #[(.object "java/lang/String"), (.object "java/lang/String"), (.object "java/lang/String")]
  staticTypes := #[(.object "com/example/accordant/accordant/policy/Scope"), .int, .int, .int, .int]
  resolved := Array.replicate 117 none
  statics := none }

def pool4 : Array CpInfo := pool [(1, .class_ 2), (0, u "java/io/Serializable"), (0, .class_ 4), (0, u "java/lang/Object")] 2

/-- java/io/Serializable -/
def k4 : Class := { plain "java/io/Serializable" (some 0) with
  accessFlags := 1537
  interfaces := #[]
  cf := some (fileOf pool4 1 #[] #[] 1537 3 #[] #[])
  fields := #[]
  methods := #[]
  instanceTypes := #[]
  staticTypes := #[]
  resolved := Array.replicate 7 none
  statics := none }

def pool5 : Array CpInfo := pool [(1, .class_ 2), (0, u "java/lang/Comparable"), (0, .class_ 4), (0, u "java/lang/Object")] 7

/-- java/lang/Comparable -/
def k5 : Class := { plain "java/lang/Comparable" (some 0) with
  accessFlags := 1537
  interfaces := #[]
  cf := some (fileOf pool5 1 #[] #[] 1537 3 #[] #[])
  fields := #[]
  methods := #[]
  instanceTypes := #[]
  staticTypes := #[]
  resolved := Array.replicate 12 none
  statics := none }

def pool6 : Array CpInfo := pool [(2, .class_ 4), (1, u "java/lang/CharSequence"), (42, .class_ 48), (0, u "java/lang/CharSequence$1CodePointIterator"), (10, .class_ 60), (0, u "java/lang/CharSequence$1CharIterator"), (5, .class_ 67), (0, u "java/lang/Object")] 63

/-- java/lang/CharSequence -/
def k6 : Class := { plain "java/lang/CharSequence" (some 0) with
  accessFlags := 1537
  interfaces := #[]
  cf := some (fileOf pool6 2 #[.nestMembers #[47, 59]] #[] 1537 66 #[] #[])
  fields := #[]
  methods := #[]
  instanceTypes := #[]
  staticTypes := #[]
  resolved := Array.replicate 131 none
  statics := none }

def pool7 : Array CpInfo := pool [(1, .class_ 2), (0, u "java/lang/constant/Constable"), (0, .class_ 4), (0, u "java/lang/Object")] 6

/-- java/lang/constant/Constable -/
def k7 : Class := { plain "java/lang/constant/Constable" (some 0) with
  accessFlags := 1537
  interfaces := #[]
  cf := some (fileOf pool7 1 #[] #[] 1537 3 #[] #[])
  fields := #[]
  methods := #[]
  instanceTypes := #[]
  staticTypes := #[]
  resolved := Array.replicate 11 none
  statics := none }

def pool8 : Array CpInfo := pool [(1, .class_ 2), (0, u "java/lang/constant/ConstantDesc"), (0, .class_ 4), (0, u "java/lang/Object")] 32

/-- java/lang/constant/ConstantDesc -/
def k8 : Class := { plain "java/lang/constant/ConstantDesc" (some 0) with
  accessFlags := 1537
  interfaces := #[]
  cf := some (fileOf pool8 1 #[] #[] 1537 3 #[] #[])
  fields := #[]
  methods := #[]
  instanceTypes := #[]
  staticTypes := #[]
  resolved := Array.replicate 37 none
  statics := none }

def pool9 : Array CpInfo := pool [(1, .methodref 2 3), (0, .class_ 4), (0, .nameAndType 5 6), (0, u "java/lang/Object"), (0, u "<init>"), (0, u "()V"), (0, .string 8), (0, u ""), (0, .fieldref 10 11), (0, .class_ 12), (0, .nameAndType 13 14), (0, u "java/lang/String"), (0, u "value"), (0, u "[B"), (0, .fieldref 10 16), (0, .nameAndType 17 18), (0, u "coder"), (0, u "B"), (2, u "hash"), (0, u "I"), (2, u "hashIsZero"), (0, u "Z"), (0, .methodref 10 28), (0, .nameAndType 5 29), (0, u "([CIILjava/lang/Void;)V"), (8, .fieldref 10 39), (0, .nameAndType 40 26), (0, u "COMPACT_STRINGS"), (1, .class_ 44), (1, u "java/lang/StringUTF16"), (0, u "compress"), (1, .methodref 42 48), (0, .nameAndType 49 50), (0, u "coderFromArrayLen"), (0, u "([BI)B"), (126, .methodref 42 178), (0, .nameAndType 45 179), (0, u "([CII)[B"), (395, .class_ 576), (0, u "java/lang/CharSequence"), (22, u "CASE_INSENSITIVE_ORDER"), (0, u "Ljava/util/Comparator;"), (409, u "([C)V"), (90, u "serialPersistentFields"), (0, u "[Ljava/io/ObjectStreamField;"), (0, .class_ 1104), (0, u "java/lang/String$CaseInsensitiveComparator"), (1, .class_ 1107), (0, u "java/io/Serializable"), (0, .class_ 1109), (0, u "java/lang/Comparable"), (0, .class_ 1111), (0, u "java/lang/constant/Constable"), (0, .class_ 1113), (0, u "java/lang/constant/ConstantDesc"), (2, u "serialVersionUID"), (0, u "J"), (3, u "REPL"), (0, u "C"), (2, u "LATIN1"), (1, u "UTF16")] 323

def k9m0 : Method := { name := "<init>", desc := "()V", sig := { parameters := [], returnType := none }, accessFlags := 1, code := none }
def k9c1 : Code := { maxStack := 5, maxLocals := 2, code := jdk_42_method_3_code, exceptionTable := #[], attributes := #[] }
def k9m1 : Method := { name := "<init>", desc := "([C)V", sig := { parameters := [(.array .char)], returnType := none }, accessFlags := 1, code := some k9c1 }
def k9c2 : Code := { maxStack := 4, maxLocals := 6, code := jdk_42_method_149_code, exceptionTable := #[], attributes := #[] }
def k9m2 : Method := { name := "<init>", desc := "([CIILjava/lang/Void;)V", sig := { parameters := [(.array .char), .int, .int, (.object "java/lang/Void")], returnType := none }, accessFlags := 2, code := some k9c2 }
/-- java/lang/String -/
def k9 : Class := { plain "java/lang/String" (some 0) with
  accessFlags := 49
  interfaces := #[4, 5, 6, 7, 8]
  cf := some (fileOf pool9 10 #[.nestMembers #[1103]] #[{ accessFlags := 1, nameIndex := 5, descriptorIndex := 6, attributes := #[] }, { accessFlags := 1, nameIndex := 5, descriptorIndex := 1010, attributes := #[] }, { accessFlags := 2, nameIndex := 5, descriptorIndex := 29, attributes := #[] }] 49 2 #[1106, 1108, 575, 1110, 1112] #[{ accessFlags := 18, nameIndex := 13, descriptorIndex := 14, attributes := #[] }, { accessFlags := 18, nameIndex := 17, descriptorIndex := 18, attributes := #[] }, { accessFlags := 2, nameIndex := 21, descriptorIndex := 22, attributes := #[] }, { accessFlags := 2, nameIndex := 25, descriptorIndex := 26, attributes := #[] }, { accessFlags := 26, nameIndex := 1116, descriptorIndex := 1117, attributes := #[] }, { accessFlags := 24, nameIndex := 40, descriptorIndex := 26, attributes := #[] }, { accessFlags := 26, nameIndex := 1101, descriptorIndex := 1102, attributes := #[] }, { accessFlags := 26, nameIndex := 1121, descriptorIndex := 1122, attributes := #[] }, { accessFlags := 25, nameIndex := 599, descriptorIndex := 600, attributes := #[] }, { accessFlags := 24, nameIndex := 1125, descriptorIndex := 18, attributes := #[] }, { accessFlags := 24, nameIndex := 1127, descriptorIndex := 18, attributes := #[] }])
  fields := #[{ name := "value", type := (.array .byte), accessFlags := 18, slot := 0, constantValue := 0 }, { name := "coder", type := .byte, accessFlags := 18, slot := 1, constantValue := 0 }, { name := "hash", type := .int, accessFlags := 2, slot := 2, constantValue := 0 }, { name := "hashIsZero", type := .boolean, accessFlags := 2, slot := 3, constantValue := 0 }, { name := "serialVersionUID", type := .long, accessFlags := 26, slot := 0, constantValue := 0 }, { name := "COMPACT_STRINGS", type := .boolean, accessFlags := 24, slot := 1, constantValue := 0 }, { name := "serialPersistentFields", type := (.array (.object "java/io/ObjectStreamField")), accessFlags := 26, slot := 2, constantValue := 0 }, { name := "REPL", type := .char, accessFlags := 26, slot := 3, constantValue := 0 }, { name := "CASE_INSENSITIVE_ORDER", type := (.object "java/util/Comparator"), accessFlags := 25, slot := 4, constantValue := 0 }, { name := "LATIN1", type := .byte, accessFlags := 24, slot := 5, constantValue := 0 }, { name := "UTF16", type := .byte, accessFlags := 24, slot := 6, constantValue := 0 }]
  methods := #[k9m0, k9m1, k9m2]
  instanceTypes := #[(.array .byte), .byte, .int, .boolean]
  staticTypes := #[.long, .boolean, (.array (.object "java/io/ObjectStreamField")), .char, (.object "java/util/Comparator"), .byte, .byte]
  resolved := Array.replicate 1451 none
  statics := some 0 }

def pool10 : Array CpInfo := pool [(6, .class_ 8), (1, u "java/lang/Object"), (0, u "<init>"), (0, u "()V"), (1, .class_ 14), (1, u "java/lang/StringUTF16"), (31, u "$assertionsDisabled"), (0, u "Z"), (13, u "HI_BYTE_SHIFT"), (0, u "I"), (2, u "LO_BYTE_SHIFT"), (49, .methodref 12 116), (0, .nameAndType 117 118), (0, u "compress"), (0, u "([CI[BII)I"), (3, u "([CII)[B"), (138, u "coderFromArrayLen"), (0, u "([BI)B"), (106, .class_ 371), (1, u "java/lang/StringUTF16$LinesSpliterator"), (58, u "MAX_LENGTH"), (196, .class_ 628), (0, u "java/lang/StringUTF16$CodePointsSpliterator"), (0, .class_ 630), (0, u "java/lang/StringUTF16$CharsSpliterator")] 4

def k10m0 : Method := { name := "<init>", desc := "()V", sig := { parameters := [], returnType := none }, accessFlags := 0, code := none }
def k10c1 : Code := { maxStack := 2, maxLocals := 2, code := jdk_52_method_15_code, exceptionTable := #[], attributes := #[] }
def k10m1 : Method := { name := "coderFromArrayLen", desc := "([BI)B", sig := { parameters := [(.array .byte), .int], returnType := some .byte }, accessFlags := 8, code := some k10c1 }
def k10c2 : Code := { maxStack := 5, maxLocals := 6, code := jdk_52_method_16_code, exceptionTable := #[], attributes := #[] }
def k10m2 : Method := { name := "compress", desc := "([CII)[B", sig := { parameters := [(.array .char), .int, .int], returnType := some (.array .byte) }, accessFlags := 9, code := some k10c2 }
def k10c3 : Code := { maxStack := 3, maxLocals := 7, code := jdk_52_method_21_code, exceptionTable := #[], attributes := #[] }
def k10m3 : Method := { name := "compress", desc := "([CI[BII)I", sig := { parameters := [(.array .char), .int, (.array .byte), .int, .int], returnType := some .int }, accessFlags := 9, code := some k10c3 }
/-- java/lang/StringUTF16 -/
def k10 : Class := { plain "java/lang/StringUTF16" (some 0) with
  accessFlags := 48
  interfaces := #[]
  cf := some (fileOf pool10 12 #[.nestMembers #[627, 629, 369]] #[{ accessFlags := 0, nameIndex := 9, descriptorIndex := 10, attributes := #[] }, { accessFlags := 8, nameIndex := 261, descriptorIndex := 262, attributes := #[] }, { accessFlags := 9, nameIndex := 117, descriptorIndex := 122, attributes := #[] }, { accessFlags := 9, nameIndex := 117, descriptorIndex := 118, attributes := #[] }] 48 6 #[] #[{ accessFlags := 26, nameIndex := 61, descriptorIndex := 62, attributes := #[] }, { accessFlags := 26, nameIndex := 65, descriptorIndex := 62, attributes := #[] }, { accessFlags := 24, nameIndex := 430, descriptorIndex := 62, attributes := #[] }, { accessFlags := 4120, nameIndex := 46, descriptorIndex := 47, attributes := #[] }])
  fields := #[{ name := "HI_BYTE_SHIFT", type := .int, accessFlags := 26, slot := 0, constantValue := 0 }, { name := "LO_BYTE_SHIFT", type := .int, accessFlags := 26, slot := 1, constantValue := 0 }, { name := "MAX_LENGTH", type := .int, accessFlags := 24, slot := 2, constantValue := 0 }, { name := "$assertionsDisabled", type := .boolean, accessFlags := 4120, slot := 3, constantValue := 0 }]
  methods := #[k10m0, k10m1, k10m2, k10m3]
  instanceTypes := #[]
  staticTypes := #[.int, .int, .int, .boolean]
  resolved := Array.replicate 635 none
  statics := none }

def pool11 : Array CpInfo := pool [(4, .class_ 6), (1, u "java/lang/Object"), (0, u "<init>"), (0, u "()V"), (5, .class_ 16), (1, u "java/lang/StringLatin1"), (104, u "$assertionsDisabled"), (0, u "Z"), (98, .class_ 223), (1, u "java/lang/StringLatin1$LinesSpliterator"), (166, .class_ 391), (0, u "java/lang/StringLatin1$CharsSpliterator")] 3

def k11m0 : Method := { name := "<init>", desc := "()V", sig := { parameters := [], returnType := none }, accessFlags := 0, code := none }
/-- java/lang/StringLatin1 -/
def k11 : Class := { plain "java/lang/StringLatin1" (some 0) with
  accessFlags := 48
  interfaces := #[]
  cf := some (fileOf pool11 14 #[.nestMembers #[390, 221]] #[{ accessFlags := 0, nameIndex := 7, descriptorIndex := 8, attributes := #[] }] 48 4 #[] #[{ accessFlags := 4120, nameIndex := 121, descriptorIndex := 122, attributes := #[] }])
  fields := #[{ name := "$assertionsDisabled", type := .boolean, accessFlags := 4120, slot := 0, constantValue := 0 }]
  methods := #[k11m0]
  instanceTypes := #[]
  staticTypes := #[.boolean]
  resolved := Array.replicate 395 none
  statics := none }

def pool12 : Array CpInfo := pool [(2, .class_ 4), (1, u "java/lang/Object"), (0, u "<init>"), (0, u "()V"), (17, .class_ 26), (1, u "jdk/internal/util/Preconditions"), (28, .class_ 56), (0, u "jdk/internal/util/Preconditions$4"), (57, .class_ 115), (0, u "jdk/internal/util/Preconditions$1"), (7, u "SIOOBE_FORMATTER"), (0, u "Ljava/util/function/BiFunction;"), (0, .class_ 126), (0, u "jdk/internal/util/Preconditions$2"), (3, u "AIOOBE_FORMATTER"), (0, .class_ 132), (0, u "jdk/internal/util/Preconditions$3"), (3, u "IOOBE_FORMATTER")] 57

def k12m0 : Method := { name := "<init>", desc := "()V", sig := { parameters := [], returnType := none }, accessFlags := 1, code := none }
/-- jdk/internal/util/Preconditions -/
def k12 : Class := { plain "jdk/internal/util/Preconditions" (some 0) with
  accessFlags := 33
  interfaces := #[]
  cf := some (fileOf pool12 24 #[.nestMembers #[55, 131, 125, 114]] #[{ accessFlags := 1, nameIndex := 5, descriptorIndex := 6, attributes := #[] }] 33 2 #[] #[{ accessFlags := 25, nameIndex := 123, descriptorIndex := 124, attributes := #[] }, { accessFlags := 25, nameIndex := 130, descriptorIndex := 124, attributes := #[] }, { accessFlags := 25, nameIndex := 136, descriptorIndex := 124, attributes := #[] }])
  fields := #[{ name := "SIOOBE_FORMATTER", type := (.object "java/util/function/BiFunction"), accessFlags := 25, slot := 0, constantValue := 0 }, { name := "AIOOBE_FORMATTER", type := (.object "java/util/function/BiFunction"), accessFlags := 25, slot := 1, constantValue := 0 }, { name := "IOOBE_FORMATTER", type := (.object "java/util/function/BiFunction"), accessFlags := 25, slot := 2, constantValue := 0 }]
  methods := #[k12m0]
  instanceTypes := #[]
  staticTypes := #[(.object "java/util/function/BiFunction"), (.object "java/util/function/BiFunction"), (.object "java/util/function/BiFunction")]
  resolved := Array.replicate 194 none
  statics := some 1 }

def pool13 : Array CpInfo := pool [(9, u "<init>"), (6, .class_ 18), (1, u "java/lang/Object"), (0, u "()V"), (1, .class_ 23), (1, u "jdk/internal/util/ArraysSupport"), (0, u "LOG2_ARRAY_LONG_INDEX_SCALE"), (0, u "I"), (2, u "U"), (0, u "Ljdk/internal/misc/Unsafe;"), (8, u "BIG_ENDIAN"), (0, u "Z"), (8, u "LOG2_BYTE_BIT_SIZE"), (4, u "LOG2_ARRAY_INT_INDEX_SCALE"), (54, u "JLA"), (0, u "Ljdk/internal/access/JavaLangAccess;"), (11, u "LOG2_ARRAY_BOOLEAN_INDEX_SCALE"), (9, u "LOG2_ARRAY_BYTE_INDEX_SCALE"), (5, u "LOG2_ARRAY_CHAR_INDEX_SCALE"), (5, u "LOG2_ARRAY_SHORT_INDEX_SCALE"), (18, u "LOG2_ARRAY_FLOAT_INDEX_SCALE"), (24, u "LOG2_ARRAY_DOUBLE_INDEX_SCALE"), (89, u "T_BOOLEAN"), (2, u "T_CHAR"), (1, u "T_FLOAT"), (1, u "T_DOUBLE"), (1, u "T_BYTE"), (1, u "T_SHORT"), (1, u "T_INT"), (1, u "T_LONG"), (1, u "SOFT_MAX_ARRAY_LENGTH")] 83

def k13m0 : Method := { name := "<init>", desc := "()V", sig := { parameters := [], returnType := none }, accessFlags := 2, code := none }
/-- jdk/internal/util/ArraysSupport -/
def k13 : Class := { plain "jdk/internal/util/ArraysSupport" (some 0) with
  accessFlags := 33
  interfaces := #[]
  cf := some (fileOf pool13 21 #[] #[{ accessFlags := 2, nameIndex := 9, descriptorIndex := 19, attributes := #[] }] 33 16 #[] #[{ accessFlags := 24, nameIndex := 28, descriptorIndex := 29, attributes := #[] }, { accessFlags := 26, nameIndex := 38, descriptorIndex := 39, attributes := #[] }, { accessFlags := 25, nameIndex := 121, descriptorIndex := 25, attributes := #[] }, { accessFlags := 25, nameIndex := 131, descriptorIndex := 25, attributes := #[] }, { accessFlags := 25, nameIndex := 137, descriptorIndex := 25, attributes := #[] }, { accessFlags := 25, nameIndex := 143, descriptorIndex := 25, attributes := #[] }, { accessFlags := 25, nameIndex := 53, descriptorIndex := 25, attributes := #[] }, { accessFlags := 25, nameIndex := 24, descriptorIndex := 25, attributes := #[] }, { accessFlags := 25, nameIndex := 162, descriptorIndex := 25, attributes := #[] }, { accessFlags := 25, nameIndex := 187, descriptorIndex := 25, attributes := #[] }, { accessFlags := 26, nameIndex := 48, descriptorIndex := 25, attributes := #[] }, { accessFlags := 25, nameIndex := 277, descriptorIndex := 25, attributes := #[] }, { accessFlags := 25, nameIndex := 280, descriptorIndex := 25, attributes := #[] }, { accessFlags := 25, nameIndex := 282, descriptorIndex := 25, attributes := #[] }, { accessFlags := 25, nameIndex := 284, descriptorIndex := 25, attributes := #[] }, { accessFlags := 25, nameIndex := 286, descriptorIndex := 25, attributes := #[] }, { accessFlags := 25, nameIndex := 288, descriptorIndex := 25, attributes := #[] }, { accessFlags := 25, nameIndex := 290, descriptorIndex := 25, attributes := #[] }, { accessFlags := 25, nameIndex := 292, descriptorIndex := 25, attributes := #[] }, { accessFlags := 26, nameIndex := 108, descriptorIndex := 109, attributes := #[] }, { accessFlags := 25, nameIndex := 294, descriptorIndex := 25, attributes := #[] }])
  fields := #[{ name := "U", type := (.object "jdk/internal/misc/Unsafe"), accessFlags := 24, slot := 0, constantValue := 0 }, { name := "BIG_ENDIAN", type := .boolean, accessFlags := 26, slot := 1, constantValue := 0 }, { name := "LOG2_ARRAY_BOOLEAN_INDEX_SCALE", type := .int, accessFlags := 25, slot := 2, constantValue := 0 }, { name := "LOG2_ARRAY_BYTE_INDEX_SCALE", type := .int, accessFlags := 25, slot := 3, constantValue := 0 }, { name := "LOG2_ARRAY_CHAR_INDEX_SCALE", type := .int, accessFlags := 25, slot := 4, constantValue := 0 }, { name := "LOG2_ARRAY_SHORT_INDEX_SCALE", type := .int, accessFlags := 25, slot := 5, constantValue := 0 }, { name := "LOG2_ARRAY_INT_INDEX_SCALE", type := .int, accessFlags := 25, slot := 6, constantValue := 0 }, { name := "LOG2_ARRAY_LONG_INDEX_SCALE", type := .int, accessFlags := 25, slot := 7, constantValue := 0 }, { name := "LOG2_ARRAY_FLOAT_INDEX_SCALE", type := .int, accessFlags := 25, slot := 8, constantValue := 0 }, { name := "LOG2_ARRAY_DOUBLE_INDEX_SCALE", type := .int, accessFlags := 25, slot := 9, constantValue := 0 }, { name := "LOG2_BYTE_BIT_SIZE", type := .int, accessFlags := 26, slot := 10, constantValue := 0 }, { name := "T_BOOLEAN", type := .int, accessFlags := 25, slot := 11, constantValue := 0 }, { name := "T_CHAR", type := .int, accessFlags := 25, slot := 12, constantValue := 0 }, { name := "T_FLOAT", type := .int, accessFlags := 25, slot := 13, constantValue := 0 }, { name := "T_DOUBLE", type := .int, accessFlags := 25, slot := 14, constantValue := 0 }, { name := "T_BYTE", type := .int, accessFlags := 25, slot := 15, constantValue := 0 }, { name := "T_SHORT", type := .int, accessFlags := 25, slot := 16, constantValue := 0 }, { name := "T_INT", type := .int, accessFlags := 25, slot := 17, constantValue := 0 }, { name := "T_LONG", type := .int, accessFlags := 25, slot := 18, constantValue := 0 }, { name := "JLA", type := (.object "jdk/internal/access/JavaLangAccess"), accessFlags := 26, slot := 19, constantValue := 0 }, { name := "SOFT_MAX_ARRAY_LENGTH", type := .int, accessFlags := 25, slot := 20, constantValue := 0 }]
  methods := #[k13m0]
  instanceTypes := #[]
  staticTypes := #[(.object "jdk/internal/misc/Unsafe"), .boolean, .int, .int, .int, .int, .int, .int, .int, .int, .int, .int, .int, .int, .int, .int, .int, .int, .int, (.object "jdk/internal/access/JavaLangAccess"), .int]
  resolved := Array.replicate 378 none
  statics := none }

def pool14 : Array CpInfo := pool [(1, u "java/lang/Cloneable"), (0, .class_ 1), (0, u "java/lang/Object"), (0, .class_ 3)] 3

/-- java/lang/Cloneable -/
def k14 : Class := { plain "java/lang/Cloneable" (some 0) with
  accessFlags := 1537
  interfaces := #[]
  cf := some (fileOf pool14 2 #[] #[] 1537 4 #[] #[])
  fields := #[]
  methods := #[]
  instanceTypes := #[]
  staticTypes := #[]
  resolved := Array.replicate 8 none
  statics := none }

/-- the primitive byte -/
def k15 : Class := { plain "byte" none with kind := .primitive 'B', accessFlags := 0x411 }
/-- [B -/
def k16 : Class := { plain "[B" (some 0) with kind := .array 15 .byte, interfaces := #[14, 4], accessFlags := 1041 }

/-- the primitive char -/
def k17 : Class := { plain "char" none with kind := .primitive 'C', accessFlags := 0x411 }
/-- [C -/
def k18 : Class := { plain "[C" (some 0) with kind := .array 17 .char, interfaces := #[14, 4], accessFlags := 1041 }

/-- the primitive int -/
def k19 : Class := { plain "int" none with kind := .primitive 'I', accessFlags := 0x411 }
/-- [I -/
def k20 : Class := { plain "[I" (some 0) with kind := .array 19 .int, interfaces := #[14, 4], accessFlags := 1041 }

def heap : Heap := #[{ cls := 9, slots := #[.long 0, .int 1, .null, .int 0, .null, .int 0, .int 0], vm := .statics 9 },
  { cls := 12, slots := #[.null, .null, .null], vm := .statics 12 }]
def classes : Array Class := #[k0, k1, k2, k3, k4, k5, k6, k7, k8, k9, k10, k11, k12, k13, k14, k15, k16, k17, k18, k19, k20]
def interned : List (Array UInt16 × Addr) := []
def slotsUsed : Nat := 10
def theMethod : MethodId := ⟨1, 1⟩
def args0 : Array Value := #[.int 5, .int 0, .int 7, .int 65601]
def aboutOver (below : List Frame) : State where
  vm := { classes := classes, interned := interned.toArray }
  heap := heap
  slotsUsed := slotsUsed
  threads := #[{ frames := .invoking theMethod args0 :: below }]
def below0 : List Frame := [.native { method := ⟨0, 0⟩, args := #[] }]
def about1 : State := aboutOver below0
def p0 : Program := .bare "" "" ""
def e0 : Env := launch0.env 0 0 0
theorem w_frames : about1.frames = Frame.invoking theMethod args0 :: below0 := rfl
set_option maxRecDepth 65536 in
theorem w_args : argsFit about1.vm theMethod args0 = true := by decide +kernel
set_option maxRecDepth 65536 in
theorem w_heap : heapFits about1 = true := by decide +kernel
set_option maxRecDepth 65536 in
theorem w_runnable : about1.curStatus? = some .runnable := by decide +kernel
set_option maxRecDepth 65536 in
theorem w_alone : about1.alone = true := by decide +kernel
set_option maxRecDepth 65536 in
theorem w_named : about1.methodNamed? x = some theMethod := by decide +kernel
set_option maxRecDepth 65536 in
theorem w_hears : about1.hears theMethod below0 = true := by decide +kernel
set_option maxRecDepth 65536 in
theorem w_ripe : about1.ripe theMethod args0 below0 = true := by decide +kernel
theorem w_running : about1.status = .running := rfl
set_option maxRecDepth 65536 in
theorem w_room : about1.hasRoom e0.platform room_1 = true :=
  launch0.hasRoom_least _ room_1 (by decide +kernel) (by decide +kernel) (by decide +kernel) (by decide +kernel) (by decide +kernel) (by decide +kernel)
theorem allAtoms_all (ts : List Jvm.Cond) (a : Array Jvm.Value) (st : Jvm.State) : (allAtoms ts).before a st = ts.all (fun c => c.before a st) := by
  induction ts with
  | nil => rfl
  | cons c t ih =>
    show (Jvm.Cond.and c (allAtoms t)).before a st = _
    rw [Jvm.Cond.before_and, ih, List.all_cons]
def words1 : List Jvm.Cond := Jvm.Cond.code x code maxLocals ret :: tables_1
/-- a 'code' word, met by the world's own term for the bytes: nothing is compared byte by byte -/
theorem code_word {y : MethodName} {bytes : ByteArray} {mx : Nat} {rt : Option FieldType} {a : Array Value} {s : State} {m : MethodId} {meth : Method} {c : Code} (h1 : s.methodNamed? y = some m) (h2 : s.vm.method? m = some meth) (h3 : meth.code = some c) (h4 : c.code = bytes)
    (h5 : (c.maxLocals == mx && c.exceptionTable.isEmpty && decide (c.maxStack ≤ mostOperands) && decide (meth.sig.returnType = rt) && !meth.locks && decide (parseMethodDescriptor y.desc = some meth.sig)) = true) : (Jvm.Cond.code y bytes mx rt).before a s = true := by
  simp only [Bool.and_eq_true, beq_iff_eq, Bool.not_eq_true', decide_eq_true_eq] at h5
  obtain ⟨⟨⟨⟨⟨g1, g2⟩, g3⟩, g4⟩, g5⟩, g6⟩ := h5
  simp [Cond.before, Cond.holds, Cond.value, h1, h2, h3, h4, g1, g2, g3, g4, g5, g6]
def isCode : Jvm.Cond → Bool
  | .code _ _ _ _ => true
  | _ => false
theorem all_split {L : List Jvm.Cond} {P : Jvm.Cond → Bool} (h1 : L.all (fun c => isCode c || P c) = true) (h2 : ∀ c ∈ L.filter isCode, P c = true) : L.all P = true := by
  refine List.all_eq_true.mpr fun c hc => ?_
  have h := List.all_eq_true.mp h1 c hc
  rcases Bool.eq_false_or_eq_true (isCode c) with hi | hi
  · exact h2 c (List.mem_filter.mpr ⟨hc, hi⟩)
  · simpa [hi] using h
set_option maxRecDepth 65536 in
theorem w_c0 : (Jvm.Cond.code x code maxLocals ret).before args0 about1 = true := code_word (m := ⟨1, 1⟩) (meth := k1m1) (c := k1c1) (by decide +kernel) rfl rfl rfl (by decide +kernel)
set_option maxRecDepth 65536 in
theorem w_c1 : (Jvm.Cond.code ({ cls := "com/example/accordant/accordant/policy/Scope", name := "<init>", desc := "(Ljava/lang/String;Ljava/lang/String;Ljava/lang/String;)V" } : Jvm.MethodName) prog_47_method_1_code (4 : Nat) (Option.none : Option Jvm.ClassFile.FieldType)).before args0 about1 = true := code_word (m := ⟨3, 0⟩) (meth := k3m0) (c := k3c0) (by decide +kernel) rfl rfl rfl (by decide +kernel)
set_option maxRecDepth 65536 in
theorem w_c2 : (Jvm.Cond.code ({ cls := "java/lang/Record", name := "<init>", desc := "()V" } : Jvm.MethodName) jdk_30_method_1_code (1 : Nat) (Option.none : Option Jvm.ClassFile.FieldType)).before args0 about1 = true := code_word (m := ⟨2, 0⟩) (meth := k2m0) (c := k2c0) (by decide +kernel) rfl rfl rfl (by decide +kernel)
set_option maxRecDepth 65536 in
theorem w_c3 : (Jvm.Cond.code ({ cls := "java/lang/Object", name := "<init>", desc := "()V" } : Jvm.MethodName) object_method_1_code (1 : Nat) (Option.none : Option Jvm.ClassFile.FieldType)).before args0 about1 = true := code_word (m := ⟨0, 0⟩) (meth := k0m0) (c := k0c0) (by decide +kernel) rfl rfl rfl (by decide +kernel)
set_option maxRecDepth 65536 in
theorem w_c4 : (Jvm.Cond.code ({ cls := "com/example/accordant/accordant/policy/Scope", name := "shape", desc := "()I" } : Jvm.MethodName) prog_47_method_2_code (1 : Nat) (Option.some Jvm.ClassFile.FieldType.int)).before args0 about1 = true := code_word (m := ⟨3, 1⟩) (meth := k3m1) (c := k3c1) (by decide +kernel) rfl rfl rfl (by decide +kernel)
set_option maxRecDepth 65536 in
theorem w_c5 : (Jvm.Cond.code ({ cls := "com/example/accordant/accordant/policy/ScopeShapePinLaw", name := "str", desc := "(I)Ljava/lang/String;" } : Jvm.MethodName) method_3_code (1 : Nat) (Option.some (Jvm.ClassFile.FieldType.object "java/lang/String"))).before args0 about1 = true := code_word (m := ⟨1, 2⟩) (meth := k1m2) (c := k1c2) (by decide +kernel) rfl rfl rfl (by decide +kernel)
set_option maxRecDepth 65536 in
theorem w_c6 : (Jvm.Cond.code ({ cls := "java/lang/String", name := "<init>", desc := "([C)V" } : Jvm.MethodName) jdk_42_method_3_code (2 : Nat) (Option.none : Option Jvm.ClassFile.FieldType)).before args0 about1 = true := code_word (m := ⟨9, 1⟩) (meth := k9m1) (c := k9c1) (by decide +kernel) rfl rfl rfl (by decide +kernel)
set_option maxRecDepth 65536 in
theorem w_c7 : (Jvm.Cond.code ({ cls := "java/lang/String", name := "<init>", desc := "([CIILjava/lang/Void;)V" } : Jvm.MethodName) jdk_42_method_149_code (6 : Nat) (Option.none : Option Jvm.ClassFile.FieldType)).before args0 about1 = true := code_word (m := ⟨9, 2⟩) (meth := k9m2) (c := k9c2) (by decide +kernel) rfl rfl rfl (by decide +kernel)
set_option maxRecDepth 65536 in
theorem w_c8 : (Jvm.Cond.code ({ cls := "java/lang/StringUTF16", name := "compress", desc := "([CII)[B" } : Jvm.MethodName) jdk_52_method_16_code (6 : Nat) (Option.some (Jvm.ClassFile.FieldType.array Jvm.ClassFile.FieldType.byte))).before args0 about1 = true := code_word (m := ⟨10, 2⟩) (meth := k10m2) (c := k10c2) (by decide +kernel) rfl rfl rfl (by decide +kernel)
set_option maxRecDepth 65536 in
theorem w_c9 : (Jvm.Cond.code ({ cls := "java/lang/StringUTF16", name := "compress", desc := "([CI[BII)I" } : Jvm.MethodName) jdk_52_method_21_code (7 : Nat) (Option.some Jvm.ClassFile.FieldType.int)).before args0 about1 = true := code_word (m := ⟨10, 3⟩) (meth := k10m3) (c := k10c3) (by decide +kernel) rfl rfl rfl (by decide +kernel)
set_option maxRecDepth 65536 in
theorem w_c10 : (Jvm.Cond.code ({ cls := "java/lang/StringUTF16", name := "coderFromArrayLen", desc := "([BI)B" } : Jvm.MethodName) jdk_52_method_15_code (2 : Nat) (Option.some Jvm.ClassFile.FieldType.byte)).before args0 about1 = true := code_word (m := ⟨10, 1⟩) (meth := k10m1) (c := k10c1) (by decide +kernel) rfl rfl rfl (by decide +kernel)
def codes1 : List Jvm.Cond := [Jvm.Cond.code x code maxLocals ret, Jvm.Cond.code ({ cls := "com/example/accordant/accordant/policy/Scope", name := "<init>", desc := "(Ljava/lang/String;Ljava/lang/String;Ljava/lang/String;)V" } : Jvm.MethodName) prog_47_method_1_code (4 : Nat) (Option.none : Option Jvm.ClassFile.FieldType), Jvm.Cond.code ({ cls := "java/lang/Record", name := "<init>", desc := "()V" } : Jvm.MethodName) jdk_30_method_1_code (1 : Nat) (Option.none : Option Jvm.ClassFile.FieldType), Jvm.Cond.code ({ cls := "java/lang/Object", name := "<init>", desc := "()V" } : Jvm.MethodName) object_method_1_code (1 : Nat) (Option.none : Option Jvm.ClassFile.FieldType), Jvm.Cond.code ({ cls := "com/example/accordant/accordant/policy/Scope", name := "shape", desc := "()I" } : Jvm.MethodName) prog_47_method_2_code (1 : Nat) (Option.some Jvm.ClassFile.FieldType.int), Jvm.Cond.code ({ cls := "com/example/accordant/accordant/policy/ScopeShapePinLaw", name := "str", desc := "(I)Ljava/lang/String;" } : Jvm.MethodName) method_3_code (1 : Nat) (Option.some (Jvm.ClassFile.FieldType.object "java/lang/String")), Jvm.Cond.code ({ cls := "java/lang/String", name := "<init>", desc := "([C)V" } : Jvm.MethodName) jdk_42_method_3_code (2 : Nat) (Option.none : Option Jvm.ClassFile.FieldType), Jvm.Cond.code ({ cls := "java/lang/String", name := "<init>", desc := "([CIILjava/lang/Void;)V" } : Jvm.MethodName) jdk_42_method_149_code (6 : Nat) (Option.none : Option Jvm.ClassFile.FieldType), Jvm.Cond.code ({ cls := "java/lang/StringUTF16", name := "compress", desc := "([CII)[B" } : Jvm.MethodName) jdk_52_method_16_code (6 : Nat) (Option.some (Jvm.ClassFile.FieldType.array Jvm.ClassFile.FieldType.byte)), Jvm.Cond.code ({ cls := "java/lang/StringUTF16", name := "compress", desc := "([CI[BII)I" } : Jvm.MethodName) jdk_52_method_21_code (7 : Nat) (Option.some Jvm.ClassFile.FieldType.int), Jvm.Cond.code ({ cls := "java/lang/StringUTF16", name := "coderFromArrayLen", desc := "([BI)B" } : Jvm.MethodName) jdk_52_method_15_code (2 : Nat) (Option.some Jvm.ClassFile.FieldType.byte)]
set_option maxRecDepth 65536 in
theorem codes_eq : words1.filter isCode = codes1 := rfl
theorem w_codes : ∀ c ∈ words1.filter isCode, c.before args0 about1 = true := by
  rw [codes_eq]
  intro c hc
  simp only [codes1, List.mem_cons, List.not_mem_nil, or_false] at hc
  rcases hc with rfl | rfl | rfl | rfl | rfl | rfl | rfl | rfl | rfl | rfl | rfl
  · exact w_c0
  · exact w_c1
  · exact w_c2
  · exact w_c3
  · exact w_c4
  · exact w_c5
  · exact w_c6
  · exact w_c7
  · exact w_c8
  · exact w_c9
  · exact w_c10
set_option maxRecDepth 65536 in
theorem w_t1 : (words1.take 24).all (fun c => isCode c || c.before args0 about1) = true := by decide +kernel
set_option maxRecDepth 65536 in
theorem w_t2 : ((words1.drop 24).take 24).all (fun c => isCode c || c.before args0 about1) = true := by decide +kernel
set_option maxRecDepth 65536 in
theorem w_t3 : ((words1.drop 24).drop 24).all (fun c => isCode c || c.before args0 about1) = true := by decide +kernel
theorem w_tables : (allAtoms (Jvm.Cond.code x code maxLocals ret :: tables_1)).before args0 about1 = true := by
  rw [allAtoms_all]
  show words1.all (fun c => c.before args0 about1) = true
  refine all_split ?_ w_codes
  rw [← List.take_append_drop 24 words1, List.all_append, w_t1, ← List.take_append_drop 24 (words1.drop 24), List.all_append, w_t2, w_t3]
  rfl
set_option maxRecDepth 65536 in
theorem w_rest : rest_1_c.before args0 about1 = true := by decide +kernel
set_option maxRecDepth 65536 in
theorem w_case : (Jvm.Cond.and given_1 narrow_1).before args0 about1 = true := by decide +kernel
set_option maxRecDepth 65536 in
theorem w_consts : constsHeld consts_1 about1 := Jvm.Lit.constsHeldB_iff.mp (by decide +kernel)
theorem w_applies : (headSpec (Jvm.Cond.code x code maxLocals ret :: tables_1) room_1).applies x e0.platform about1 = true :=
  (Spec.applies_iff w_frames).mpr ⟨w_running, w_runnable, w_alone, w_named, w_hears, w_ripe, w_room, w_tables⟩
theorem atStart : AtStart classFile x code maxLocals ret World_1 tables_1 room_1 Calls_1 rest_1 Pre_1 launch0 p0 e0 about1 theMethod args0 below0 :=
  ⟨lists_1, trivial, launch0.admits_env _ _ _, launch0.least_env, fairChoices_fair.cas, fairChoices_fair.clock, w_frames, w_args, w_heap, w_applies, ⟨w_consts, trivial⟩, w_rest, w_case⟩
end start1
theorem witness_1 : WitnessClaimed_1 := ⟨start1.p0, start1.e0, start1.about1, start1.theMethod, start1.args0, start1.below0, start1.atStart⟩
end Jvm.Pilot.@@N@@
